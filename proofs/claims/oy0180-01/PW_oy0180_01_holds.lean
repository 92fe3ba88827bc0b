import PyProof.Rows.All
import Wide.All
import OpenK.AllK
import Wide.FinOn
import KE.KSortTup
import KE.KEqDict
import PyProof.IsiHeapPairs
import Lean
import PySem.Challenge.RW_oy0180_01
set_option Elab.async false
set_option tactic.hygienic false
set_option compiler.extract_closed false
set_option linter.unusedVariables false
set_option maxRecDepth 1000000
set_option maxHeartbeats 8000000
open PySem PySem.W PyProof.Rows
namespace Mine.Internal
@[elab_as_elim] theorem RwS1 {α : Sort _} {p : α → Prop} {a b : α} (h : b = a) (n : p a) : p b := Eq.substr h n
@[elab_as_elim] theorem RwT1 {α : Sort _} {p : α → Prop} {a b : α} (h : a = b) (n : p a) : p b := Eq.subst h n
local macro_rules (kind := Lean.Parser.Tactic.rewriteSeq) | s => do
  let q := s[2]
  let a := q[1]
  let f := a[0]
  if s[1][0].getNumArgs + s[3].getNumArgs != 0 then Lean.Macro.throwUnsupported
  if a.getNumArgs == 1 then
    let h := ⟨f[1]⟩
    let c := Lean.mkCIdent (if f[0].getNumArgs == 0 then ``RwS1 else ``RwT1)
    `(tactic| first | refine $c $h ?_ | refine $c ($h ..) ?_ | fail)
  else
    let g := fun x => s.setArg 2 (q.setArg 1 (Lean.mkNullNode x))
    return Lean.mkNullNode #[g #[f], g (a.getArgs.drop 2)]
local macro_rules (kind := Lean.Parser.Tactic.omega) | s => `(tactic| lia)
local macro_rules (kind := Lean.Parser.Tactic.omega) | s => `(tactic| decide)
open _root_.Nat renaming le_trans->Aa,le_refl->Ah,lt_of_le_of_lt->Av,le_of_eq->AG,le_add_left->AH,lt_of_lt_of_le->AJ,add_le_add_left->AK,zero_le->AP,le_of_ble_eq_true->AX,le_succ->A8,add_le_add_right->Bb,le_succ_of_le->Bp,le_add_right->Bq,not_lt->BC,add_comm->BE,ne_of_lt->BN,add_assoc->BV,ne_of_gt->Cm,lt_trans->Cn,le_of_lt->Cx,sub_le->CY,le_of_add_right_le->Dr,succ_le_succ->DU,lt_succ_self->DV,add_le_add->DW,min_le_left->Eg,lt_succ_of_le->Eo,zero_add->EP,succ_pos->EQ,min_le_right->ER,lt_irrefl->Fb,min_eq_left->Fg,lt_succ_of_lt->FN,le_of_succ_le->FO,zero_lt_two->GU,pos_of_ne_zero->Hr,mod_two_eq_zero_or_one->Hs,lt_of_lt_of_eq->Ht,le_zero->Ic,pow_succ'->Il,mul_div_cancel_left->I7,min_eq_right->I8,lt_add_of_pos_right->I9,mul_succ->Jy,lt_of_succ_lt_succ->Jz,le_antisymm->JX,testBit_or->KG
open _root_.PySem renaming wpAny_bind->Ab,wpAny_pure->Ag,wpAny_execs_cons->Aj,wpAny_standAt->AL,wpAny_execs_nil->Bd,wpAny_holding->Bk,wpAny_Call_NameR->Bu,wpAny_with_toks->BG,wpAny_newObj_type->BJ,wpAny_field->BQ,wpAny_truthy_bool->CQ,wpAny_Return_some->CR,pushCells_keeps->CV,wpAny_mono->C5,wpAny_of_eq->Dc,wpAny_loadName_local->DQ,sizeLine_eq->EU,wpAny_loadPart'->Fy,wpAny_setField_rec->FK,wpAny_call->FL,wpAny_Constant_str->FM,wpAny_getItem_str_slice->FP,wpAny_callSpecial?_slot->FQ,wpAny_setField->Gg,wpAny_loadPart_at->Gh,wpAny_assign_Name->Gi,wpAny_call_entry->GM,wpAny_Try_except->GN,typeIs_str->GO,callWith_excType->GR,codeAny_call_builtin->G8,wpAny_loadName_cell->Hv,codeAny_forLoop_any->HK,wpAny_ite->H6,call_meets->Ij,arm_eval_Tuple->Ik,wpAny_BinOp->Ja,wpAny_updatePart->J0,wpAny_If->J1,wpAny_runOwn->KA,wpAny_rule->KB,wpAny_Name->KC,post_val_or_str->KV,wpAny_isTrue_Compare1->Lg,codeAny_call_function->LC,wpAny_alloc->L5
open _root_.List renaming mem_cons_self->Ac,mem_cons_of_mem->Ad,mem_cons->Ae,length_map->Af,mem_map->Al,mem_append->Ao,mem_append_right->At,getElem?_map->Aw,getD_eq_getElem?_getD->Ax,length_append->AA,mem_range->AC,all_eq_true->AE,mem_append_left->AO,mem_filter->AS,not_mem_nil->AU,getElem?_eq_getElem->AW,map_map->AZ,map_cons->A0,append_assoc->Bg,map_congr_left->By,mem_singleton->BI,map_append->BR,length_filter_le->BW,length_eq_zero_iff->B6,filter_cons_of_pos->B7,filter_cons_of_neg->B8,take_of_length_le->Cj,all_cons->Ct,any_eq_true->CD,append_nil->CN,getElem?_eq_some_iff->CS,mem_of_getElem?->C4,filter_congr->C8,nodup_cons->Db,getElem?_range->Dj,filter_eq_self->Dk,drop_eq_nil_of_le->Dp,contains_iff_mem->Dw,forIn_cons->DD,size_toArray->DH,filter_map->Ef,length_take->ED,length_drop->EE,length_cons->EF,filter_cons->EG,drop_eq_getElem_cons->ES,length_erase_of_mem->E9,flatMap_cons->FG,filter_eq_nil_iff->FH,isEmpty_iff->Gc,getElem_mem->Ge,cons_append->Gf,nil_append->GL,mergeSort_perm->GV,map_eq_nil_iff->GX,length_reverse->GY,pairwise_cons->Hn,mapM_cons->Ho,contains_cons->Hp,getElem?_nil->HZ,pairwise_mergeSort->IL,mem_flatMap->IM,map_reverse->IN,flatMap_def->ZZq,map_nil->Jh,find?_cons_of_neg->Ji,of_mem_zip->JA,idxOf_cons->JB,foldl_cons->JC,take_append_drop->JY
open _root_.Bool renaming and_eq_true_iff->Ai,and_eq_true->As,false_eq_true->A3,eq_iff_iff->BO,false_ne_true->Ce,or_eq_true->Cg,not_eq_true'->FJ,and_true->Gp
open _root_.PySem.Heap renaming get?_push_size->Ak,get?_push_of_some->Am,lt_size->Az,get?_update_self->Br,size_push->BS,get?_update_other->Ck
open _root_.PySem.Calls renaming spliced_cons->Ap,spliced_nil->AR,evalArgs_plain->AV,callWith_function->B5,callWith_builtin->Dn
open _root_.Option renaming bind_eq_some_iff->Aq,map_eq_some_iff->AY,isSome_iff_exists->Cq,or_eq_some_iff->Jf
open _root_.Option.some renaming inj->Au
open _root_.Int renaming le_trans->AT,natCast_nonneg->Bs,ediv_ediv_of_nonneg->Bw,toNat_of_nonneg->BX,ofNat_lt->B4,lt_of_le_of_lt->Cf,not_lt->DL,lt_of_lt_of_le->D6,emod_lt_of_pos->D7,le_antisymm->Eh,emod_nonneg->Ei,ofNat_le->ET,natCast_mul->Fh,max_eq_right->Gm,ofNat_inj->GJ,mul_assoc->GK,mul_left_comm->Ih,le_refl->Ii,le_of_lt->JD,add_zero->JE,sub_nonneg_of_le->KH
open _root_.PySem.Heap.SameBut renaming update->Be
open _root_.LawfulBEq renaming eq_of_beq->BB
open _root_.Array renaming getElem?_eq_some_iff->Cb,length_toList->CK,all_eq_true_iff_forall_mem->Fw,getElem?_modify->FY,mem_toList_iff->Gq
open _root_.PyProof.Rows renaming tail_any->CH
open _root_.PySem.Obj renaming isFreed_of_fields->CU,data_mapFields->CX,cls_mapFields->H9
open _root_.PySem.F renaming slot_tuple_iterator_next->DB,slot_enumerate_next->Ee,slot_str_split->JF
open _root_.PySem.W.Looks renaming of_pure->DI,ld->Fv
open _root_.PySem.W renaming looks_field->FU
open _root_.List.Perm renaming eq_of_pairwise->G9
open _root_.Nat.succ renaming inj->Ia
noncomputable abbrev B3:=Value->Shared->Prop
theorem C6 {G:Prop}(H:∀g:Prop,(G->g)->g):G:=H G id
theorem eL (h:n=L-i):n-1=L-(i+1):=h▸Nat.sub_sub L i 1
theorem nK (h:n=L-i)(a:i<L):n-1<n:=Nat.sub_lt (h▸Nat.sub_pos_of_lt a) Nat.one_pos
theorem Zh (n:Nat):((n:Int)<0)=False:=eq_false (DL.mpr (Bs n))
theorem Oy (i n:Nat):max (0:Int) (min (i:Int) (n:Int))=((min i n:Nat):Int):=by
 rcases Nat.le_total i n with h |h
 ·rw[Fg h,Int.min_eq_left (ET.mpr h),Gm (Bs _)]
 ·rw[I8 h,Int.min_eq_right (ET.mpr h),Gm (Bs _)]
theorem eP (x:Int){n:Nat}(h:0<n):(x%(n:Int)).toNat<n:=(Int.toNat_lt (Ei _ (Int.ne_of_gt (B4.mpr h)))).mpr (D7 _ (B4.mpr h))
theorem Ye {x:Int}{n:Nat}(a:-(n:Int)<x)(b:x<n):x.natAbs<n:=by
 cases x with
 |ofNat m=>exact B4.mp b
 |negSucc m=>exact B4.mp (Int.neg_lt_neg_iff.mp a)
theorem jG {x:Int}{n:Nat}(a:0<=x)(h:x<n):∃m:Nat,x=m/\m<n:=⟨x.toNat,(BX a).symm,B4.mp ((BX a).symm▸h)⟩
theorem bU (p:Int):0+p*1=p:=by rw[Int.mul_one,Int.zero_add]
theorem Mq {P:Nat->Prop}(h:∀n<m,P n)(k:P m):∀n<m+1,P n:=λ n a=>(Nat.lt_succ_iff_lt_or_eq.mp a).elim (h n) λ e=>e▸k
theorem Jj {P:Nat->Prop}:∀n<0,P n:=λ n h=>absurd h (Nat.not_lt_zero n)
theorem kD {b:Type}{P:List b->Prop}(h:P []):∀l:List b,l.length<=0->P l:=λ l c=>by
 cases l with
 |nil=>exact h
 |cons a l=>exact absurd c (Nat.not_succ_le_zero _)
theorem Lv {b:Type}{P:List b->Prop}(c:P [])(h:∀(a:b)(l:List b),l.length<=n->P (a::l)):∀l:List b,l.length<=n+1->P l:=λ l d=>by
 cases l with
 |nil=>exact c
 |cons a l=>exact h a l (Nat.le_of_succ_le_succ d)
theorem Zy {b:Type}{P:List b->Prop}(h:∀(a:b)(l:List b),l.length=n->P (a::l)):∀l:List b,l.length=n+1->P l:=λ l c=>by
 cases l with
 |nil=>contradiction
 |cons a l=>exact h a l (Ia c)
theorem kC {e:Type}{P:List e->Prop}(h:∀a b c d:e,P [a,b,c,d]):∀l:List e,l.length=4->P l:=
 Zy λ a=>Zy λ b=>Zy λ c=>Zy λ d l f=>by rw[B6.mp f];exact h a b c d
theorem BZ {a:Type}{P:Prop}{x:Option a}{o:a}(h:x=none)(k:x=some o):P:=by rw[h] at k;contradiction
theorem AF {c:Type}{x:Option c}{a b:c}(h:x=some a)(k:x=some b):a=b:=Au (h.symm.trans k)
theorem eO {i L:Nat}(h:i<=L)(k:¬i<L):i=L:=JX h (BC.mp k)
theorem P8 (h:a+c*(n+1)<m)(d:b<=c):a+b+c*n<m:=
 Av (by rw[Jy,Nat.add_right_comm,<-BV];exact AK d _) h
inductive PV where
 |none
 |bool (b:Bool)
 |int (i:Int)
 |str (s:Str)
 |list (xs:List PV)
 |aw (xs:List PV)
 |dict (es:List (Str×PV))
 |obj (v:Value)
 deriving Inhabited
noncomputable def Bf:Nat:=1048576
theorem Gb:5000<=Bf:=by decide+kernel
theorem DX:Bf<=sizeLine:=by decide+kernel
structure Bl where
 prog:Program
 w:World
 h0:Heap
 TB:List Addr
 ox:Heap->Prop
 np:∀h h',(∀b o vs,h.get? b=some o->o.data=.fields vs->(o.cls=.none\/o.cls=.type "code")->h'.get? b=some o)->ox h->ox h'
noncomputable abbrev Bl.M (W:Bl):Model:=model W.prog W.w
noncomputable abbrev Bl.K (W:Bl):KeyKind W.prog W.w Str:=_root_.PySem.strKind W.prog W.w
noncomputable abbrev Fd (a:Array Value)(n:Nat):Obj:={cls:=.type "list",data:=.seq a n}
noncomputable abbrev Jk (a:Array Value)(n:Nat):Obj:={cls:=.type "tuple",data:=.seq a n}
mutual
inductive Rp (W:Bl)(X:List Addr)(h:Heap):Value->PV->Prop
 |none:Rp W X h .none .none
 |bool (b):Rp W X h (.bool b) (.bool b)
 |int (i t):Rp W X h (.int i t) (.int i)
 |str (x t):PyData.strOk x=true->x.length<=Bf->Rp W X h (.str x t) (.str x)
 |obj (v):Rp W X h v (.obj v)
 |list {a vs n xs}:h.get? a=some (Fd vs n)->a∉X->vs.size<=Bf->RpL W X h vs.toList xs->Rp W X h (.ref a) (.list xs)
 |aw {a vs n xs}:h.get? a=some (Jk vs n)->a∉X->vs.size<=Bf->RpL W X h vs.toList xs->Rp W X h (.ref a) (.aw xs)
 |dict {a kvs es}:h.DictOf W.K a kvs->a∉X->(a==sysModules)=false->kvs.length<=Bf->kvs.map (·.1)=es.map (·.1)->RpL W X h (kvs.map (·.2)) (es.map (·.2))->Rp W X h (.ref a) (.dict es)
inductive RpL (W:Bl)(X:List Addr)(h:Heap):List Value->List PV->Prop
 |nil:RpL W X h [] []
 |cons {v vs d ds}:Rp W X h v d->RpL W X h vs ds->RpL W X h (v::vs) (d::ds)
end
inductive pQ (W:Bl)(X:List Addr)(h:Heap)(v:Value)(xs:List PV):Prop
 |mk (a:Addr) (vs:Array Value) (n:Nat) (e:v=.ref a) (g:h.get? a=some (Fd vs n)) (x:a∉X) (z:vs.size<=Bf) (r:RpL W X h vs.toList xs)
inductive pJ (W:Bl)(X:List Addr)(h:Heap)(v:Value)(xs:List PV):Prop
 |mk (a:Addr) (vs:Array Value) (n:Nat) (e:v=.ref a) (g:h.get? a=some (Jk vs n)) (x:a∉X) (z:vs.size<=Bf) (r:RpL W X h vs.toList xs)
inductive pU (W:Bl)(X:List Addr)(h:Heap)(v:Value)(es:List (Str×PV)):Prop
 |mk (a:Addr) (kvs:List (Str×Value)) (e:v=.ref a) (g:h.DictOf W.K a kvs) (x:a∉X) (y:(a==sysModules)=false) (z:kvs.length<=Bf) (q:kvs.map (·.1)=es.map (·.1)) (r:RpL W X h (kvs.map (·.2)) (es.map (·.2)))
noncomputable def sE (W:Bl)(X:List Addr)(h:Heap)(v:Value):PV->Prop
 | .none=>v=.none
 | .bool b=>v=.bool b
 | .int i=>∃t,v=.int i t
 | .str x=>∃t,v=.str x t/\PyData.strOk x=true/\x.length<=Bf
 | .obj w=>v=w
 | .list a=>pQ W X h v a
 | .aw a=>pJ W X h v a
 | .dict c=>pU W X h v c
theorem Rp.ah (r:Rp W X h v d):sE W X h v d:=by
 cases r with
 |none=>exact rfl
 |bool=>exact rfl
 |int _ t=>exact⟨t,rfl⟩
 |str _ t a b=>exact⟨t,rfl,a,b⟩
 |obj=>exact rfl
 |list e n z r=>exact⟨_,_,_,rfl,e,n,z,r⟩
 |aw e n z r=>exact⟨_,_,_,rfl,e,n,z,r⟩
 |dict e n y z q r=>exact⟨_,_,rfl,e,n,y,z,q,r⟩
theorem Rp.ui {h:Heap}(r:Rp W X h (.ref a) (.list b)):∃c n,h.get? a=some (Fd c n)/\a∉X/\c.size<=Bf/\RpL W X h c.toList b:=by
 obtain⟨l,c,n,e,g,x,z,r⟩:=r.ah;cases e;exact⟨c,n,g,x,z,r⟩
noncomputable def pN (W:Bl)(X:List Addr)(h:Heap)(a:List Value):List PV->Prop
 |[]=>a=[]
 |d::b=>∃v r,a=v::r/\Rp W X h v d/\RpL W X h r b
theorem RpL.ah (r:RpL W X h c d):pN W X h c d:=by
 cases r with
 |nil=>exact rfl
 |cons a b=>exact⟨_,_,rfl,a,b⟩
theorem RpL.qu (r:RpL W X h (v::c) (d::f)):Rp W X h v d/\RpL W X h c f:=by
 obtain⟨_,_,e,a,b⟩:=r.ah;cases e;exact⟨a,b⟩
theorem RpL.br {P:List Value->List PV->Prop}(r:RpL W X h c e)(f:P [] [])(g:∀v c d e,Rp W X h v d->RpL W X h c e->P c e->P (v::c) (d::e)):P c e:=
 r.rec (motive_1:=λ _ _ _=>True) (motive_2:=λ c e _=>P c e) trivial (λ _=>trivial) (λ _ _=>trivial) (λ _ _ _ _=>trivial) (λ _=>trivial) (λ _ _ _ _ _=>trivial) (λ _ _ _ _ _=>trivial) (λ _ _ _ _ _ _ _=>trivial) f λ a b _ i=>g _ _ _ _ a b i
theorem RpL.tj (r:RpL W X h b [a]):∃x,b=[x]/\Rp W X h x a:=by
 obtain⟨x,d,rfl,c,r⟩:=r.ah;cases r.ah;exact⟨x,rfl,c⟩
theorem RpL.ti (r:RpL W X h c [a,b]):∃x y,c=[x,y]/\Rp W X h x a/\Rp W X h y b:=by
 obtain⟨x,f,rfl,d,r⟩:=r.ah;obtain⟨y,rfl,e⟩:=r.tj;exact⟨x,y,rfl,d,e⟩
theorem RpL.ug (r:RpL W X h vs [a,b,c]):∃x y z,vs=[x,y,z]/\Rp W X h x a/\Rp W X h y b/\Rp W X h z c:=by
 obtain⟨x,g,rfl,d,r⟩:=r.ah;obtain⟨y,z,rfl,e,f⟩:=r.ti;exact⟨x,y,z,rfl,d,e,f⟩
section
variable {A:Around}{E:B3}{s:Shared}{α β:Type}
theorem Jb {M:Model}{Q:α->Shared->Prop}(h:∀b d,(∀v a,Q v a->b v a)->(∀v a,E v a->d v a)->wpAny M A c b d s):wpAny M A c Q E s:=h Q E (λ _ _ h=>h) λ _ _ h=>h
theorem kO {M:Model}{Q:α->Shared->Prop}(h:∀a,(∀v b,Q v b->a v b)->wpAny M A c a E s):wpAny M A c Q E s:=h Q λ _ _ h=>h
theorem MR {a b:Prop}(h:a):if true=true then a else b:=by rw[if_pos rfl];exact h
theorem RV {a b:Prop}(h:b):if false=true then a else b:=by rw[if_neg Ce];exact h
theorem JQ {M:Model}{st:Stmt}{a:List Stmt}{b:Env}{Q:Flow->Shared->Prop}(h:∀K:Flow->Shared->Prop,(∀c,wpAny M A (execs a b) Q E c->K .next c)->(∀f c,f≠.next->Q f c->K f c)->wpAny M A (exec st b) K E s):wpAny M A (execs (st::a) b) Q E s:=
 Aj (h _ (λ _ h=>h) λ f c d h=>by
  cases f
  ·exact absurd rfl d
  all_goals exact h)
theorem Tx {M:Model}{f:α->Sem β}{Q:β->Shared->Prop}(h:∀K:α->Shared->Prop,(∀x a,wpAny M A (f x) Q E a->K x a)->wpAny M A c K E s):wpAny M A (c >>=f) Q E s:=Ab (h _ λ _ _ h=>h)
end
theorem WK {b:List Value}(h:b.length=n+1):∃a r,b=a::r/\r.length=n:=by
 cases b with
 |nil=>contradiction
 |cons a r=>exact⟨a,r,rfl,Ia h⟩
theorem Uw {b:List Value}(h:b.length=1):∃a,b=[a]:=by
 obtain⟨a,r,rfl,q⟩:=WK h;exact⟨a,congrArg _ (List.eq_nil_of_length_eq_zero q)⟩
theorem Qn {c:List Value}(h:c.length=2):∃a b,c=[a,b]:=by
 obtain⟨a,r,rfl,q⟩:=WK h;obtain⟨b,rfl⟩:=Uw q;exact⟨a,b,rfl⟩
theorem fB {d:List Value}(h:d.length=3):∃a b c,d=[a,b,c]:=by
 obtain⟨a,r,rfl,q⟩:=WK h;obtain⟨b,c,rfl⟩:=Qn q;exact⟨a,b,c,rfl⟩
noncomputable def A9 (W:Bl)(h c:Heap):Prop:=
 (∀b o,h.get? b=some o->c.get? b=some o\/(W.h0.get? b=Option.none/\o.cls=.type "frame"/\∃e,c.get? b=some {o with slots:=e})\/
  (b∈W.TB/\∃d a,o=tabObj d/\c.get? b=some (tabObj (d++a))))/\(W.ox h->W.ox c)
section
variable {W:Bl}{X:List Addr}{h H:Heap}
theorem A9.ae (k:∀b o,h.get? b=some o->H.get? b=some o):A9 W h H:=
 ⟨λ b o e=>.inl (k b o e),W.np _ _ λ b o _ e _ _=>k b o e⟩
theorem A9.refl (h:Heap):A9 W h h:=.ae λ _ _ e=>e
theorem A9.push (h:Heap)(o:Obj):A9 W h (h.push o):=.ae λ _ _ e=>Am _ e
theorem A9.keep (c:A9 W h H)(e:h.get? b=some o)(d:o.cls≠.type "frame")(f:o.cls≠.none):H.get? b=some o:=by
 rcases c.1 b o e with k |⟨_,k,_⟩ |⟨_,g,a,k,_⟩
 ·exact k
 ·exact absurd k d
 ·subst k;exact absurd rfl f
theorem A9.trans (p:A9 W h H)(G:A9 W H a):A9 W h a:=by
 refine⟨λ b o e=>?_,λ t=>G.2 (p.2 t)⟩;rcases p.1 b o e with k |⟨n,k,q,j⟩ |⟨n,f,c,k,j⟩
 ·exact G.1 b o k
 ·rcases G.1 b _ j with g |⟨_,g,l,i⟩ |⟨_,f,c,g,i⟩
  ·exact .inr (.inl ⟨n,k,q,g⟩)
  ·exact .inr (.inl ⟨n,k,l,i⟩)
  ·have:({o with slots:=q}:Obj).cls=.none:=by rw[g]
   have:o.cls=.none:=this;cases Eq.trans (Eq.symm k) this
 ·subst k;rcases G.1 b _ j with g |⟨_,g,_⟩ |⟨_,m,d,g,i⟩
  ·exact .inr (.inr ⟨n,f,c,rfl,g⟩)
  ·contradiction
  ·have r:f++c=m:=by injection g with _ _ g;injection g
   subst r;exact .inr (.inr ⟨n,f,c++d,rfl,by rw[<-Array.append_assoc];exact i⟩)
theorem A9.bb (f:A9 W h H)(l:h.get? a=none)(g:∀o i,H.get? a=some o->o.data=.fields i->o.cls≠.none/\o.cls≠.type "code")(j:Heap.SameBut a H c):A9 W h c:=by
 refine⟨λ b o e=>?_,λ t=>W.np _ _ (λ b o i e k hc=>?_) (f.2 t)⟩
 ·have d:b≠a:=by rintro rfl;exact BZ l e
  rw[j.2 b d];exact f.1 b o e
 ·have d:b≠a:=by
   rintro rfl;rcases hc with hc |hc
   ·exact(g _ _ e k).1 hc
   ·exact(g _ _ e k).2 hc
  rw[j.2 b d];exact e
theorem Lz (d:h.DictOf W.K a b)(hk:∀o,h.get? a=some o->o.cls=.type "dict"->H.get? a=some o):H.DictOf W.K a b:=by
 obtain⟨o,e,f,g,c,r⟩:=d;exact⟨o,e,f,hk o g c.1,c,r⟩
theorem Rp.to {W':Bl}(hk:∀b o,h.get? b=some o->b∉X->(o.cls=.type "list"\/o.cls=.type "tuple"\/o.cls=.type "dict")->H.get? b=some o/\b∉Y)(f:∀a c,h.DictOf W.K a c->a∉X->H.DictOf W'.K a c/\a∉Y)(r:Rp W X h v d):Rp W' Y H v d:=
 r.rec (motive_1:=λ v d _=>Rp W' Y H v d) (motive_2:=λ g k _=>RpL W' Y H g k) .none .bool .int .str .obj (λ e n z _ i=>.list (hk _ _ e n (.inl rfl)).1 (hk _ _ e n (.inl rfl)).2 z i)
   (λ e n z _ i=>.aw (hk _ _ e n (.inr (.inl rfl))).1 (hk _ _ e n (.inr (.inl rfl))).2 z i) (λ e n y z q _ i=>.dict (f _ _ e n).1 (f _ _ e n).2 y z q i) .nil λ _ _ i j=>.cons i j
theorem RpL.map (f:∀v d,Rp W X h v d->Rp W' Y H v d)(r:RpL W X h b c):RpL W' Y H b c:=r.br .nil λ _ _ _ _ a _ i=>.cons (f _ _ a) i
theorem Rp.be (hk:∀b o,h.get? b=some o->b∉X->(o.cls=.type "list"\/o.cls=.type "tuple"\/o.cls=.type "dict")->H.get? b=some o/\b∉Y)(r:Rp W X h v d):Rp W Y H v d:=
 r.to hk λ a f e n=>by
   obtain⟨o,_,_,c,g,_⟩:=id e;exact⟨Lz e λ o c hc=>(hk _ o c n (.inr (.inr hc))).1,(hk _ o c n (.inr (.inr g.1))).2⟩
theorem RpL.be (hk:∀b o,h.get? b=some o->b∉X->(o.cls=.type "list"\/o.cls=.type "tuple"\/o.cls=.type "dict")->H.get? b=some o/\b∉Y)(r:RpL W X h a c):RpL W Y H a c:=r.map λ _ _=>Rp.be hk
theorem CG (a:A9 W h H)(e:h.get? b=some o)(c:o.cls=.type "list"\/o.cls=.type "tuple"\/o.cls=.type "dict"):H.get? b=some o:=by
 refine a.keep e ?_ ?_<;>(rcases c with c |c |c<;>rw[c]<;>decide)
theorem Rp.ac (a:A9 W h H)(r:Rp W X h v d):Rp W X H v d:=r.be λ _ _ e n c=>⟨CG a e c,n⟩
theorem RpL.ac (d:A9 W h H)(r:RpL W X h a b):RpL W X H a b:=r.be λ _ _ e n c=>⟨CG d e c,n⟩
theorem Rp.bb (c:Heap.SameBut a h H)(f:a∈X)(r:Rp W X h v d):Rp W X H v d:=
 r.be λ b _ e n _=>⟨by rw[c.2 b (λ q=>n (q▸f))];exact e,n⟩
theorem RpL.bb (f:Heap.SameBut a h H)(g:a∈X)(r:RpL W X h c d):RpL W X H c d:=
 r.be λ b _ e n _=>⟨by rw[f.2 b (λ q=>n (q▸g))];exact e,n⟩
theorem Rp.bc (H:h.get? a=Option.none)(r:Rp W X h v d):Rp W (a::X) h v d:=
 r.be λ b _ e n _=>⟨e,λ q=>by
  rcases Ae.mp q with q |q
  ·subst q;exact BZ H e
  ·exact n q⟩
theorem RpL.bc (H:h.get? a=Option.none)(r:RpL W X h c d):RpL W (a::X) h c d:=
 r.be λ b _ e n _=>⟨e,λ q=>by
  rcases Ae.mp q with q |q
  ·subst q;exact BZ H e
  ·exact n q⟩
theorem Rp.ag (H:∀a∈Y,a∈X)(r:Rp W X h v d):Rp W Y h v d:=r.be λ _ _ e n _=>⟨e,λ q=>n (H _ q)⟩
theorem RpL.ag (H:∀a∈Y,a∈X)(r:RpL W X h b c):RpL W Y h b c:=r.be λ _ _ e n _=>⟨e,λ q=>n (H _ q)⟩
theorem RpL.length {a:List Value}{b:List PV}(r:RpL W X h a b):a.length=b.length:=r.br (P:=λ a b=>a.length=b.length) rfl λ _ _ _ _ _ _ i=>congrArg (·+1) i
theorem RpL.append (r:RpL W X h b c)(q:RpL W X h d e):RpL W X h (b++d) (c++e):=r.br (P:=λ b c=>RpL W X h (b++d) (c++e)) q λ _ _ _ _ a _ i=>.cons a i
theorem RpL.bp (r:Rp W X h v d):RpL W X h [v] [d]:=.cons r .nil
theorem RpL.get {b:List Value}{c:List PV}(r:RpL W X h b c){k:Nat}{d:PV}:c[k]? =some d->∃v,b[k]? =some v/\Rp W X h v d:=
 r.br (P:=λ b c=>∀k,c[k]? =some d->∃v,b[k]? =some v/\Rp W X h v d) (λ _ e=>absurd (HZ.symm.trans e) nofun) (λ v _ _ _ a _ i k=>k.casesOn (λ e=>⟨v,rfl,Au e▸a⟩) i) k
theorem RpL.uf {b:List Value}{c:List PV}(r:RpL W X h b c){k:Nat}{v:Value}:b[k]? =some v->∃d,c[k]? =some d/\Rp W X h v d:=
 r.br (P:=λ b c=>∀k,b[k]? =some v->∃d,c[k]? =some d/\Rp W X h v d) (λ _ e=>absurd (HZ.symm.trans e) nofun) (λ _ _ d _ a _ i k=>k.casesOn (λ e=>⟨d,rfl,Au e▸a⟩) i) k
end
noncomputable def CC {b:Type}(W:Bl)(A:Around)(t:Sem b)(s:Shared)(P:b->Heap->Prop):Prop:=
 ∀(Q:b->Shared->Prop)(E:B3),(∀a c d,A9 W s.heap c->s.toks<=d->P a c->Q a {s with heap:=c,toks:=d})->wpAny W.M A t Q E s
section
variable {α β:Type}{W:Bl}{A:Around}{s:Shared}
theorem CC.ac {P R:α->Heap->Prop}(h:CC W A t s P)(c:∀a b,A9 W s.heap b->P a b->R a b):CC W A t s R:=λ Q E d=>h Q E λ a b tk k l p=>d a b tk k l (c a b k p)
end
variable {Q:B3}{W:Bl}{X Z:List Addr}{k:Nat}{fd:FuncData}{h H N:Heap}{mb mg:Str->Option Value}{o:Obj}{s:Shared}{V:Scope}{w:World}
theorem PR (name:Str)(o:Int)(h v:Value)(k:Obj)(H:k.data=.dict a b):(Obj.putName name o h v k).cls=k.cls/\(Obj.putName name o h v k).isFreed=false/\∃s w,(Obj.putName name o h v k).data=.dict s w:=by
 obtain⟨c,d,N,Q⟩:=k;simp only at H;subst H;rw[Obj.putName_eq,Obj.putNameByArray];split<;>exact⟨rfl,rfl,_,_,rfl⟩
noncomputable def D5 (w H:Heap):Prop:=∀b o N Q,w.get? b=some o->o.data=.dict N Q->∃h k s,H.get? b=some h/\h.cls=o.cls/\h.data=.dict k s
theorem OF {m:Str->Option Value}{M:Model}{c:Unit->Shared->Prop}(j:s.heap.Ns a m)
 (Q:∀h,h.Ns a (λ x=>if x=name then some v else m x)->Heap.SameBut a s.heap h->D5 s.heap h->c () {s with heap:=h,toks:=s.toks+1}):
 wpAny M A (nsSet a name v) c E s:=by
 have V:=wpAny_nsSet (M:=M) (A:=A) (E:=E) (name:=name) (v:=v) j (Q:=λ _ l=>D5 s.heap l.heap->c () l) λ h z B C=>Q h z B C;intro D p W;have k:=V D p W;obtain⟨o,G,R,Z,r,hk,S⟩:=j;have w:G.any (·.refKey)=false:=by
  rw[Array.any_eq_false'];intro e I;obtain⟨n,t,Q⟩:=hk e I;simp[DictEntry.refKey,Q]
 simp only[nsSet,strHash,Sem.wp_bind',Sem.wp_cmd_ask,Sem.wp_pure',Sem.wp_cmd_mkText] at k ⊢;rw[Sem.wp_loadPart_of _ _ _ _ {s with toks:=s.toks+1} (o:=o) _ Z] at k ⊢;simp only[r,aRefKeyMayBeTheName_eq,aRefKeyMayBeTheNameByArray,w,Bool.and_false,A3,if_false,Sem.wp_cmd_updatePart] at k ⊢;refine⟨k.1,k.2 λ b u d f y g=>?_⟩;by_cases q:b=a
 ·subst b;have i:s.heap.get? a=some u:=y;obtain rfl:=AF Z i;obtain⟨J,L,H,N,O⟩:=PR name _ _ v o r;exact⟨_,H,N,Br _ Z L,J,O⟩
 ·exact⟨u,d,f,by rw[Ck _ _ (Ne.symm q)];exact y,rfl,g⟩
theorem B9 {m:Str->Option Value}{M:Model}{a:Env}{b:Unit->Shared->Prop}(k:a.kindOf name=some .local)(o:s.heap.Ns a.locals m)
 (w:∀h,h.Ns a.locals (λ x=>if x=name then some v else m x)->Heap.SameBut a.locals s.heap h->D5 s.heap h->b () {s with heap:=h,toks:=s.toks+1})
 (H:(a.scope.kind== .class||(a.scope.kind== .module&&a.locals !=a.globals))=false:=by rfl):wpAny M A (storeName a name v) b E s:=by
 rw[storeName_local k H];exact OF o w
theorem D5.ae (k:∀b o,h.get? b=some o->H.get? b=some o):D5 h H:=λ b o s w e N=>⟨o,s,w,k b o e,rfl,N⟩
theorem D5.trans (a:D5 h H)(b:D5 H d):D5 h d:=λ c o w N e Q=>by
 obtain⟨_,_,_,V,W,Z⟩:=a c o w N e Q;obtain⟨f,k,s,g,i,j⟩:=b c _ _ _ V Z;exact⟨f,k,s,g,i.trans W,j⟩
variable {v:Value} in
inductive CB where
 |aa (d:PV)
 |own (d:PV)
 |ao (v:Value)
 |nn (v:Value) (d:PV)
noncomputable abbrev AM:=List (Str×CB)
variable {O:AM}
noncomputable def CM (x:Str):Bool:=!(x==("__debug__":Str))&&!(x==("__classdict__":Str))
structure Cc (k:Nat)(A:Around):Prop where
 handled:A.handled=none
 depth:A.depth+10*k<900
 units:A.units+100*k<9000
theorem Cc.ag (h:Cc k A)(o:j<=k):Cc j A:=⟨h.handled,Av (AK (Nat.mul_le_mul_left 10 o) _) h.depth,Av (AK (Nat.mul_le_mul_left 100 o) _) h.units⟩
theorem Cc.u {A:Around}(h:Cc k A)(o:9000+b<=d):A.units+b<d:=AJ (Nat.add_lt_add_right (Av (Bq ..) h.units) b) o
theorem Cc.d {A:Around}(h:Cc k A){d:Nat}(o:900<=d):A.depth<d:=AJ (Av (Bq ..) h.depth) o
variable {r:List Stmt}{g:Array GenState} in
inductive lS (W:Bl)(X:List Addr)(h:Heap)(a:Addr)(xs:List PV):Prop
 |mk (vs0:Array Value) (n0:Nat) (g:h.get? a=some (Fd vs0 n0)) (z:vs0.size<=Bf) (r:RpL W X h vs0.toList xs)
variable {r:List Stmt}{q:Pos}{g:Array GenState}{y:Str} in
inductive lT (W:Bl)(X:List Addr)(h:Heap)(a:Addr)(es:List (Str×PV)):Prop
 |mk (kvs:List (Str×Value)) (g:h.DictOf W.K a kvs) (y:(a==sysModules)=false) (z:kvs.length<=Bf) (q:kvs.map (·.1)=es.map (·.1)) (r:RpL W X h (kvs.map (·.2)) (es.map (·.2)))
variable {b:List PV}{c:List (Str×PV)} in
noncomputable def Bo (h:Bl)(X:List Addr)(k:Heap)(a:Addr):PV->Prop
 | .list b=>lS h X k a b
 | .dict c=>lT h X k a c
 |_=>False
noncomputable def Bj (h:Bl)(o X:List Addr)(k:Heap)(v:Value):CB->Prop
 | .aa d=>Rp h X k v d
 | .own d=>∃a,v=.ref a/\a∈X/\a∉o/\Bo h X k a d
 | .ao u=>v=u
 | .nn u d=>v=u/\Rp h X k v d
noncomputable def Ay (h:Env):List Addr:=h.locals::h.cells.map (·.2)
noncomputable def Xb (h:Scope)(x:Str):Prop:=h.names.lookup x=some .local\/h.names.lookup x=some .cell\/h.names.lookup x=some .free
variable {m:Str->Option Value} in
inductive pP (W:Bl)(sc:Scope)(env:Env)(Z X:List Addr)(h:Heap)(ρ:AM):Prop
 |mk (m:Str->Option Value) (hm:h.Ns env.locals m) (hv:∀x sl,sc.names.lookup x=some .local->ρ.lookup x=some sl->∃v,m x=some v/\Bj W Z X h v sl)
variable {c i:Nat} in
inductive Yj (W:Bl)(env:Env)(Z X:List Addr)(h:Heap)(ρ:AM)(x:Str):Prop
 |mk (c:Addr) (ov:Option Value) (e:env.cells.lookup x=some c) (i:h.IsCell c ov) (k:∀sl,ρ.lookup x=some sl->∃v,ov=some v/\Bj W Z X h v sl)
structure FI (W:Bl)(sc:Scope)(env:Env)(Z X:List Addr)(h:Heap)(ρ:AM):Prop where
 ba:∀a∈Ay env,a∈Z
 zx:∀a∈Z,a∈X
 kind:env.scope.kind=.function
 na:env.globals=mainGlobals
 blt:env.builtins=builtinsNs
 pb:∀x,sc.names.lookup x=some .local->env.kindOf x=some .local
 oj:∀x,sc.names.lookup x=some .cell->env.kindOf x=some .cell
 ow:∀x,sc.names.lookup x=some .free->env.kindOf x=some .free\/env.kindOf x=some .cell
 o3:∀x,sc.names.lookup x=some .globalImplicit->env.kindOf x=some .globalImplicit
 ns:pP W sc env Z X h ρ
 cell:∀x,(sc.names.lookup x=some .cell\/sc.names.lookup x=some .free)->Yj W env Z X h ρ x
 inj:∀x y c,env.cells.lookup x=some c->env.cells.lookup y=some c->x=y
 o6:∀x sl,ρ.lookup x=some sl->Xb sc x/\CM x=true
 alive:∀a∈X,W.h0.get? a=Option.none/\∃o,h.get? a=some o
 nr:∀x y d e,ρ.lookup x=some (.own d)->ρ.lookup y=some (.own e)->x=y
section
variable {z:Env}
theorem Bo.to {W':Bl}(hk:∀o,h.get? a=some o->(o.cls=.type "list"\/o.cls=.type "tuple"\/o.cls=.type "dict")->H.get? a=some o)(O:∀k,h.DictOf W.K a k->H.DictOf W'.K a k)(w:∀s N,RpL W X h s N->RpL W' Y H s N)(r:Bo W X h a d):Bo W' Y H a d:=by
 cases d with
 |list=>obtain⟨s,n,e,z,r⟩:=r;exact⟨s,n,hk _ e (.inl rfl),z,w _ _ r⟩
 |dict=>obtain⟨k,e,y,z,q,r⟩:=r;exact⟨k,O _ e,y,z,q,w _ _ r⟩
 |_=>exact r.elim
theorem Bo.map (hk:∀o,h.get? a=some o->(o.cls=.type "list"\/o.cls=.type "tuple"\/o.cls=.type "dict")->H.get? a=some o)(w:∀k s,RpL W X h k s->RpL W Y H k s)(r:Bo W X h a d):Bo W Y H a d:=
 r.to hk (λ _ e=>Lz e λ o z hc=>hk o z (.inr (.inr hc))) w
theorem Bj.to (k:∀v d,Rp W X h v d->Rp W' Y H v d)(s:∀a d,a∈X->a∉Z->Bo W X h a d->a∈Y/\a∉c/\Bo W' Y H a d)(r:Bj W Z X h v b):Bj W' c Y H v b:=by
 cases b with
 |aa=>exact k _ _ r
 |own=>obtain⟨a,e,m,z,o⟩:=r;exact⟨a,e,s a _ m z o⟩
 |ao=>exact r
 |nn=>exact⟨r.1,k _ _ r.2⟩
theorem Bo.ac (k:A9 W h H)(r:Bo W X h a d):Bo W X H a d:=r.map (λ _=>CG k) λ _ _=>RpL.ac k
theorem Bj.ac (k:A9 W h H)(r:Bj W Z X h v a):Bj W Z X H v a:=r.to (λ _ _=>Rp.ac k) λ _ _ m z o=>⟨m,z,o.ac k⟩
theorem Bo.bb (o:Heap.SameBut b h H)(s:b∈X)(k:a≠b)(r:Bo W X h a d):Bo W X H a d:=r.map (λ _ e _=>(o.2 _ k).trans e) λ _ _=>RpL.bb o s
theorem Y3 {m:Str->Option Value}(Q:A9 W h H)(n:h.Ns a m)(Z:∀o,h.get? a=some o->∀s,o.data≠.fields s):H.Ns a m:=by
 obtain⟨o,w,z,V,N,r⟩:=n;rcases Q.1 a o V with k |⟨_,_,b,k⟩ |⟨_,s,O,k,c⟩
 ·exact⟨o,w,z,k,N,r⟩
 ·exact⟨_,w,z,k,N,r⟩
 ·subst k;contradiction
theorem Co {m:Str->Option Value}(s:A9 W h H)(n:h.Ns a m):H.Ns a m:=
 Y3 s n λ o w O z=>by obtain⟨Q,V,Z,k,N,_⟩:=n;obtain rfl:=AF w k;cases Eq.trans (Eq.symm N) z
theorem EM (z:A9 W h H)(n:h.IsCell c a):H.IsCell c a:=by
 obtain⟨o,N,s⟩:=n;rcases z.1 c o N with k |⟨_,_,O,k⟩ |⟨_,Q,w,k,V⟩
 ·exact⟨o,k,s⟩
 ·exact⟨_,k,s⟩
 ·subst k;contradiction
theorem Bc (w:A9 W h H)(n:∃o,h.get? a=some o):∃o,H.get? a=some o:=by
 obtain⟨o,z⟩:=n;rcases w.1 a o z with k |⟨_,_,N,k⟩ |⟨_,O,s,_,k⟩<;>exact⟨_,k⟩
theorem A9.bf (s:A9 W h H)(e:H.get? a=Option.none):h.get? a=Option.none:=by
 cases q:h.get? a with
 |none=>rfl
 |some o=>obtain⟨w,k⟩:=Bc s ⟨o,q⟩;exact BZ e k
theorem FI.map {W':Bl}{f:AM}(F:FI W V z Z X h O)(p:∀a∈Ay z,a∈g)(t:∀a∈g,a∈j)(u:∀m,h.Ns z.locals m->H.Ns z.locals m)(hc:∀x c N,z.cells.lookup x=some c->h.IsCell c N->H.IsCell c N)
 (Q:∀x s,f.lookup x=some s->∃w,O.lookup x=some w/\∀v,Bj W Z X h v w->Bj W' g j H v s) (A:∀a∈j,W'.h0.get? a=none/\∃o,H.get? a=some o) (l:∀x y d e,f.lookup x=some (.own d)->f.lookup y=some (.own e)->x=y):FI W' V z g j H f where
 ba:=p
 zx:=t
 kind:=F.kind
 na:=F.na
 blt:=F.blt
 pb:=F.pb
 oj:=F.oj
 ow:=F.ow
 o3:=F.o3
 ns:=by
  obtain⟨m,B,k⟩:=F.ns;refine⟨m,u m B,λ x s a b=>?_⟩;obtain⟨w,e,r⟩:=Q x s b;obtain⟨v,n,q⟩:=k x w a e;exact⟨v,n,r v q⟩
 cell:=λ x C=>by
  obtain⟨c,N,e,i,k⟩:=F.cell x C;refine⟨c,N,e,hc x c N e i,λ s b=>?_⟩;obtain⟨w,e,r⟩:=Q x s b;obtain⟨v,n,q⟩:=k w e;exact⟨v,n,r v q⟩
 inj:=F.inj
 o6:=λ x s b=>by
  obtain⟨w,e,_⟩:=Q x s b;exact F.o6 x w e
 alive:=A
 nr:=l
theorem FI.same {W':Bl}(F:FI W V z Z X h O)(w:∀a∈Ay z,a∈b)(N:∀a∈b,a∈d)(Q:∀m,h.Ns z.locals m->H.Ns z.locals m)(hc:∀x c s,z.cells.lookup x=some c->h.IsCell c s->H.IsCell c s)
 (f:∀x v k,O.lookup x=some k->Bj W Z X h v k->Bj W' b d H v k) (g:∀a∈d,W'.h0.get? a=none/\∃o,H.get? a=some o):FI W' V z b d H O:=
 F.map w N Q hc (λ x k e=>⟨k,e,λ v=>f x v k e⟩) g F.nr
theorem FI.ac (F:FI W V z Z X h O)(k:A9 W h H):FI W V z Z X H O:=
 F.same F.ba F.zx (λ _=>Co k) (λ _ _ _ _=>EM k) (λ _ _ _ _=>Bj.ac k) λ a o=>⟨(F.alive a o).1,Bc k (F.alive a o).2⟩
theorem FI.au (F:FI W V z Z X h O)(o:∀x k,c.lookup x=some k->O.lookup x=some k):FI W V z Z X h c:=
 F.map F.ba F.zx (λ _ h=>h) (λ _ _ _ _ h=>h) (λ x k e=>⟨k,o x k e,λ _ h=>h⟩) F.alive λ x y d e a b=>F.nr x y d e (o _ _ a) (o _ _ b)
variable {A:Around}{E:B3}
theorem FD (h:CM x=true):(x==("__debug__":Str))=false/\(x==("__classdict__":Str))=false:=by
 unfold CM at h;cases k:x==("__debug__":Str)<;>cases o:x==("__classdict__":Str)<;>simp_all
theorem FI.load (F:FI W V z Z X s.heap O)(w:O.lookup x=some a)(o:∀v,Bj W Z X s.heap v a->Q v s):
 wpAny W.M A (loadName z x) Q E s:=by
 obtain⟨b,H⟩:=F.o6 x a w;rcases b with h |h
 ·obtain⟨m,d,N⟩:=F.ns;obtain⟨v,e,r⟩:=N x a h w;exact DQ F.kind (F.pb x h) d e (o v r)
 ·obtain⟨c,f,e,i,N⟩:=F.cell x h;obtain⟨v,rfl,r⟩:=N a w;rcases h with h |h
  ·exact Hv F.kind (F.oj x h) e i (o v r)
  ·rcases F.ow x h with k |k
   ·exact wpAny_loadName_free F.kind k e i (o v r) (FD H).2
   ·exact Hv F.kind k e i (o v r)
theorem FI.name (F:FI W V z Z X s.heap O)(h:O.lookup x=some sl)(k:∀v,Bj W Z X s.heap v sl->Q v s):
 wpAny W.M A (eval (.Name x a) z) Q E s:=
 KC (F.load h k) (FD (F.o6 x sl h).2).1
noncomputable def C3 (k:Scope)(h:Env)(a:Addr):Prop:=a=h.locals\/∃x,k.names.lookup x=some .cell/\h.cells.lookup x=some a
noncomputable def iJ (k:Bl)(P:Addr->Prop)(o s:Heap):Prop:=∀h,(∀a,P a->h.get? a=Option.none)->A9 k h o->A9 k h s
structure I5 (W:Bl)(P:Addr->Prop)(h h':Heap):Prop where
 keep:∀b o,¬P b->h.get? b=some o->h'.get? b=some o
 s6:iJ W P h h'
 cls:D5 h h'
theorem iJ.qj {P:Addr->Prop}(o:A9 W h H):iJ W P h H:=λ _ _ k=>k.trans o
theorem iJ.trans {P:Addr->Prop}(a:iJ W P h H)(b:iJ W P H c):iJ W P h c:=λ o s k=>b o s (a o s k)
theorem I5.ae {P:Addr->Prop}(k:∀b o,h.get? b=some o->H.get? b=some o):I5 W P h H:=⟨λ b o _ e=>k b o e,.qj (.ae k),.ae k⟩
theorem I5.refl {P:Addr->Prop}:I5 W P h h:=.ae λ _ _ e=>e
theorem I5.trans {P:Addr->Prop}(a:I5 W P h H)(b:I5 W P H d):I5 W P h d:=⟨λ c o hc e=>b.keep c o hc (a.keep c o hc e),a.s6.trans b.s6,a.cls.trans b.cls⟩
theorem Rp.bg {P:Addr->Prop}(k:∀a,P a->a∈X)(S:I5 W P h H)(r:Rp W X h v d):Rp W X H v d:=r.be λ b o e n _=>⟨S.keep b o (λ q=>n (k b q)) e,n⟩
theorem RpL.bg {P:Addr->Prop}(k:∀a,P a->a∈X)(S:I5 W P h H)(r:RpL W X h c d):RpL W X H c d:=r.be λ b o e n _=>⟨S.keep b o (λ q=>n (k b q)) e,n⟩
theorem Ar {a:Type}{x:Str}{v:a}{l:List (Str×a)}(h:y≠x):List.lookup y ((x,v)::l)=List.lookup y l:=by
 simp only[List.lookup_cons];have:(y==x)=false:=by simpa using h
 rw[this]
theorem An {a:Type}{x:Str}{v:a}{l:List (Str×a)}:List.lookup x ((x,v)::l)=some v:=by
 simp
theorem Bj.bb (k:Heap.SameBut b h H)(s:b∈X)(w:b∈Z)(r:Bj W Z X h v a):Bj W Z X H v a:=r.to (λ _ _=>Rp.bb k s) λ _ _ m z o=>⟨m,z,o.bb k s λ q=>z (q▸w)⟩
theorem JT {m:Str->Option Value}(i:h.IsCell c a)(n:h.Ns L m):c≠L:=by
 rintro rfl;obtain⟨o,w,z⟩:=i;obtain⟨A,E,H,k,s,_⟩:=n;obtain rfl:=AF w k;cases Eq.trans (Eq.symm z) s
theorem BP (e:z.cells.lookup x=some c):c∈Ay z:=
 Ad _ (Al.mpr ⟨(x,c),mem_of_lookup e,rfl⟩)
theorem Ep (k:Heap.SameBut b h H)(s:∃o,H.get? b=some o)(w:∃o,h.get? a=some o):∃o,H.get? a=some o:=by
 by_cases q:a=b
 ·subst a;exact s
 ·rw[k.2 a q];exact w
theorem FI.o5 (F:FI W V z Z X h O)(s:Xb V x)(o:CM x=true):∀y k,List.lookup y ((x,sl)::O)=some k->Xb V y/\CM y=true:=by
 intro y k e;by_cases q:y=x
 ·exact q▸⟨s,o⟩
 ·rw[Ar q] at e;exact F.o6 y k e
theorem FI.o0 (F:FI W V z Z X h O)(o:∀d,a=.own d->∀y e,O.lookup y=some (.own e)->y=x):∀y s d e,List.lookup y ((x,a)::O)=some (.own d)->List.lookup s ((x,a)::O)=some (.own e)->y=s:=by
 have k:∀{y d},List.lookup y ((x,a)::O)=some (.own d)->y=x/\a=.own d\/O.lookup y=some (.own d):=λ{y d} h=>by
  by_cases q:y=x
  ·rw[q,An] at h;exact .inl ⟨q,Au h⟩
  ·rw[Ar q] at h;exact .inr h
 intro y s d e N Q;rcases k N with⟨w,b⟩ |A<;>rcases k Q with⟨E,c⟩ |H
 ·exact w.trans E.symm
 ·exact w.trans (o d b s e H).symm
 ·exact(o e c y d A).trans E.symm
 ·exact F.nr y s d e A H
theorem FI.n9 (F:FI W V z Z X s.heap O){f:Unit->Shared->Prop}(hx:V.names.lookup x=some .local\/V.names.lookup x=some .cell)(T:CM x=true)
 (C:Bj W Z X s.heap v sl) (D:∀d,sl=.own d->∀y e,O.lookup y=some (.own e)->y=x)
 (a2:∀p tk,FI W V z Z X p ((x,sl)::O)->I5 W (C3 V z) s.heap p->s.toks<=tk->f () {s with heap:=p,toks:=tk}):
 wpAny W.M A (storeName z x v) f E s:=by
 have g:=F.o5 (sl:=sl) (hx.elim .inl λ k=>.inr (.inl k)) T;have j:=F.o0 D;obtain⟨m,G,hv⟩:=F.ns;rcases hx with l |l
 ·have Q:z.locals∈Z:=F.ba _ Ac;have U:=F.zx _ Q;refine B9 (F.pb x l) G (λ p I h Y=>a2 p _ {F with ns:=?_,cell:=?_,o6:=g,nr:=j,alive:=?_} ⟨λ b o J e=>by rw[h.2 b (λ q=>J (.inl q))];exact e,λ J hf k=>k.bb (hf _ (.inl rfl)) (λ o vs t hd=>?_) h,Y⟩ (A8 _)) (by rw[F.kind];rfl)
  ·refine⟨_,I,λ y w a b=>?_⟩;by_cases q:y=x
   ·subst y;rw[An] at b;injection b with b;subst b;exact⟨v,by simp,C.bb h U Q⟩
   ·rw[Ar q] at b;obtain⟨u,e,r⟩:=hv y w a b;exact⟨u,by simpa[q] using e,r.bb h U Q⟩
  ·intro y B;obtain⟨c,ov,e,i,k⟩:=F.cell y B;refine⟨c,ov,e,i.sameBut h (JT i G),λ w b=>?_⟩;have q:y≠x:=by rintro rfl;rcases B with B |B<;>cases Eq.trans (Eq.symm l) B
   rw[Ar q] at b;obtain⟨u,n,r⟩:=k w b;exact⟨u,n,r.bb h U Q⟩
  ·intro a L;refine⟨(F.alive a L).1,Ep h ?_ (F.alive a L).2⟩;obtain⟨o,_,_,t,_⟩:=I;exact⟨o,t⟩
  ·exfalso;obtain⟨o',es,ep,H,N,_⟩:=G;obtain rfl:=AF t H;cases Eq.trans (Eq.symm hd) N
 ·obtain⟨c,ov,e,i,k⟩:=F.cell x (.inl l);have Q:c∈Z:=F.ba _ (BP e);have mx:=F.zx _ Q;refine wpAny_storeName_cell F.kind (F.oj x l) e i λ p M h=>a2 p _ {F with ns:=?_,cell:=?_,o6:=g,nr:=j,alive:=?_} ⟨λ b o J n=>by rw[h.2 b (λ q=>J (.inr ⟨x,l,q▸e⟩))];exact n,λ J hf k=>k.bb (hf _ (.inr ⟨x,l,e⟩)) (λ o vs t hd=>?_) h,λ b o es ep R S=>⟨o,es,ep,by rw[h.2 b (λ q=>by cases q;obtain⟨o',H,N⟩:=i;obtain rfl:=AF R H;cases Eq.trans (Eq.symm S) N)];exact R,rfl,S⟩⟩ (Ah _)
  ·refine⟨m,G.sameBut h (Ne.symm (JT i G)),λ y w a b=>?_⟩;have q:y≠x:=by rintro rfl;cases Eq.trans (Eq.symm l) a
   rw[Ar q] at b;obtain⟨u,n,r⟩:=hv y w a b;exact⟨u,n,r.bb h mx Q⟩
  ·intro y B;by_cases q:y=x
   ·subst y;refine⟨c,some v,e,M,λ w b=>?_⟩;rw[An] at b;injection b with b;subst b;exact⟨v,rfl,C.bb h mx Q⟩
   ·obtain⟨c',a0,n,i',k'⟩:=F.cell y B;refine⟨c',a0,n,i'.sameBut h (λ a3=>q (F.inj y x c (a3▸n) e)),λ w b=>?_⟩;rw[Ar q] at b;obtain⟨u,a1,r⟩:=k' w b;exact⟨u,a1,r.bb h mx Q⟩
  ·intro a L;refine⟨(F.alive a L).1,Ep h ?_ (F.alive a L).2⟩;obtain⟨o,t,_⟩:=M;exact⟨o,t⟩
  ·exfalso;obtain⟨o',H,N⟩:=i;obtain rfl:=AF t H;cases Eq.trans (Eq.symm hd) N
theorem FI.wr (F:FI W V z Z X h O)(k:C3 V z a):a∈Z:=by
 rcases k with rfl |⟨x,_,e⟩
 ·exact F.ba _ Ac
 ·exact F.ba _ (BP e)
theorem FI.bq (F:FI W V z Z X h O)(k:C3 V z a):a∈X:=F.zx _ (F.wr k)
theorem A9.ext (N:A9 W c h)(V:c.get? a=Option.none)(O:∀o z,h.get? a=some o->o.data=.fields z->o.cls≠.none/\o.cls≠.type "code")(A:Heap.ExtBut a h H):A9 W c H:=by
 refine⟨λ b o e=>?_,λ t=>W.np _ _ (λ b o z e Q hc=>?_) (N.2 t)⟩
 ·have s:b≠a:=by rintro rfl;exact BZ V e
  rcases N.1 b o e with k |⟨n,k,Z,E⟩ |⟨n,z,w,k,E⟩
  ·exact .inl (A b o s k)
  ·exact .inr (.inl ⟨n,k,Z,A b _ s E⟩)
  ·exact .inr (.inr ⟨n,z,w,k,A b _ s E⟩)
 ·have s:b≠a:=by
   rintro rfl;rcases hc with hc |hc
   ·exact(O _ _ e Q).1 hc
   ·exact(O _ _ e Q).2 hc
  exact A b o s e
theorem Rp.ext (k:Heap.ExtBut a h H)(s:a∈X)(r:Rp W X h v d):Rp W X H v d:=
 r.be λ b o e n _=>⟨k b o (λ q=>n (q▸s)) e,n⟩
theorem RpL.ext (k:Heap.ExtBut a h H)(s:a∈X)(r:RpL W X h c d):RpL W X H c d:=
 r.be λ b o e n _=>⟨k b o (λ q=>n (q▸s)) e,n⟩
theorem Bo.ext (o:Heap.ExtBut b h H)(s:b∈X)(k:a≠b)(r:Bo W X h a d):Bo W X H a d:=r.map (λ _ e _=>o _ _ k e) λ _ _=>RpL.ext o s
theorem Bj.ext (k:Heap.ExtBut b h H)(s:b∈X)(w:b∈Z)(r:Bj W Z X h v a):Bj W Z X H v a:=r.to (λ _ _=>Rp.ext k s) λ _ _ m z o=>⟨m,z,o.ext k s λ q=>z (q▸w)⟩
theorem QS (k:Heap.ExtBut a h H)(q:c≠a)(i:h.IsCell c b):H.IsCell c b:=by
 obtain⟨o,s,w⟩:=i;exact⟨o,k c o q s,w⟩
theorem FI.ext (F:FI W V z Z X h O)(k:Heap.ExtBut a h H)(s:a∈Z)(w:a∉Ay z)(E:∃o,H.get? a=some o):FI W V z Z X H O:=
 F.same F.ba F.zx (λ _ n=>n.extBut k λ q=>w (q▸Ac)) (λ _ _ _ e=>QS k λ q=>w (q▸BP e)) (λ _ _ _ _=>Bj.ext k (F.zx _ s) s) λ b A=>⟨(F.alive b A).1,by
   by_cases q:b=a
   ·subst b;exact E
   ·obtain⟨o,N⟩:=(F.alive b A).2;exact⟨o,k b o q N⟩⟩
theorem Bo.bc (k:h.get? b=Option.none)(r:Bo W X h a d):Bo W (b::X) h a d:=r.map (λ _ e _=>e) λ _ _=>RpL.bc k
theorem Bo.alive (r:Bo W X h a d):∃o,h.get? a=some o:=by
 cases d with
 |list=>obtain⟨w,n,e,_⟩:=r;exact⟨_,e⟩
 |dict=>obtain⟨k,⟨o,_,_,s,_⟩,_⟩:=r;exact⟨o,s⟩
 |_=>exact r.elim
theorem Bj.bc (k:h.get? b=Option.none)(r:Bj W Z X h v c):Bj W (b::Z) (b::X) h v c:=
 r.to (λ _ _=>Rp.bc k) λ a _ m z o=>⟨Ad _ m,λ q=>(Ae.mp q).elim (λ q=>by obtain⟨x,s⟩:=o.alive;simp only[q,k] at s;contradiction) z,o.bc k⟩
theorem Dx (s:A9 W W.h0 h)(w:h.get? a=Option.none):W.h0.get? a=Option.none:=by
 cases e:W.h0.get? a with
 |none=>rfl
 |some o=>
  obtain⟨z,k⟩:=Bc s ⟨o,e⟩;exact BZ w k
theorem FI.fresh (F:FI W V z Z X h O)(R:A9 W W.h0 h)(s:A9 W h H)(w:h.get? a=Option.none)(A:∃o,H.get? a=some o):FI W V z (a::Z) (a::X) H O:=
 F.same (λ b k=>Ad _ (F.ba b k)) (λ b k=>(Ae.mp k).elim (λ q=>q▸Ac) λ q=>Ad _ (F.zx b q)) (λ _=>Co s) (λ _ _ _ _=>EM s) (λ _ _ _ _ r=>(r.bc w).ac s)
   λ b k=>(Ae.mp k).elim (λ q=>q▸⟨Dx R w,A⟩) λ q=>⟨(F.alive b q).1,Bc s (F.alive b q).2⟩
end
variable {xs:List PV}{i:Nat} in
mutual
noncomputable def FR:PV->PyData
 | .none=>.none
 | .bool b=>.bool b
 | .int i=>.int i
 | .str s=>.str s
 | .list xs=>.list (toPyL xs)
 | .aw xs=>.tuple (toPyL xs)
 | .dict _=>.none
 | .obj _=>.none
noncomputable def toPyL:List PV->List PyData
 |[]=>[]
 |x::xs=>FR x::toPyL xs
end
variable {xs:List PV}{n:Nat} in
mutual
noncomputable def O7:Nat->PV->Bool
 |_,.none=>true
 |_,.bool _=>true
 |_,.int _=>true
 |_,.str _=>true
 |0,.list _=>false
 |n+1,.list xs=>lvlL n xs
 |0,.aw _=>false
 |n+1,.aw xs=>lvlL n xs
 |_,.dict _=>false
 |_,.obj _=>false
noncomputable def lvlL:Nat->List PV->Bool
 |_,[]=>true
 |n,x::xs=>O7 n x&&lvlL n xs
end
noncomputable def Rd (h:Heap)(v:Value)(d:PV)(n:Nat):Prop:=(∃k,Reads h v (FR d) k)/\(FR d).canLay0=true/\(FR d).depth<=n
noncomputable def pO (k:Heap)(o:List Value)(h:List PV)(n:Nat):Prop:=(∃s,ReadsAll k o (toPyL h) s)/\PyData.canLayAll0 (toPyL h)=true/\PyData.depthAll (toPyL h)<=n
theorem Rd.up {f:Nat->Bool}(g:∀m,f (m+1)=true->Rd h v d (m+1))(k:f 0=false)(q:f n=true):Rd h v d n:=match n,q with
 |0,q=>nomatch k.symm.trans q
 |m+1,q=>g m q
theorem Rp.reads (r:Rp W X h v d):O7 n d=true->Rd h v d n:=
 Rp.rec (motive_1:=λ v d _=>∀n,O7 n d=true->Rd h v d n) (motive_2:=λ H w _=>∀n,lvlL n w=true->pO h H w n)
   (λ n _=>⟨⟨_,.none⟩,rfl,AP _⟩) (λ b n _=>⟨⟨_,.bool b⟩,rfl,AP _⟩) (λ i t n _=>⟨⟨_,.int i t⟩,rfl,AP _⟩)
   (λ x t a _ n _=>⟨⟨_,.str x t⟩,a,AP _⟩) (λ v n q=>nomatch (show O7 n (.obj v)=false by cases n<;>rfl).symm.trans q)
   (λ e _ _ _ o n q=>Rd.up (f:=λ n=>O7 n (.list _)) (λ m q=>by obtain⟨⟨_,r⟩,c,k⟩:=o m q;exact⟨⟨_,.list e rfl rfl r⟩,c,DU k⟩) rfl q)
   (λ e _ _ _ o n q=>Rd.up (f:=λ n=>O7 n (.aw _)) (λ m q=>by obtain⟨⟨_,r⟩,c,k⟩:=o m q;exact⟨⟨_,.tuple e rfl rfl r⟩,c,DU k⟩) rfl q)
   (λ{_ _ N} _ _ _ _ _ _ _ n q=>nomatch (show O7 n (.dict N)=false by cases n<;>rfl).symm.trans q)
   (λ n _=>⟨⟨_,.nil⟩,rfl,AP _⟩)
   (λ _ _ i j n q=>by obtain⟨⟨_,r⟩,c,k⟩:=i n (Ai.mp q).1;exact by obtain⟨⟨_,O⟩,Q,s⟩:=j n (Ai.mp q).2;exact⟨⟨_,.cons r O⟩,Ai.mpr ⟨c,Q⟩,Nat.max_le.mpr ⟨k,s⟩⟩) r n
theorem RpL.reads (r:RpL W X h d b):lvlL n b=true->pO h d b n:=
 r.br (P:=λ d b=>lvlL n b=true->pO h d b n) (λ _=>⟨⟨_,.nil⟩,rfl,AP _⟩) λ _ _ _ _ a _ i q=>by
   obtain⟨⟨_,r⟩,c,o⟩:=a.reads (Ai.mp q).1;obtain⟨⟨_,s⟩,w,k⟩:=i (Ai.mp q).2;exact⟨⟨_,.cons r s⟩,Ai.mpr ⟨c,w⟩,Nat.max_le.mpr ⟨o,k⟩⟩
noncomputable def qG (b:Bool):Int:=if b then 1 else 0
noncomputable def Qw (c:Prop) [Decidable c] (d:PV):Option PV:=if c then some d else none
theorem Mh {c:Prop} [Decidable c] (h:c):Qw c d=some d:=if_pos h
theorem DG {c:Prop} [Decidable c] (e:Qw c x=some d):c/\x=d:=by
 unfold Qw at e;split at e
 ·exact⟨‹_›,Au e⟩
 ·contradiction
theorem no {a:Type}{d:a}{P:Prop}(e:none=some d):P:=(by contradiction)
theorem Rp.at (e:x=d)(r:Rp W X h v x):Rp W X h v d:=e▸r
theorem Rp.yes (e:some x=some d)(r:Rp W X h v x):Rp W X h v d:=Au e▸r
variable {y:Str} in
noncomputable def Vs (b:PV)(f:Int->Option PV):Option PV:=match b with
 | .int y=>f y
 |_=>none
noncomputable def lP (a b:PV):Option PV:=match a with
 | .int x=>Vs b λ y=>some (.int (x+y))
 | .str x=>(match b with
   | .str y=>Qw (x.length+y.length<=Bf) (.str (x++y))
   |_=>none)
 | .list x=>(match b with
   | .list y=>Qw (x.length+y.length<=Bf) (.list (x++y))
   |_=>none)
 |_=>none
noncomputable def jH (a b:PV):Option PV:=match a with
 | .int x=>Vs b λ y=>some (.int (x-y))
 | .bool x=>(match b with
   | .bool y=>some (.int (qG x-qG y))
   |_=>none)
 |_=>none
noncomputable def kL:List PV->Option PV
 |[x]=>some x
 |_=>none
variable {l:List Env} in
noncomputable def jY (a b:PV):Option PV:=match a with
 | .int x=>Vs b λ y=>Qw (x.natAbs<4294967296) (.int (x*y))
 | .str x=>Vs b λ n=>Qw (0<=n/\n<=100/\x.length<=100/\PyData.strOk (Txt.mul x n)=true/\(Txt.mul x n).length<=Bf) (.str (Txt.mul x n))
 | .list l=>Vs b λ n=>(kL l).bind λ x=>Qw (0<=n/\n<=1000) (.list (List.replicate n.toNat x))
 |_=>none
noncomputable def NP (f:Int->Int->Option PV)(a b:PV):Option PV:=Vs a λ x=>Vs b (f x)
noncomputable def FE (h:Operator)(a b:PV):Option PV:=match h with
 | .Add=>lP a b
 | .Sub=>jH a b
 | .Mult=>jY a b
 | .FloorDiv=>NP (λ x y=>Qw (y≠0/\y.natAbs<1073741824) (.int (x.fdiv y))) a b
 | .Mod=>NP (λ x y=>Qw (y≠0) (.int (x.fmod y))) a b
 | .Pow=>NP (λ x n=>Qw (0<=n/\n<=64/\x.natAbs<1048576) (.int (x^n.toNat))) a b
 | .BitAnd=>NP (λ x y=>some (.int (Builtin.bitAnd x y))) a b
 | .BitOr=>NP (λ x y=>some (.int (Builtin.bitOr x y))) a b
 |_=>none
theorem CC.of {b:Type}{t:Sem b}{P:b->Heap->Prop}
 (w:∀(Q:b->Shared->Prop)(E:B3),(∀a h o,A9 W s.heap h->P a h->Q a {s with heap:=h,toks:=o})->wpAny W.M A t Q E s):CC W A t s P:=λ Q E H=>
 BG (n:=s.toks) (Ah _) (w _ _ λ a h o k p l=>H a h o k l p)
theorem ON (h:PyData.strOk x=true)(k:PyData.strOk y=true):PyData.strOk (x++y)=true:=by
 unfold PyData.strOk at*;rw[Str.cps_append,Array.all_append,h,k];rfl
section
variable {A:Around}
theorem CC.newList (w:∀a∈X,∃o,s.heap.get? a=some o)(r:RpL W X s.heap c b)(h:b.length<=Bf):CC W A (PySem.newList c) s (λ v H=>Rp W X H v (.list b)):=.of λ Q E N=>by
 have k:=r.length;have O:=DX;refine BJ (N _ _ _ (.push _ _) ?_) (Aa (Aa (AG k) h) O);refine .list (Ak _ rfl) (λ V=>?_) (Aa (AG k) h) (r.ac (.push _ _));obtain⟨o,Z⟩:=w _ V;exact Fb _ (Az Z)
theorem CC.newTuple (w:∀a∈X,∃o,s.heap.get? a=some o)(r:RpL W X s.heap c b)(h:b.length<=Bf):CC W A (PySem.newTuple c) s (λ v H=>Rp W X H v (.aw b)):=.of λ Q E N=>by
 have k:=r.length;have O:=DX;refine BJ (N _ _ _ (.push _ _) ?_) (Aa (Aa (AG k) h) O);refine .aw (Ak _ rfl) (λ V=>?_) (Aa (AG k) h) (r.ac (.push _ _));obtain⟨o,Z⟩:=w _ V;exact Fb _ (Az Z)
theorem Gl (k:∀a∈X,∃o,h.get? a=some o):h.objs.size∉X:=λ s=>by
 obtain⟨o,w⟩:=k _ s;exact Fb _ (Az w)
theorem Jc (x:Value):∀n(h:Array Value),List.foldl (λ a b=>a++b) h (List.replicate n #[x])=h++(List.replicate n x).toArray:=by
 intro n;induction n with
 |zero=>
  intro h;rfl
 |succ n k=>
  intro h;simp only[List.replicate_succ,JC,k,List.replicate_succ];apply Array.ext';simp
theorem RpL.replicate (r:Rp W X a v d):∀n,RpL W X a (List.replicate n v) (List.replicate n d):=by
 intro n;induction n with
 |zero=>
  exact .nil
 |succ n h=>
  exact .cons r (h)
theorem Jq (h:x.natAbs<4294967296):Builtin.Int.intBits x<=64:=by
 unfold Builtin.Int.intBits;split
 ·exact AP _
 ·have:Nat.log2 x.natAbs<64:=(Nat.log2_lt (by simp_all)).mpr (Cn h (by decide+kernel))
  assumption
theorem E7 {f:Int->Option PV}{P:Value->Prop}(rb:Rp W X h a b)(e:Vs b f=some d)(k:∀y u,f y=some d->P (.int y u)):P a:=by
 cases b with
 |int y=>obtain⟨u,rfl⟩:=rb.ah;exact k y u e
 |_=>exact no e
theorem Hk {f:Int->Int->Option PV}{P:Value->Value->Prop}(k:Rp W X h g a)(rb:Rp W X h c b)(e:NP f a b=some d)(o:∀x t y u,f x y=some d->P (.int x t) (.int y u)):P g c:=
 E7 (P:=λ v=>P v c) k e λ x t e=>E7 rb e λ y u=>o x t y u
noncomputable def ZH (b:PV)(f:List PV->Option PV):Option PV:=match b with
 | .list x=>f x
 |_=>none
variable {y:Str} in
noncomputable def Ry (b:PV)(f:Str->Option PV):Option PV:=match b with
 | .str y=>f y
 |_=>none
variable {r:List Stmt} in
noncomputable def PE (l:List PV)(f:PV->Option PV):Option PV:=match l with
 |[]=>none
 |x::r=>(match r with
  |[]=>f x
  |_::_=>none)
variable {r:List Stmt} in
noncomputable def jD (l:List PV)(f:PV->PV->Option PV):Option PV:=match l with
 |[]=>none
 |x::r=>PE r (f x)
theorem Kg {f:List PV->Option PV}{P:Value->Prop}(rb:Rp W X h c b)(e:ZH b f=some d)(s:∀a k n o,h.get? a=some (Fd k n)->k.size<=Bf->RpL W X h k.toList o->f o=some d->P (.ref a)):P c:=by
 cases b with
 |list o=>obtain⟨a,k,n,rfl,w,_,z,r⟩:=rb.ah;exact s a k n o w z r e
 |_=>exact no e
theorem Hc {f:Str->Option PV}{P:Value->Prop}(rb:Rp W X h a b)(e:Ry b f=some d)(k:∀y u,PyData.strOk y=true->y.length<=Bf->f y=some d->P (.str y u)):P a:=by
 cases b with
 |str y=>obtain⟨t,rfl,o,z⟩:=rb.ah;exact k y t o z e
 |_=>exact no e
theorem K0 {f:PV->Option PV}{P:List Value->Prop}(r:RpL W X h b l)(e:PE l f=some d)(k:∀v x,Rp W X h v x->f x=some d->P [v]):P b:=by
 cases r with
 |nil=>exact no e
 |cons a r=>
  cases r with
  |nil=>exact k _ _ a e
  |cons=>exact no e
theorem NY {f:PV->PV->Option PV}{P:List Value->Prop}(r:RpL W X h c l)(e:jD l f=some d)(k:∀v x w y,Rp W X h v x->Rp W X h w y->f x y=some d->P [v,w]):P c:=by
 cases r with
 |nil=>exact no e
 |cons a r=>exact K0 (P:=λ l=>P (_::l)) r e λ w y b e=>k _ _ w y a b e
theorem Q1 {a b:Array Value}(h:s.heap.get? l=some (Fd a n))(o:s.heap.get? m=some (Fd b k))(w:a.size+b.size<=Bf)
 (H:Q (.ref s.heap.objs.size) {s with heap:=s.heap.push (Fd (a++b) 0)}):wpAny W.M A (binaryOp .Add (.ref l) (.ref m)) Q E s:=
 concat_meets (T:="list") ⟨_,h,rfl⟩ ⟨_,o,rfl⟩ noFill_list_add seq_list_add PySem.F.slot_list_add PySem.F.entry_list_add (PySem.F.args_list_add_2 _ _)
  (PyProof.Rows.list_addW l m a b n k Option.none Option.none #[] #[] (Aa w DX)) ⟨h,o,H⟩
theorem Qb {a:Int}(h:s.heap.get? l=some (Fd #[v] n))(o:0<=a)(k:a<=1000)
 (w:Q (.ref s.heap.objs.size) {s with heap:=s.heap.push (Fd (List.replicate a.toNat v).toArray 0)}):wpAny W.M A (binaryOp .Mult (.ref l) (.int a u)) Q E s:=by
 have hk:(#[v]:Array Value).size*a.toNat<=1000:=Aa (AG (Nat.one_mul _)) (Int.toNat_le.mpr k);refine wpAny_binaryOp_repeat_ref (T:="list") (U:="int") (rfl) ⟨_,h,rfl⟩ (λ H=>typeIs_int H a u) noFill_list_mul F.fills_int_mul F.slot_int_rmul repeat_list F.slot_int_index.lookup
  (Ij F.slot_int_rmul (typeIs_int s a u) F.entry_int_rmul (F.args_int_rmul_2 _ _) (int___rmul___int_list a u l #[v] n)
   ⟨h,rfl,⟨_,h,rfl⟩,Ij F.slot_list_mul ⟨_,h,rfl⟩ F.entry_list_mul (F.args_list_mul_2 _ _)
     (AutoListH.list___mul___list_int_3 l #[v] n a u (by rw[show Builtin.List.listFitsIndex a=true from Ai.mpr ⟨decide_eq_true (AT (by decide+kernel) o),decide_eq_true (Cf k (by decide+kernel))⟩];decide) (BC.mpr (Aa hk (by decide+kernel))) (λ z=>absurd (of_decide_eq_true z) (BC.mpr (Aa hk (by decide+kernel)))))
     ⟨h,?_⟩⟩)
 rw[show(if(#[v]:Array Value).isEmpty=true then 0 else a.toNat)=a.toNat from rfl,Jc];exact(Array.empty_append (xs:=(List.replicate a.toNat v).toArray)).symm▸w
theorem S3 {a b:Array Value}{x y:List PV}(o:RpL W X h a.toList x)(s:RpL W X h b.toList y)(e:Qw (x.length+y.length<=Bf) (.list (x++y))=some d):a.size+b.size<=Bf/\PV.list (x++y)=d/\(a++b).size<=Bf/\RpL W X h (a++b).toList (x++y):=by
 have k:=(DG e).1;rw[<-o.length,<-s.length] at k;have k:=k;exact⟨k,(DG e).2,Array.size_append▸k,by rw[Array.toList_append];exact o.append s⟩
theorem S2 {a:Array Value}{n:Int}(k:RpL W X h a.toList l)(e:((kL l).bind λ x=>Qw (0<=n/\n<=1000) (.list (List.replicate n.toNat x)))=some d):
 ∃v x,a= #[v]/\(0<=n/\n<=1000)/\PV.list (List.replicate n.toNat x)=d/\(List.replicate n.toNat v).toArray.size<=Bf/\RpL W X h (List.replicate n.toNat v) (List.replicate n.toNat x):=by
 obtain⟨o⟩:=a;cases l with
 |nil=>exact no e
 |cons x t=>
  cases t with
  |cons y t=>exact no e
  |nil=>
   obtain⟨v,_,rfl,r,q⟩:=k.ah;obtain rfl:=q.ah
   ·have q:=DG e;refine⟨_,x,rfl,q.1,q.2,?_,.replicate r _⟩;rw[DH,List.length_replicate];exact Aa (Int.toNat_le.mpr q.1.2) (AX rfl)
theorem UI {x:Int}(k:x.natAbs<4294967296):IntMulOk x y:=by
 unfold IntMulOk;have q:=Jq k;simp only[As,decide_eq_true_eq,not_and];exact λ h=>absurd h.1 (BC.mpr q)
theorem Zj {x:Str}{n:Int}(o:0<=n)(h:n<=100)(k:x.length<=100):x.length*n.toNat<=10000:=Nat.mul_le_mul k (Int.toNat_le.mpr h)
theorem Vh (N:∀a∈X,∃o,s.heap.get? a=some o)(h:Rp W X s.heap f a)(rb:Rp W X s.heap c b)(e:lP a b=some d):
 CC W A (binaryOp .Add f c) s (λ v O=>Rp W X O v d):=.of λ Q E w=>by
 cases a with
 |int x=>exact Hk (f:=λ x y=>some (.int (x+y))) (P:=λ f c=>wpAny W.M A (binaryOp .Add f c) Q E s) h rb e λ x t y u e=>PyProof.Rows.add_int (w _ _ _ (.refl _) (.yes e (.int _ _)))
 |str x=>
  obtain⟨t,rfl,V,z1⟩:=h.ah;refine Hc (P:=λ c=>wpAny W.M A (binaryOp .Add _ c) Q E s) rb e λ y u Z z2 e=>?_;have H:x.length+y.length<=Bf:=(DG e).1;exact PyProof.Rows.add_str (λ r z=>w _ _ _ (.refl _) (.at (DG e).2 (.str _ _ (ON V Z) (Str.length_append ..▸H)))) (Aa H DX)
 |list x=>
  obtain⟨l,B,n,rfl,g,C,z1,i⟩:=h.ah;refine Kg (P:=λ c=>wpAny W.M A (binaryOp .Add _ c) Q E s) rb e λ m D k y j z2 p e=>?_;have q:=S3 i p e;exact Q1 g j q.1 (w _ _ _ (.push _ _) (.at q.2.1 (.list (Ak _ rfl) (Gl N) q.2.2.1 (q.2.2.2.ac (A9.push _ _)))))
 |_=>exact no e
theorem Um (N:∀a∈X,∃o,s.heap.get? a=some o)(h:Rp W X s.heap g a)(rb:Rp W X s.heap c b)(e:jY a b=some d):
 CC W A (binaryOp .Mult g c) s (λ v O=>Rp W X O v d):=.of λ Q E w=>by
 cases a with
 |int x=>exact Hk (f:=λ x y=>Qw (x.natAbs<4294967296) (.int (x*y))) (P:=λ g c=>wpAny W.M A (binaryOp .Mult g c) Q E s) h rb e λ x t y u e=>PyProof.Rows.mul_int (w _ _ _ (.refl _) (.at (DG e).2 (.int _ _))) (UI (DG e).1)
 |str x=>
  obtain⟨t,rfl,z,z1⟩:=h.ah;refine E7 (P:=λ c=>wpAny W.M A (binaryOp .Mult _ c) Q E s) rb e λ n u e=>?_;have q:=DG e;have f:=Zj q.1.1 q.1.2.1 q.1.2.2.1;exact SB.mul ⟨Bool.or_eq_false_iff.mpr ⟨decide_eq_false (DL.mpr (AT (by decide+kernel) q.1.1)),decide_eq_false (Int.not_le.mpr (Cf q.1.2.1 (by decide+kernel)))⟩,
   λ V _=>DL.mpr ((Int.le_ediv_iff_mul_le (DL.mp V)).mpr (AT (Int.mul_le_mul (ET.mpr q.1.2.2.1) q.1.2.1 q.1.1 (by decide)) (by decide+kernel))),
   λ _ _=>decide_eq_false (BC.mpr (Aa f (by decide+kernel)))⟩ λ B k=>w _ _ _ (.refl _) (.at q.2 (.str _ _ q.1.2.2.2.1 q.1.2.2.2.2))
 |list x=>
  obtain⟨l,C,m,rfl,Z,D,z1,i⟩:=h.ah;refine E7 (P:=λ c=>wpAny W.M A (binaryOp .Mult _ c) Q E s) rb e λ n u e=>?_;obtain⟨v,x,rfl,H,j,p,r⟩:=S2 i e;exact Qb Z H.1 H.2 (w _ _ _ (.push _ _) (.at j (.list (Ak _ rfl) (Gl N) p (r.ac (A9.push _ _)))))
 |_=>exact no e
theorem YV {x:Int}(h:0<=n/\n<=64/\x.natAbs<1048576):((Builtin.Int.intBits x:Nat):Int)*n<=64*64:=
 Int.mul_le_mul (ET.mpr (Jq (Cn h.2.2 (by decide)))) h.2.1 h.1 (by decide)
theorem JU (N:∀a∈X,∃o,s.heap.get? a=some o)(h:Rp W X s.heap g a)(rb:Rp W X s.heap i b)(e:FE c a b=some d):
 CC W A (binaryOp c g i) s (λ v H=>Rp W X H v d):=by
 have I:∀(c:Operator)(f:Int->Int->Option PV),NP f a b=some d->(∀(Q:B3)(E:B3) x t y u,f x y=some d->(∀z,PV.int z=d->Q (.int z s.toks) {s with toks:=s.toks+1})->wpAny W.M A (binaryOp c (.int x t) (.int y u)) Q E s)->CC W A (binaryOp c g i) s (λ v H=>Rp W X H v d):=
  λ c f e k=>.of λ Q E w=>Hk (P:=λ g i=>wpAny W.M A (binaryOp c g i) Q E s) h rb e λ x t y u e=>k Q E x t y u e λ z q=>w _ s.heap (s.toks+1) (.refl _) (.at q (.int _ _))
 cases c with
 |Add=>exact Vh N h rb e
 |Mult=>exact Um N h rb e
 |Sub=>
  refine .of λ Q E w=>?_;cases a with
  |int x=>exact Hk (f:=λ x y=>some (.int (x-y))) (P:=λ g i=>wpAny W.M A (binaryOp .Sub g i) Q E s) h rb e λ x t y u e=>PyProof.Rows.sub_int (w _ _ _ (.refl _) (.yes e (.int _ _)))
  |bool x=>
   cases b with
   |bool y=>
    have q:g=.bool x:=h.ah;exact q▸rb.ah▸PyProof.Rows.sub_bool (w _ _ _ (.refl _) (.yes e (.int _ _)))
   |_=>exact no e
  |_=>exact no e
 |FloorDiv=>exact I _ _ e λ Q E x t y u e q=>PyProof.Rows.floordiv_int (DG e).1.1 (q _ (DG e).2) (.inl (PyProof.noPylong_small (DG e).1.2))
 |Mod=>exact I _ _ e λ Q E x t y u e q=>PyProof.Rows.mod_int (DG e).1 (q _ (DG e).2)
 |Pow=>exact I _ _ e λ Q E x t y u e q=>PyProof.Rows.pow_int (DG e).1.1 (AT (YV (DG e).1) (by decide+kernel)) (q _ (DG e).2)
 |BitAnd=>exact I _ _ e λ Q E x t y u e q=>PyProof.Rows.and_int (q _ (Au e))
 |BitOr=>exact I _ _ e λ Q E x t y u e q=>PyProof.Rows.or_int (q _ (Au e))
 |_=>exact no e
end
noncomputable def KE (a b:PV):Option Bool:=if O7 6 a&&O7 6 b then some (PyData.eqv (FR a) (FR b)) else none
variable {c:List PV}{d:List (Str×PV)} in
noncomputable def Vr (a b:PV):Option Bool:=match b with
 | .list c=>if O7 6 a&&lvlL 6 c then some ((toPyL c).any λ y=>PyData.eqv y (FR a)) else none
 | .dict d=>match a with
   | .str k=>some (d.any λ e=>e.1=k)
   |_=>none
 |_=>none
variable {y:Str} in
noncomputable def U9 (f:Int->Int->Bool)(a b:PV):Option Bool:=match a with
 | .int x=>(match b with
   | .int y=>some (f x y)
   |_=>none)
 |_=>none
noncomputable def oA (n m:Bool)(a b:PV):Option Bool:=match b with
 | .none=>(match a with
   | .none=>some n
   | .obj _=>none
   |_=>some m)
 |_=>none
noncomputable def H8 (h:CmpOp)(a b:PV):Option Bool:=match h with
 | .Eq=>KE a b
 | .NotEq=>(KE a b).map (!·)
 | .Lt=>U9 (λ x y=>decide (x<y)) a b
 | .LtE=>U9 (λ x y=>decide (x<=y)) a b
 | .Gt=>U9 (λ x y=>decide (y<x)) a b
 | .GtE=>U9 (λ x y=>decide (y<=x)) a b
 | .In=>Vr a b
 | .NotIn=>(Vr a b).map (!·)
 | .Is=>oA true false a b
 | .IsNot=>oA false true a b
variable {a:List PV}{i:Nat} in
noncomputable def Mr:PV->Option Bool
 | .bool b=>some b
 | .list a=>some (!a.isEmpty)
 | .int i=>some (i !=0)
 |_=>none
noncomputable def NQ (h:Int):Bool:=decide (-9223372036854775808<=h)&&decide (h<9223372036854775808)
noncomputable def VH (h:List PV)(k:Int):Option PV:=if NQ k then(seqIndex? k h.length).bind (h[·]?) else none
variable {b:List PV}{d:List (Str×PV)} in
noncomputable def Dd (a h:PV):Option PV:=match a with
 | .list b=>Vs h (VH b)
 | .aw b=>Vs h (VH b)
 | .str x=>Vs h λ h=>if NQ h then((seqIndex? h x.length).bind (x.cps[·]?)).map λ c=>.str ⟨#[c]⟩ else none
 | .dict d=>Ry h λ h=>(d.find? λ e=>e.1=h).map (·.2)
 |_=>none
noncomputable def Iw (h:List PV)(lo k st:Option Int):List PV:=
 (sliceRange (sliceBounds lo k st h.length).1 (sliceBounds lo k st h.length).2.1 (sliceBounds lo k st h.length).2.2).filterMap (h[·]?)
variable {b:List PV} in
noncomputable def Cz (a:PV)(lo h st:Option Int):Option PV:=match a with
 | .list b=>Qw (st≠some 0/\(Iw b lo h st).length<=Bf) (.list (Iw b lo h st))
 | .str x=>Qw (st=none) (.str (Txt.slice x lo h))
 |_=>none
section
variable {A:Around}{E:B3}
noncomputable def L2 (h:Bl)(X:List Addr)(k:Heap)(v:Value)(d:PV):Prop:=Rp h X k v d\/∃a,v=.ref a/\Bo h X k a d
theorem L2.list (r:L2 W X h v (.list b)):∃a,v=.ref a/\lS W X h a b:=
 r.elim (λ r=>by obtain⟨a,vs,n,q,e,_,z,r⟩:=r.ah;exact⟨a,q,vs,n,e,z,r⟩) id
theorem L2.dict (r:L2 W X h v (.dict b)):∃a,v=.ref a/\lT W X h a b:=
 r.elim (λ r=>by obtain⟨a,k,q,e,_,y,z,p,r⟩:=r.ah;exact⟨a,q,k,e,y,z,p,r⟩) id
theorem HD {a:Type}{x d:a}(e:(if c then some x else none)=some d):c=true/\x=d:=by
 cases c with
 |true=>exact⟨rfl,Au e⟩
 |false=>exact no e
theorem F8 {a:Type}{x:Option a}{d:a}(e:(if c then x else none)=some d):c=true/\x=some d:=by
 cases c with
 |true=>exact⟨rfl,e⟩
 |false=>exact no e
theorem CA (h:(a&&b)=true):a=true/\b=true:=(As a b).mp h
theorem lZ (h:u<=9000)(d:m<=6):u+min m n<cLine:=Av (DW h (Aa (Eg ..) d)) (show(9006:Nat)<cLine by decide+kernel)
theorem U2 (h:A.units<9000)(k:Rp W X s.heap c a)(rb:Rp W X s.heap d b)(e:KE a b=some r)(o:Q (.bool r) s):
 wpAny W.M A (compareOp .Eq c d) Q E s:=
 have q:=HD e;have⟨⟨_,w⟩,H,N⟩:=k.reads (CA q.1).1;have⟨⟨_,O⟩,V,Z⟩:=rb.reads (CA q.1).2
 SeqAt.compareEq_reads w O H V (lZ (Cx h) N) (q.2▸o)
theorem Uk (h:A.units<9000)(k:Rp W X s.heap c a)(rb:Rp W X s.heap d b)(e:KE a b=some r)(o:Q (.bool (!r)) s):
 wpAny W.M A (compareOp .NotEq c d) Q E s:=
 have q:=HD e;have⟨⟨_,w⟩,H,N⟩:=k.reads (CA q.1).1;have⟨⟨_,O⟩,V,Z⟩:=rb.reads (CA q.1).2
 SeqAt.compareNe_reads w O H V (lZ (Cx h) N) (q.2▸o)
theorem I1 {b:List (Str×PV)}{a:List (Str×Value)}(o:Str):a.map (·.1)=b.map (·.1)->RpL W X h (a.map (·.2)) (b.map (·.2))->
 ((a.find? λ k=>k.1=o).isSome=(b.any λ e=>e.1=o))/\∀d,(b.find? λ e=>e.1=o).map (·.2)=some d->∃v,(a.find? λ k=>k.1=o).map (·.2)=some v/\Rp W X h v d:=by
 induction a generalizing b with
 |nil=>
  intro e r;cases b with
  |nil=>exact⟨rfl,λ d q=>by contradiction⟩
  |cons _ _=>contradiction
 |cons k a E=>
  intro e r;cases b with
  |nil=>contradiction
  |cons x b=>
   obtain⟨s,H⟩:=List.cons.inj e;have w:=RpL.qu r;obtain⟨N,O⟩:=E H w.2;by_cases q:x.1=o
   ·have A:decide (x.1=o)=true:=decide_eq_true q;rw[List.find?_cons_of_pos (p:=λ k:Str×Value=>decide (k.1=o)) (decide_eq_true (s.trans q)),List.find?_cons_of_pos (p:=λ k:Str×PV=>decide (k.1=o)) A,List.any_cons,A];exact⟨rfl,λ d z=>⟨k.2,rfl,Au z▸w.1⟩⟩
   ·rw[Ji (p:=λ k:Str×Value=>decide (k.1=o)) (a:=k) (λ z=>q (s.symm.trans (of_decide_eq_true z))),Ji (p:=λ k:Str×PV=>decide (k.1=o)) (a:=x) (λ z=>q (of_decide_eq_true z)),List.any_cons,decide_eq_false q,Bool.false_or];exact⟨N,O⟩
theorem Su:W.K.is a (.str a t)=true:=beq_self_eq_true a
theorem N3 {b:List (Str×PV)}{a:List (Str×Value)}(k:Str)(q:a.map (·.1)=b.map (·.1))(r:RpL W X h (a.map (·.2)) (b.map (·.2))):(valueAt a k).isSome=b.any λ e=>e.1=k:=
 (Option.isSome_map ..).trans (I1 k q r).1
theorem Oo {c:List (Str×PV)}{P:Value->Prop}(k:Rp W X h b a)(e:Vr a (.dict c)=some r)(o:∀y t,(c.any λ e=>e.1=y)=r->P (.str y t)):P b:=by
 cases a with
 |str y=>obtain⟨t,rfl,_⟩:=k.ah;exact o y t (Au e)
 |_=>exact no e
theorem UK (N:A.units<9000)(w:Rp W X s.heap c a)(rb:L2 W X s.heap d b)(e:Vr a b=some r)(H:∀O,Q (.bool r) {s with toks:=O}):
 wpAny W.M A (compareOp .In c d) Q E s:=by
 cases b with
 |list j=>
  have q:=HD e;obtain⟨l,rfl,m,n,o,z1,h⟩:=rb.list;have⟨⟨_,h⟩,V,Z⟩:=h.reads (CA q.1).2;have⟨⟨_,f⟩,g,p⟩:=w.reads (CA q.1).1;exact SeqAt.in_list_reads (.list o rfl rfl h) f V g (lZ (Nat.succ_le_of_lt N) Z) (q.2▸H _)
 |dict u=>
  obtain⟨l,rfl,i,o,y,z,q,h⟩:=rb.dict;exact Oo (P:=λ c=>wpAny W.M A (compareOp .In c _) Q E s) w e λ k t e=>wpAny_in_of (knd:=W.K) (k:=k) Su y o.mapOf ((N3 k q h).trans e▸H _)
 |_=>exact no e
theorem O2 (N:A.units<9000)(w:Rp W X s.heap c a)(rb:L2 W X s.heap d b)(e:Vr a b=some r)(H:∀O,Q (.bool (!r)) {s with toks:=O}):
 wpAny W.M A (compareOp .NotIn c d) Q E s:=by
 cases b with
 |list j=>
  have q:=HD e;obtain⟨l,rfl,m,n,o,z1,h⟩:=rb.list;have⟨⟨_,h⟩,V,Z⟩:=h.reads (CA q.1).2;have⟨⟨_,f⟩,g,p⟩:=w.reads (CA q.1).1;exact SeqAt.notIn_list_reads (.list o rfl rfl h) f V g (lZ (Nat.succ_le_of_lt N) Z) (q.2▸H _)
 |dict u=>
  obtain⟨l,rfl,i,o,y,z,q,h⟩:=rb.dict;exact Oo (P:=λ c=>wpAny W.M A (compareOp .NotIn c _) Q E s) w e λ k t e=>wpAny_notIn_of (knd:=W.K) (k:=k) Su y o.mapOf ((N3 k q h).trans e▸H _)
 |_=>exact no e
theorem Sn {f:Int->Int->Bool}{P:Value->Value->Prop}(k:Rp W X h c a)(rb:Rp W X h d b)(e:U9 f a b=some r)(o:∀x t y u,f x y=r->P (.int x t) (.int y u)):P c d:=by
 cases a with
 |int x=>
  cases b with
  |int y=>obtain⟨t,rfl⟩:=k.ah;obtain⟨u,rfl⟩:=rb.ah;exact o x t y u (Au e)
  |_=>exact no e
 |_=>exact no e
theorem Om {P:Value->Value->Prop}(k:Rp W X h d a)(rb:Rp W X h c b)(e:oA n m a b=some r)(o:n=r->P .none .none)(s:∀v:Value,PySem.plainIs v Value.none=true->v≠.none->m=r->P v .none):P d c:=by
 cases b with
 |none=>
  have q:c=.none:=rb.ah;subst q;cases k with
  |none=>exact o (Au e)
  |obj=>exact no e
  |_=>exact s _ rfl nofun (Au e)
 |_=>exact no e
theorem kB {a:Option Bool}(e:a.map (!·)=some r):a=some !r:=by
 cases a with
 |none=>exact no e
 |some b=>exact congrArg some (by rw[<-Au e,Bool.not_not])
theorem HM (N:A.units<9000)(o:Rp W X s.heap g a)(rb:Rp W X s.heap c b\/((d=.In\/d=.NotIn)/\L2 W X s.heap c b))(e:H8 d a b=some r)
 (O:∀V,Q (.bool r) {s with toks:=V}):wpAny W.M A (compareOp d g c) Q E s:=by
 have w:Q (.bool r) s:=O s.toks;have h (q:d≠.In/\d≠.NotIn):Rp W X s.heap c b:=rb.elim id λ k=>k.1.elim (λ k=>absurd k q.1) λ k=>absurd k q.2;have H:L2 W X s.heap c b:=rb.elim .inl And.right;have I:∀(f:Int->Int->Bool),U9 f a b=some r->d≠.In/\d≠.NotIn->(∀x t y u,Q (.bool (f x y)) s->wpAny W.M A (compareOp d (.int x t) (.int y u)) Q E s)->wpAny W.M A (compareOp d g c) Q E s:=
  λ f e q k=>Sn (P:=λ g c=>wpAny W.M A (compareOp d g c) Q E s) o (h q) e λ x t y u e=>k x t y u (e▸w)
 cases d with
 |Eq=>exact U2 N o (h ⟨nofun,nofun⟩) e w
 |NotEq=>exact Uk N o (h ⟨nofun,nofun⟩) (kB e) (by rw[Bool.not_not];exact w)
 |Lt=>exact I _ e ⟨nofun,nofun⟩ λ x t y u q=>PyProof.Rows.lt_int q
 |LtE=>exact I _ e ⟨nofun,nofun⟩ λ x t y u q=>PyProof.Rows.le_int q
 |Gt=>exact I _ e ⟨nofun,nofun⟩ λ x t y u q=>PyProof.Rows.gt_int q
 |GtE=>exact I _ e ⟨nofun,nofun⟩ λ x t y u q=>PyProof.Rows.ge_int q
 |In=>exact UK N o H e O
 |NotIn=>exact O2 N o H (kB e) λ V=>by rw[Bool.not_not];exact O V
 |Is=>exact Om (P:=λ g c=>wpAny W.M A (compareOp .Is g c) Q E s) o (h ⟨nofun,nofun⟩) e (λ q=>wpAny_is_self rfl (q▸w)) λ v p n q=>wpAny_is_other p n (q▸w)
 |IsNot=>exact Om (P:=λ g c=>wpAny W.M A (compareOp .IsNot g c) Q E s) o (h ⟨nofun,nofun⟩) e (λ q=>wpAny_isNot_self rfl (q▸w)) λ v p n q=>wpAny_isNot_other p n (q▸w)
theorem RW {n:Nat}(h:n<=Bf):(n:Int)<2^63:=Cf (ET.mpr h) (by decide)
theorem RpL.empty {b:List PV}{a:List Value}(r:RpL W X h a b):a.isEmpty=b.isEmpty:=
 r.br (P:=λ a b=>a.isEmpty=b.isEmpty) rfl λ _ _ _ _ _ _ _=>rfl
theorem OI (h:Rp W X s.heap d a)(e:Mr a=some r){c:Bool->Shared->Prop}(k:∀o,c r {s with toks:=o}):wpAny W.M A (truthy d) c E s:=by
 cases a with
 |bool b=>
  have q:=h.ah;exact q▸CQ (Au e▸k s.toks)
 |int i=>obtain⟨t,rfl⟩:=h.ah;exact PyProof.Rows.truthy_int (Au e▸k s.toks)
 |list O=>
  obtain⟨a,w,n,rfl,H,_,z1,N⟩:=h.ah;have q:(!w.isEmpty)=r:=by
   rw[<-Au e,<-Array.isEmpty_toList];exact congrArg (!·) (N.empty)
  exact wpAny_truthy_list ⟨_,H,rfl,_,rfl⟩ (RW z1) (q▸k _)
 |_=>exact no e
theorem Tn (h:NQ a=true):-9223372036854775808<=a/\a<9223372036854775808:=
 have q:=CA h;⟨of_decide_eq_true q.1,of_decide_eq_true q.2⟩
theorem NL {n:Nat}(h:seqIndex? a n=some j):(0<=a/\a.toNat=j/\j<n)\/(a<0/\-(n:Int)<=a/\(a+n).toNat=j/\j<n):=by
 unfold seqIndex? at h;by_cases z:a<0
 ·rw[if_pos z] at h;have q:=HD h;simp only[As,decide_eq_true_eq] at q;obtain⟨⟨k,o⟩,rfl⟩:=q;have s:(0:Int)<=n:=Bs n;refine .inr ⟨z,Int.zero_sub (n:Int)▸Int.sub_right_le_of_le_add k,rfl,?_⟩;exact B4.mp ((BX k).symm▸o)
 ·rw[if_neg z] at h;have q:=HD h;simp only[As,decide_eq_true_eq] at q;obtain⟨⟨k,o⟩,rfl⟩:=q;exact .inl ⟨k,rfl,B4.mp ((BX k).symm▸o)⟩
theorem My {i:Nat}(h:i<n):seqIndex? (i:Int) n=some i:=by
 unfold seqIndex?;exact if_pos (by rw[decide_eq_true (Bs i),decide_eq_true (B4.mpr h)];rfl)
theorem Tm {i:Nat}(h:i<Bf):NQ (i:Int)=true:=by
 unfold NQ;have:(i:Int)<9223372036854775808:=Int.lt_trans (B4.mpr h) (by decide+kernel);rw(occs:=.all) [decide_eq_true this,decide_eq_true (AT (by decide) (Bs i))];rfl
theorem SJ {b:List Value}(e:VH c a=some d)(r:RpL W X h b c):(-9223372036854775808<=a/\a<9223372036854775808)/\∃j v,seqIndex? a b.length=some j/\b[j]? =some v/\Rp W X h v d:=
 have q:=F8 e;have⟨j,k,o⟩:=Aq.mp q.2;have⟨v,s,w⟩:=r.get o
 ⟨Tn q.1,j,v,r.length▸k,s,w⟩
theorem YL {c j:Nat}{x:Str}(k:PyData.strOk x=true)(o:x.cps[j]? =some c):PyData.strOk ⟨#[c]⟩=true:=by
 have⟨h,q⟩:=Cb.mp o;have:=Array.all_eq_true.mp k j h;rw[q] at this;simp only[PyData.strOk];simpa using this
theorem TY {a:Array Value}(w:s.heap.get? l=some (Fd a n))(z:a.size<=Bf)(r:RpL W X s.heap a.toList c)(e:VH c b=some d)(H:∀v,Rp W X s.heap v d->Q v s):
 wpAny W.M A (getItem (.ref l) (.int b u)) Q E s:=by
 obtain⟨f,j,v,N,h,O⟩:=SJ e r;rw[Array.getElem?_toList] at h;simp only[CK] at N;rcases NL N with⟨k,o,V⟩ |⟨k,o,V,Z⟩
 ·exact wpAny_getItem_list ⟨_,w,rfl,_,rfl⟩ k (D6 f.2 (by decide+kernel)) (x:=v) (o▸h) (H v O)
 ·exact wpAny_getItem_list_neg ⟨_,w,rfl,_,rfl⟩ k o (AT (by decide+kernel) f.1) (x:=v) (V▸h) (H v O)
theorem YC {a:Array Value}(o:s.heap.get? l=some (Jk a n))(r:RpL W X s.heap a.toList c)(e:VH c b=some d)(w:∀v,Rp W X s.heap v d->Q v s):
 wpAny W.M A (getItem (.ref l) (.int b u)) Q E s:=by
 obtain⟨f,j,v,h,k,H⟩:=SJ e r;rw[Array.getElem?_toList] at k;simp only[CK] at h;exact PyProof.Rows.getItem_tuple ⟨_,o,rfl,_,rfl⟩ (AT (by decide+kernel) f.1) (D6 f.2 (by decide+kernel)) h k (w v H)
theorem Rr (N:L2 W X s.heap f a)(O:Rp W X s.heap b g)(e:Dd a g=some d)(w k:Expr)(h:∀f b,subscripted k false f b=operate [f,b] (getItem f b)):
 CC W A (PyProof.Rows.subscriptTail w k f b) s (λ v m=>Rp W X m v d):=.of λ Q E V=>by
 have h:=h f b;have Z:∀v,Rp W X s.heap v d->Q v s:=λ v r=>V _ _ s.toks (.refl _) r;cases a with
 |list p=>
  obtain⟨l,rfl,B,n,o,z1,H⟩:=N.list;refine CH (T:="list") ⟨_,o,rfl⟩ slot_list_getitem.lookup ?_ h;exact E7 (P:=λ b=>wpAny W.M A (getItem _ b) Q E s) O e λ y u e=>TY o z1 H e Z
 |aw p=>
  obtain⟨l,B,n,rfl,o,L,z1,H⟩:=(N.elim id λ⟨_,_,q⟩=>q.elim).ah;refine CH (T:="tuple") ⟨_,o,rfl⟩ F.slot_tuple_getitem.lookup ?_ h;exact E7 (P:=λ b=>wpAny W.M A (getItem _ b) Q E s) O e λ y u e=>YC o H e Z
 |str x=>
  obtain⟨t,rfl,C,z1⟩:=(N.elim id λ⟨_,_,q⟩=>q.elim).ah;refine CH (T:="str") (GO _ _ _) F.slot_str_getitem.lookup ?_ h;refine E7 (P:=λ b=>wpAny W.M A (getItem _ b) Q E s) O e λ y u e=>?_;have q:=F8 e;have i:=Tn q.1;obtain⟨c,hc,rfl⟩:=AY.mp q.2;have⟨j,_,D⟩:=Aq.mp hc;exact PyProof.Rows.getItem_str (Bool.or_eq_false_iff.mpr ⟨decide_eq_false (DL.mpr (AT (by decide+kernel) i.1)),decide_eq_false (Int.not_le.mpr (D6 i.2 (by decide+kernel)))⟩) hc (V _ _ _ (.refl _) (.str _ _ (YL C D) (by show 1<=Bf;decide)))
 |dict M=>
  obtain⟨l,rfl,G,o,y,z,q,H⟩:=N.dict;refine CH (T:="dict") (o.typeIs (s:=s)) slot_dict_getitem.lookup ?_ h;refine Hc (P:=λ b=>wpAny W.M A (getItem _ b) Q E s) O e λ g u _ _ e=>?_;obtain⟨v,I,J⟩:=(I1 (W:=W) (X:=X) (h:=s.heap) g q H).2 d e;exact wpAny_getItem_of (knd:=W.K) (k:=g) Su o.mapOf (v:=v) I (V _ _ _ (.refl _) J)
 |_=>exact no e
theorem PN (k:PyData.strOk x=true)(l u:Option Int):PyData.strOk (Txt.slice x l u)=true:=by
 unfold Txt.slice;split
 ·exact k
 ·unfold PyData.strOk at*;simp only[List.all_toArray,AE,List.mem_filterMap];rintro c ⟨i,_,o⟩;obtain⟨h,rfl⟩:=Cb.mp o;exact Array.all_eq_true.mp k i h
theorem RpL.sj (r:RpL W X h a b):∀k:List Nat,RpL W X h (k.filterMap (a[·]?)) (k.filterMap (b[·]?)):=by
 intro k;induction k with
 |nil=>
  exact .nil
 |cons j k o=>
  rw[List.filterMap_cons,List.filterMap_cons];cases s:b[j]? with
  |none=>
   have:a[j]? =Option.none:=by
    rw[List.getElem?_eq_none_iff] at s ⊢;rw[r.length];exact s
   rw[this];exact o
  |some d=>
   obtain⟨v,w,A⟩:=r.get s;rw[w];exact .cons A (o)
theorem Mx {a:Array Value}(r:RpL W X h a.toList b)(lo k st:Option Int):RpL W X h (slicePick a lo k st).toList (Iw b lo k st):=by
 simp only[slicePick,Iw];rw[<-r.length,<-CK];have:=r.sj (sliceRange (sliceBounds lo k st a.toList.length).1 (sliceBounds lo k st a.toList.length).2.1 (sliceBounds lo k st a.toList.length).2.2);simpa using this
theorem OO {lo st:Option Int}(y:L2 W X s.heap f a)(M:∀a∈X,∃o,s.heap.get? a=some o)(V:s.heap.IsSliceOf c m p r)(B:IsPart m lo)(Z:IsPart p b)(C:IsPart r st)
 (e:Cz a lo b st=some d) (O h:Expr) (N:subscripted h false f (.ref c)=operate g (getItem f (.ref c))):
 CC W A (PyProof.Rows.subscriptTail O h f (.ref c)) s (λ v R=>Rp W X R v d):=.of λ Q E D=>by
 cases a with
 |list U=>
  have q:=DG e;obtain⟨l,rfl,Y,n,G,z1,S⟩:=y.list;have I:=Mx S lo b st;refine CH (T:="list") ⟨_,G,rfl⟩ slot_list_getitem.lookup ?_ N;exact wpAny_getItem_list_slice ⟨_,G,rfl,_,rfl⟩ V B Z C q.1.1 (D _ _ _ (.push _ _) (.at q.2 (.list (Ak _ rfl) (Gl M) (by rw[<-CK,I.length];exact q.1.2) (I.ac (.push _ _))))) (Aa z1 DX)
 |str x=>
  have q:=DG e;have z:=q.1;subst z;cases C;obtain⟨t,rfl,T,z1⟩:=(y.elim id λ⟨_,_,q⟩=>q.elim).ah;refine CH (T:="str") (GO _ _ _) F.slot_str_getitem.lookup ?_ N;have w:∀J k,Q (.str (Txt.slice x lo b) J) {s with toks:=k}:=λ J k=>D _ _ _ (.refl _) (.at q.2 (.str _ _ (PN T _ _) (Aa (Txt.slice_le x _ _) z1)));have H:(Txt.slice x lo b).length<=sizeLine:=Aa (Txt.slice_le x _ _) (Aa z1 DX);cases B with
  |none=>cases Z with
   |none=>exact FP (l:=none) (u:=none) (st:=none) V rfl (KV ⟨H,w⟩)
   |int j u=>exact FP (l:=none) (u:=some (j,u)) (st:=none) V rfl (KV ⟨H,w⟩)
  |int i L=>cases Z with
   |none=>exact FP (l:=some (i,L)) (u:=none) (st:=none) V rfl (KV ⟨H,w⟩)
   |int j u=>exact FP (l:=some (i,L)) (u:=some (j,u)) (st:=none) V rfl (KV ⟨H,w⟩)
 |_=>exact no e
end
noncomputable def Dy (h:Obj):Prop:=h.cls=.type "list"\/h.cls=.type "tuple"\/h.cls=.type "dict"
variable {a:Addr}{c:Nat} in
inductive Ig (W:Bl)(X:List Addr)(h:Heap)(I:Addr)(xs:List PV):Prop
 |list {ax vs0 n0}:h.IsListIter I ax 0->h.get? ax=some (Fd vs0 n0)->ax∉X->vs0.size<=Bf->RpL W X h vs0.toList xs->Ig W X h I xs
 |aw {ax vs0 n0}:h.IsTupleIter I ax 0->h.get? ax=some (Jk vs0 n0)->ax∉X->vs0.size<=Bf->RpL W X h vs0.toList xs->Ig W X h I xs
 |range {a c:Int} {cn:Nat}:IsRangeIter h I a cn c->cn<=Bf->xs=(List.range cn).map (λ(i:Nat)=>.int (a+(i:Int)*c))->Ig W X h I xs
variable {g:Array GenState} in
inductive pS (h:Heap)(I:Addr):Prop
 |mk (o:Obj) (g:h.get? I=some o) (c1:o.cls≠.none) (c2:o.cls≠.type "code") (c3:o.cls≠.type "frame") (d:¬Dy o)
variable {i:Nat} in
structure ND (W:Bl)(A:Around)(X:List Addr)(I:Addr)(xs:List PV)(St:Nat->Heap->Prop):Prop where
 small:xs.length<=Bf
 frame:∀i h h',St i h->(∀o,h.get? I=some o->h'.get? I=some o)->(∀b o,b∉X->h.get? b=some o->Dy o->h'.get? b=some o)->St i h'
 mu:∀i h,St i h->pS h I
 item:∀i(s:Shared)(Q:Option Value->Shared->Prop)(E:B3) x,St i s.heap->xs[i]? =some x->
  (∀v h' tk,Rp W X h' v x->St (i+1) h'->Heap.ExtBut I s.heap h'->Q (some v) {s with heap:=h',toks:=tk})->wpAny W.M A (pyNext (.ref I)) Q E s
 done:∀(s:Shared)(Q:Option Value->Shared->Prop)(E:B3),St xs.length s.heap->
  (∀h' tk,Heap.ExtBut I s.heap h'->Q none {s with heap:=h',toks:=tk})->wpAny W.M A (pyNext (.ref I)) Q E s
 self:∀i(s:Shared)(Q:B3)(E:B3),St i s.heap->Q (.ref I) s->wpAny W.M A (pyIter (.ref I)) Q E s
 ou:∀i(s:Shared)(Q:Unit->Shared->Prop)(E:B3) target v,St i s.heap->Q () s->wpAny W.M A (letOwnedTupleGo target (.ref I) v) Q E s
section
variable {A:Around}
set_option tactic.hygienic true in
theorem IB {c:Unit->Shared->Prop}(w:s.heap.get? I=some o)(hc:o.cls=.type n)(H:o.data=.fields d)
 (k:["enumerate","zip","dict_itemiterator","dict_reverseitemiterator","odict_iterator","itertools.zip_longest","itertools.pairwise"].contains n=false) (h:c () s):
 wpAny W.M A (letOwnedTupleGo b (.ref I) v) c E s:=by
 have N:(["enumerate","zip","dict_itemiterator","dict_reverseitemiterator","odict_iterator","itertools.zip_longest","itertools.pairwise"].contains n&&d[0]? ==some (rawInt (match v with | .ref a=>a |_=>0)))=false:=by rw[k];rfl
 cases b<;>(first |exact Ag h |skip)
 all_goals
  cases v<;>(first |exact Ag h |skip)
  rename_i a;refine Ab (wpAny_load w ?_);rw[hc,H];simp only[k,Bool.false_and,A3,if_false];exact Ag h
theorem ND.of (Y:Ig W X h I d)(z:I∈X)(S:A.handled=none):∃St,St 0 h/\ND W A X I d St:=by
 cases Y with
 |@list p O n D R y h4 G=>
  have V:p≠I:=λ q=>y (q▸z);have l:=G.length;simp at l;refine⟨λ i h=>h.IsListIter I p i/\h.get? p=some (Fd O n)/\RpL W X h O.toList d,⟨D,R,G⟩,?_⟩;have Z:=Walks.list (prog:=W.prog) (w:=W.w) (A:=A) S I p V O;exact{
   small:=by omega
   frame:=λ i h H st J B=>⟨by obtain⟨o,a,b⟩:=st.1;exact⟨o,J o a,b⟩,B _ _ y st.2.1 (.inl rfl),st.2.2.be λ b o e L c=>⟨B b o L e c,L⟩⟩
   mu:=λ i h st=>by obtain⟨o,a,b,c⟩:=st.1;exact⟨o,a,by rw[b];decide,by rw[b];decide,by rw[b];decide,by unfold Dy;rw[b];decide⟩
   item:=λ i s Q E x st m k=>by
    have C:i<O.size:=by rw[l];exact(CS.mp m).1
    refine Z.item i s Q E C ⟨st.1,⟨_,st.2.1,rfl,_,rfl⟩⟩ λ v H f M g hk=>?_;have w:Heap.ExtBut I s.heap H:=λ b o j e=>hk b o (by simpa using j) e;obtain⟨u,T,r⟩:=st.2.2.get m;have:u=v:=by
     have U:O[i]? =some u:=by simpa using T
     obtain rfl:=AF U M;rfl
    subst this;exact k _ H f (r.ext w z) ⟨g.1,w _ _ V st.2.1,st.2.2.ext w z⟩ w
   done:=λ s Q E st k=>by
    rw[<-l] at st;exact Z.done s Q E ⟨st.1,⟨_,st.2.1,rfl,_,rfl⟩⟩ λ H f hk=>k H f λ b o j e=>hk b o (by simpa using j) e
   self:=λ i s Q E st k=>Z.self i s Q E ⟨st.1,⟨_,st.2.1,rfl,_,rfl⟩⟩ k
   ou:=λ i s Q E N v st k=>by obtain⟨o,a,b,c⟩:=st.1;exact IB a b c (rfl) k}
 |@aw p O n D R y h4 G=>
  have V:p≠I:=λ q=>y (q▸z);have l:=G.length;simp at l;refine⟨λ i h=>h.IsTupleIter I p i/\h.get? p=some (Jk O n)/\RpL W X h O.toList d,⟨D,R,G⟩,?_⟩;have Z:=Walks.tuple (prog:=W.prog) (w:=W.w) (A:=A) S I p V O;exact{
   small:=by omega
   frame:=λ i h H st J B=>⟨by obtain⟨o,a,b⟩:=st.1;exact⟨o,J o a,b⟩,B _ _ y st.2.1 (.inr (.inl rfl)),st.2.2.be λ b o e L c=>⟨B b o L e c,L⟩⟩
   mu:=λ i h st=>by obtain⟨o,a,b,c⟩:=st.1;exact⟨o,a,by rw[b];decide,by rw[b];decide,by rw[b];decide,by unfold Dy;rw[b];decide⟩
   item:=λ i s Q E x st m k=>by
    have C:i<O.size:=by rw[l];exact(CS.mp m).1
    refine Z.item i s Q E C ⟨st.1,⟨_,st.2.1,rfl,_,rfl⟩⟩ λ v H f M g hk=>?_;have w:Heap.ExtBut I s.heap H:=λ b o j e=>hk b o (by simpa using j) e;obtain⟨u,T,r⟩:=st.2.2.get m;have:u=v:=by
     have U:O[i]? =some u:=by simpa using T
     obtain rfl:=AF U M;rfl
    subst this;exact k _ H f (r.ext w z) ⟨g.1,w _ _ V st.2.1,st.2.2.ext w z⟩ w
   done:=λ s Q E st k=>by
    rw[<-l] at st;exact Z.done s Q E ⟨st.1,⟨_,st.2.1,rfl,_,rfl⟩⟩ λ H f hk=>k H f λ b o j e=>hk b o (by simpa using j) e
   self:=λ i s Q E st k=>Z.self i s Q E ⟨st.1,⟨_,st.2.1,rfl,_,rfl⟩⟩ k
   ou:=λ i s Q E N v st k=>by obtain⟨o,a,b,c⟩:=st.1;exact IB a b c (rfl) k}
 |@range a c n D R y=>
  have l:d.length=n:=by rw[y];simp
  refine⟨λ i h=>IsRangeIter h I (a+(i:Int)*c) ((n:Int)-i) c,by simpa using D,?_⟩;have Z:=Walks.range (prog:=W.prog) (w:=W.w) (A:=A) S I a c n;exact{
   small:=by omega
   frame:=λ i h H st J B=>J _ st
   mu:=λ i h st=>⟨_,st,by simp,by simp,by simp,by simp only[Dy];simp⟩
   item:=λ i s Q E x st m k=>by
    have C:i<n:=by rw[<-l];exact(CS.mp m).1
    refine Z.item i s Q E C st λ v H f M g hk=>?_;have w:Heap.ExtBut I s.heap H:=λ b o j e=>hk b o (by simpa using j) e;obtain⟨t,rfl⟩:=M;have e2:x=.int (a+(i:Int)*c):=by
     rw[y] at m;simp[C] at m;exact m.symm
    subst e2;exact k _ H f (.int _ _) g w
   done:=λ s Q E st k=>by
    rw[l] at st;exact Z.done s Q E st λ H f hk=>k H f λ b o j e=>hk b o (by simpa using j) e
   self:=λ i s Q E st k=>Z.self i s Q E st k
   ou:=λ i s Q E N v st k=>IB st rfl rfl (rfl) k}
theorem Ig.ac (k:A9 W h H)(Q:Ig W X h I d):Ig W X H I d:=by
 cases Q with
 |@list V Z n s w A N O=>exact .list (by obtain⟨o,a,b,c⟩:=s;exact⟨o,k.keep a (by rw[b];decide) (by rw[b];decide),b,c⟩) (k.keep w (by simp) (by simp)) A N (O.ac k)
 |@aw V Z n s w A N O=>exact .aw (by obtain⟨o,a,b,c⟩:=s;exact⟨o,k.keep a (by rw[b];decide) (by rw[b];decide),b,c⟩) (k.keep w (by simp) (by simp)) A N (O.ac k)
 |@range a c n s w A=>exact .range (k.keep s (by simp) (by simp)) w A
theorem Ig.bc (H:h.get? a=none)(V:Ig W X h I b):Ig W (a::X) h I b:=by
 have Q:∀{s:Addr}{o:Obj},h.get? s=some o->s∉X->s∉a::X:=λ e n q=>by
  rcases Ae.mp q with q |q
  ·subst q;exact BZ H e
  ·exact n q
 cases V with
 |@list s Z n w k A N O=>exact .list w k (Q k A) N (O.bc H)
 |@aw s Z n w k A N O=>exact .aw w k (Q k A) N (O.bc H)
 |@range a c n w k A=>exact .range w k A
variable {a0:Value} in
inductive dC (W:Bl)(X:List Addr)(h:Heap):Value->List PV->Prop
 |list {v0 xs0}:Rp W X h v0 (.list xs0)->dC W X h v0 xs0
 |aw {v0 xs0}:Rp W X h v0 (.aw xs0)->dC W X h v0 xs0
 |range {r0 a0 b t0 u v0}:IsRange h r0 a0 b 1 t0 u v0->a0<=b->b-a0<=100000->-1000000<=a0->b<=1000000->dC W X h (.ref r0) ((List.range (b-a0).toNat).map (λ(i:Nat)=>.int (a0+(i:Int)*1)))
theorem E0 (l:dC W X s.heap v c)
 (N:∀I H,s.heap.get? I=none->(∃o,H.get? I=some o)->(∀b o,s.heap.get? b=some o->H.get? b=some o)->(I∉X->Ig W (I::X) H I c)->Q (.ref I) {s with heap:=H}):wpAny W.M A (pyIter v) Q E s:=by
 have h:s.heap.get? s.heap.objs.size=none:=by
  cases e:s.heap.get? s.heap.objs.size with
  |none=>rfl
  |some o=>exact absurd (Az e) (Fb _)
 cases l with
 |list r=>
  obtain⟨a,m,n,rfl,k,O,z1,V⟩:=r.ah;refine wpAny_pyIter_list ⟨_,k,rfl,_,rfl⟩ (N _ _ h ⟨_,Ak _ rfl⟩ (λ b o e=>Am _ e) λ d=>?_);refine .list ⟨_,Ak _ rfl,rfl,rfl⟩ (Am _ k) (λ q=>?_) z1 ((V.bc h).ac (.push _ _));rcases Ae.mp q with q |q
  ·subst q;exact BZ h k
  ·exact O q
 |aw r=>
  obtain⟨a,m,n,rfl,k,O,z1,V⟩:=r.ah;refine wpAny_pyIter_tuple ⟨_,k,rfl,_,rfl⟩ (N _ _ h ⟨_,Ak _ rfl⟩ (λ b o e=>Am _ e) λ d=>?_);refine .aw ⟨_,Ak _ rfl,rfl,rfl⟩ (Am _ k) (λ q=>?_) z1 ((V.bc h).ac (.push _ _));rcases Ae.mp q with q |q
  ·subst q;exact BZ h k
  ·exact O q
 |@range r a b t u v p w f g Z=>
  have i:Builtin.Range.rangeSize a b 1=((b-a).toNat:Int):=by
   unfold Builtin.Range.rangeSize;simp only[show(1:Int)>0 by decide,if_true,Int.ediv_one];split
   ·rename_i q;rw[Int.sub_add_cancel,BX (KH w)]
   ·rename_i q;rw[Eh w (DL.mp q),Int.sub_self];rfl
  refine wpAny_pyIter_range p (by
   unfold Builtin.Range.small;rw[i,BX (KH w)];simp only[Builtin.Range.rangeFitsLong,As,Cg,decide_eq_true_eq,show(1:Int)>0 by decide,if_true];have j:=AT g w;refine⟨⟨⟨⟨⟨AT (by decide) g,Cf (AT w Z) (by decide)⟩,AT (by decide) j,Cf Z (by decide)⟩,by decide⟩,AT (by decide) (KH w),Cf f (by decide)⟩,.inr ?_⟩;rw[show(1:Int)-1=0 from rfl,JE];exact⟨AT (by decide) j,Cf Z (by decide)⟩) (N _ _ h ⟨_,Ak _ rfl⟩ (λ b o e=>Am _ e) λ d=>?_)
  refine .range (cn:=(b-a).toNat) ?_ (Int.toNat_le.mpr (AT f (by decide))) rfl;rw[i];exact Ak _ rfl
end
noncomputable def AI (h:Scope)(x:Str):Bool:=CM x&&(h.names.lookup x==some .local||h.names.lookup x==some .cell)
variable {es:List (Str×PV)}{p:Evs} in
structure EV where
 es:List Expr:=[]
 gs:List Comprehension:=[]
 ks:List Keyword:=[]
 sc:Scope:=default
 ar:Arguments:=default
 p:Pos:=default
 k:Nat:=0
 nm:Str:=""
variable {a f:Addr}{d:List PV}{e:List Value}{c:Nat}{es:List (Str×PV)}{p:Evs} in
noncomputable def Ha:Expr->EV
 | .BoolOp _ d p=>{es:=d,p}
 | .NamedExpr a b p=>{es:=[a,b],p}
 | .BinOp a _ b p=>{es:=[a,b],p}
 | .UnaryOp _ a p=>{es:=[a],p}
 | .Lambda ar b sc p=>{es:=[b],ar,sc,p}
 | .IfExp a b c p=>{es:=[a,b,c],p}
 | .Dict ks e p=>{es:=ks.filterMap id++e,p}
 | .Set d k p=>{es:=d,p,k}
 | .ListComp a gs sc p=>{es:=[a],gs,sc,p}
 | .SetComp a gs sc p=>{es:=[a],gs,sc,p}
 | .DictComp a b gs sc p=>{es:=[a,b],gs,sc,p}
 | .GeneratorExp a gs sc p=>{es:=[a],gs,sc,p}
 | .Await a p=>{es:=[a],p}
 | .Yield o p=>{es:=o.toList,p}
 | .YieldFrom a p=>{es:=[a],p}
 | .Compare a _ h p=>{es:=a::h,p}
 | .Call f d ks p=>{es:=f::d,ks,p}
 | .FormattedValue a _ o p=>{es:=a::o.toList,p}
 | .JoinedStr d p=>{es:=d,p}
 | .Constant _ k p=>{p,k}
 | .Attribute a _ p=>{es:=[a],p}
 | .Subscript a b p=>{es:=[a,b],p}
 | .Starred a p=>{es:=[a],p}
 | .Name nm p=>{p,nm}
 | .List d p=>{es:=d,p}
 | .Tuple d k p=>{es:=d,p,k}
 | .Slice a b c p=>{es:=a.toList++b.toList++c.toList,p}
variable {es:List (Str×PV)}{p:Evs} in
inductive pL where
 |name (x:Str) (p:Pos)
 |aw (es:List Expr) (k:Nat) (p:Pos)
 |no
noncomputable def cC (e:Expr):pL:=if e.ctorIdx==23 then .name (Ha e).nm (Ha e).p else if e.ctorIdx==25 then .aw (Ha e).es (Ha e).k (Ha e).p else .no
variable {a:List (Str×PV)}{p:Evs} in
noncomputable def pL.is (e:Expr):pL->Prop
 | .name x p=>e=.Name x p
 | .aw a k p=>e=.Tuple a k p
 | .no=>True
theorem Rm (e:Expr):(cC e).is e:=by cases e<;>first |exact rfl |exact trivial
variable {a:List PV} in
noncomputable def dK:PV->Option (List PV)
 | .aw a=>some a
 |_=>none
theorem PI (h:dK d=some a):d=.aw a:=by
 cases d with
 |aw k=>cases h;rfl
 |_=>contradiction
noncomputable def Yn (e:Expr):Option Str:=match cC e with
 | .name x _=>some x
 |_=>none
variable {a:List PV}{b:List (Str×PV)} in
noncomputable def DT (h:Scope):List Expr->List PV->AM->Option AM
 |[],a,O=>match a with
  |[]=>some O
  |_::_=>none
 |e::b,a,O=>match a with
  |[]=>none
  |d::a=>(Yn e).bind λ x=>if AI h x then DT h b a ((x,.aa d)::O) else none
theorem Zc (h:Yn e=some x):∃p,e=.Name x p:=by
 unfold Yn at h;have k:=Rm e;generalize cC e=t at h k;cases t with
 |name y p=>cases h;exact⟨p,k⟩
 |_=>contradiction
variable {a:List (Str×PV)} in
noncomputable def EN (h:Scope)(t:Expr)(d:PV)(k:AM):Option AM:=match cC t with
 | .name x _=>if AI h x then some ((x,.aa d)::k) else none
 | .aw a _ _=>(dK d).bind λ o=>DT h a o k
 | .no=>none
theorem Ta {d:Type}{a b:d}(h:(if c=true then some a else none)=some b):c=true/\a=b:=by
 cases c with
 |true=>exact⟨rfl,Au h⟩
 |false=>exact absurd h.symm (Option.some_ne_none _)
theorem Oz (e:EN V t d O=some a):(∃x p,t=.Name x p/\AI V x=true/\(x,.aa d)::O=a)\/∃h k p o,t=.Tuple h k p/\d=.aw o/\DT V h o O=some a:=by
 unfold EN at e;have k:=Rm t;generalize cC t=v at e k;cases v with
 |name x p=>exact .inl ⟨x,p,k,Ta e⟩
 |aw h n p=>obtain⟨o,s,e⟩:=Aq.mp e;exact .inr ⟨h,n,p,o,k,PI s,e⟩
 |no=>contradiction
theorem G6 (e:DT V (c::f) a O=some b):∃d h x p,a=d::h/\c=.Name x p/\AI V x=true/\DT V f h ((x,.aa d)::O)=some b:=by
 cases a with
 |nil=>contradiction
 |cons d h=>
  obtain⟨x,q,e⟩:=Aq.mp (e);obtain⟨p,o⟩:=Zc q;have k:=F8 e;exact⟨d,h,x,p,rfl,o,k.1,k.2⟩
section
variable {A:Around}{z:Env}{E:B3}
theorem DK (h:AI V x=true):CM x=true/\(V.names.lookup x=some .local\/V.names.lookup x=some .cell):=by
 unfold AI at h;simp only[As,Cg] at h;exact⟨h.1,h.2.imp (λ q=>by simpa using q) (λ q=>by simpa using q)⟩
theorem LH (F:FI W V z Z X s.heap O)(o:AI V x=true)(r:Rp W X s.heap v d){a:Unit->Shared->Prop}
 (w:∀h k,FI W V z Z X h ((x,.aa d)::O)->I5 W (C3 V z) s.heap h->a () {s with heap:=h,toks:=k}):wpAny W.M A (assign (.Name x b) z v) a E s:=
 Gi (F.n9 (sl:=.aa d) (DK o).2 (DK o).1 r (λ _ q=>(by contradiction)) λ h k f c _=>w h k f c)
theorem LV:∀(w:List Expr)(k:List PV)(o:List Value)(H:AM)(s:Shared)(Q:Unit->Shared->Prop),FI W V z Z X s.heap H->DT V w k H=some b->RpL W X s.heap o k->
 (∀N j,FI W V z Z X N b->I5 W (C3 V z) s.heap N->Q () {s with heap:=N,toks:=j})->wpAny W.M A (assignInOrder (List.map (λ x=>x.2) (assignEach w z)) o) Q E s:=by
 intro w;induction w with
 |nil=>
  intro k o H s Q F e r h;cases k with
  |nil=>
   cases r;cases e
   exact wpAny_assignInOrder_none (h s.heap s.toks F .refl)
  |cons _ _=>contradiction
 |cons u w l=>
  intro k o H s Q F e r h;obtain⟨d,k,x,m,rfl,rfl,O,e⟩:=G6 e;obtain⟨v,o,rfl,r,n⟩:=r.ah;refine wpAny_assignInOrder_more (LH F O r λ N j f c=>?_);exact l k o _ _ Q f e (n.bg (λ a p=>F.bq p) c) λ g i q t=>h g i q (c.trans t)
theorem LW:∀(h:List Expr)(k:List PV)(o:AM),DT V h k o=some a->(assignEach h z).length=k.length/\List.findIdx? (λ x=>x.1) (assignEach h z)=none:=by
 intro h;induction h with
 |nil=>
  intro k o e;cases k with
  |nil=>exact⟨rfl,rfl⟩
  |cons _ _=>contradiction
 |cons H h w=>
  intro k o e;obtain⟨d,k,x,A,rfl,rfl,E,e⟩:=G6 e;have s:=w k _ e;exact⟨congrArg (·+1) s.1,by show List.findIdx? _ ((false,_)::assignEach h z)=none;rw[List.findIdx?_cons,s.2];rfl⟩
theorem Kx (F:FI W V z Z X s.heap O)(y:A.handled=none)(e:EN V t d O=some g)(r:Rp W X s.heap v d){i:Unit->Shared->Prop}
 (Q:∀h w,FI W V z Z X h g->I5 W (C3 V z) s.heap h->i () {s with heap:=h,toks:=w}):wpAny W.M A (assign t z v) i E s:=by
 rcases Oz e with⟨x,p,rfl,H,rfl⟩ |⟨j,_,_,l,rfl,rfl,e⟩
 ·exact LH F H r Q
 ·obtain⟨B,C⟩:=LW (z:=z) j l O e;obtain⟨a,D,n,rfl,G,I,z1,m⟩:=r.ah;have u:=m.length;simp only[CK] at u;refine wpAny_assign_Tuple y ⟨_,G,rfl,_,rfl⟩ (B.trans u.symm) C λ h H=>?_;have k:∀b o,s.heap.get? b=some o->h.get? b=some o:=λ b o q=>H b o (BN (Az q)) q;exact LV j l D.toList O _ i (F.ac (.ae k)) e (m.ac (.ae k)) λ N w f c=>Q N w f ((I5.ae k).trans c)
end
variable {a:List (Str×PV)} in
noncomputable def DM (t:Expr):List Str:=match cC t with
 | .name x _=>[x]
 | .aw a _ _=>a.filterMap Yn
 | .no=>[]
theorem Nu:∀(k:List Expr)(o:List PV)(w:AM),DT V k o w=some a->∀y s,y∉k.filterMap Yn->w.lookup y=some s->a.lookup y=some s:=by
 intro k;induction k with
 |nil=>
  intro o w e y s _ h;cases o with
  |nil=>cases e;exact h
  |cons _ _=>contradiction
 |cons W k N=>
  intro o w e y s H h;obtain⟨d,o,x,O,rfl,rfl,Q,e⟩:=G6 e;have H:y∉x::k.filterMap Yn:=H;exact N o _ e y s (λ q=>H (Ad _ q)) ((Ar λ q:y=x=>H (q▸Ac)).trans h)
theorem Sr (e:EN V t d O=some a)(s:(DM t).all (λ x=>(O.lookup x).isNone)=true):∀y k,O.lookup y=some k->a.lookup y=some k:=by
 intro y k h;have o:y∉DM t:=λ q=>by
  have:=AE.mp s y q;rw[h] at this;simp at this
 rcases Oz e with⟨x,p,rfl,w,rfl⟩ |⟨H,_,_,N,rfl,rfl,e⟩
 ·exact(Ar λ q=>o (BI.mpr q)).trans h
 ·exact Nu _ _ _ e y k o h
structure Gd (W:Bl)(s:Shared):Prop where
 al:A9 W W.h0 s.heap
 oz:W.ox s.heap
 toks:1<=s.toks
section
variable {A:Around}{z:Env}{E:B3}
theorem Gd.step (G:Gd W s)(h:A9 W s.heap H)(k:s.toks<=tk):Gd W {s with heap:=H,toks:=tk}:=⟨G.al.trans h,h.2 G.oz,Aa G.toks k⟩
theorem FI.bk (F:FI W V z (I::Z) (I::X) h O)(k:Heap.ExtBut I h H)(w:I∉Ay z)(f:I∉X)(A:∀a∈Z,a∈X):FI W V z Z X H O:=
 have N:∀v d,Rp W (I::X) h v d->Rp W X H v d:=λ _ _ r=>r.be λ b o e n _=>⟨k b o (λ q=>n (q▸Ac)) e,λ q=>n (Ad _ q)⟩
 F.same (λ a Q=>(Ae.mp (F.ba a Q)).resolve_left (λ q=>w (q▸Q))) A (λ _ n=>n.extBut k λ q=>w (q▸Ac)) (λ _ _ _ e=>QS k λ q=>w (q▸BP e))
   (λ _ _ _ _ r=>r.to N λ a _ m c o=>have s:a≠I:=λ q=>c (q▸Ac)
    ⟨(Ae.mp m).resolve_left s,λ q=>c (Ad _ q),o.map (λ _ e _=>k _ _ s e) λ _ _ r=>r.map N⟩)
   λ b E=>⟨(F.alive b (Ad _ E)).1,by
    obtain⟨o,g⟩:=(F.alive b (Ad _ E)).2;exact⟨o,k b o (λ q=>f (q▸E)) g⟩⟩
end
noncomputable def RX (e:Expr)(s:Sem Unit)(w:List Comprehension)(h:Nat)(H:Value)(k:Env)(K:Sem PySem.Fin):Sem PySem.Fin:=
 match w[h+1]? with
 |some o=>do
  let x <-eval o.iter k
  standAt o.iter.pos
  if o.is_async !=0 then do
   let x <-foldedIterable o.iter x
   let _ <-runOwn (.compStart e (h+1) (<-holding [x] (if o.is_async !=0 then asyncIter x else pyIter x)) H k) k
   K
  else do
   let x <-foldedSetIterable o.iter k x
   let _ <-runOwn (.compStart e (h+1) (<-holding [x] (if o.is_async !=0 then asyncIter x else pyIter x)) H k) k
   K
 |none=>do
  s
  K
variable {v:Value} in
structure NF (e:Expr)(gens:List Comprehension)(emit:Value->Env->Sem Unit):Prop where
 oo:clausesOf e=gens
 loop:∀depth it nz env,(Code.compLoop e depth it nz env).isFrame=false
 start:∀depth it nz env,(Code.compStart e depth it nz env).isFrame=false
 pq:∀(A:Around) depth it nz env,A.under (.compLoop e depth it nz env)=A
 pp:∀(A:Around) depth it nz env,A.under (.compStart e depth it nz env)=A
 n8:∀depth it nz env target iter ifs,gens[depth]? =some ⟨target,iter,ifs,0⟩->compTurn e depth it nz env=(do
  standAt iter.pos
  match <-pyNext it with
  |none=>pure (.done .next)
  |some v=>
   letOwnedTupleGo target it v
   assign target env v
   let ok <-(forIn ifs true λ c r=>if r=true then do let ok <-isTrue c env (eval c env);pure (ForInStep.yield ok) else pure (ForInStep.yield r))
   if ok=true then RX e (emit nz env) gens depth nz env (again (.compLoop e depth it nz env))
   else again (.compLoop e depth it nz env))
noncomputable def Kn (h:Expr)(k:Value)(o:Env):Sem Unit:=do let _ <-call (.builtin "list.append") [k,<-eval h o]
noncomputable def Ko (s v:Expr)(k:Value)(h:Env):Sem Unit:=do
 let o <-eval s h
 let w <-holding [o] (eval v h)
 match k with
 | .ref d=>do
   standAt {s.pos with endLine:=v.pos.endLine,endCol:=v.pos.endCol}
   holding [o,w] (dictSet d o w)
 |_=>unsupported "internal:dictcomp"
theorem GG (o:Expr)(h:List Comprehension)(k:Scope)(w:Pos):NF (.ListComp o h k w) h (Kn o) where
 oo:=rfl
 loop:=λ _ _ _ _=>rfl
 start:=λ _ _ _ _=>rfl
 pq:=λ _ _ _ _ _=>rfl
 pp:=λ _ _ _ _ _=>rfl
 n8:=λ H W N O s iter Q V=>by
  unfold compTurn;simp only[V];rfl
theorem Nf (H v:Expr)(h:List Comprehension)(k:Scope)(s:Pos):NF (.DictComp H v h k s) h (Ko H v) where
 oo:=rfl
 loop:=λ _ _ _ _=>rfl
 start:=λ _ _ _ _=>rfl
 pq:=λ _ _ _ _ _=>rfl
 pp:=λ _ _ _ _ _=>rfl
 n8:=λ w W N O o iter Q V=>by
  unfold compTurn;simp only[V];rfl
structure Ym {β:Type}(D:Addr)(Acc:List Addr->Heap->List β->Prop):Prop where
 be:∀{X Y:List Addr}{h h':Heap}{l:List β},Acc X h l->(∀b o,h.get? b=some o->b∉X->Dy o->h'.get? b=some o/\b∉Y)->(∀o,h.get? D=some o->h'.get? D=some o)->Acc Y h' l
 obj:∀{X:List Addr}{h:Heap}{l:List β},Acc X h l->∃o,h.get? D=some o/\Dy o
section
variable {A:Around}{z:Env}{E:B3}
theorem Ju {R:Result->Shared->Prop}{f:Value->Env->Sem Unit}(E:NF e c f)(V:c[a]? =some g)(Z:g.is_async=0)
 (Q:codeAny W.M A (.compLoop e a d b z) R s)
 (i:wpAny W.M A (pyIter d) (λ h w=>codeAny W.M A (.compLoop e a h b z) R w) (notedBy W.M A z λ x w=>R (.error x) w) s):
 codeAny W.M A (.compStart e a d b z) R s:=by
 have k:(clausesOf e)[a]? =some g:=by rw[E.oo];exact V
 have H:((clausesOf e)[a]?.elim false λ x=>x.is_async !=0)=false:=by
  rw[k];simp[Z]
 refine codeAny_of_tree ?_;have N:=E.start a d b z;have o:(W.M.den (.compStart e a d b z))=((compStart e a d b z).onRaise (λ x=>do noteFrame x z;standAt theWindowsPlace)):=by
  show(if(Code.compStart e a d b z).isFrame=true then _ else _)=_;rw[N];rfl
 have O:=E.pp A a d b z;rw[o,O];refine wpAny_notedAt ?_;unfold compStart;rw[H,k];simp only[A3,if_false];refine Ab (wpAny_askSetting ?_);refine H6 ?_;split
 ·first
   |exact Ab (Ag (Ag (And.intro rfl Q)))
   |exact Ag (And.intro rfl Q)
 ·exact Ab (KB (Ab (AL (Ab (C5 i (λ h w j=>Ag (And.intro rfl j)) λ _ _ x=>x)))))
theorem OJ {a:Type}{l:List (List a)}{r:List a}(h:l[i]? =some r):(l.take (i+1)).flatten=(l.take i).flatten++r:=by
 rw[List.take_add_one,h];simp
theorem LS {a:Type}(l:List (List a))(i:Nat):((l.take i).flatten).length<=l.flatten.length:=by
 have:l.flatten=(l.take i).flatten++(l.drop i).flatten:=by rw[<-List.flatten_append,JY]
 rw[this,AA];omega
theorem K5 (h:Around):h.mark none=h:=rfl
noncomputable def D4 (P:Addr->Prop)(h k:Heap):Prop:=∀b o,¬P b->h.get? b=some o->o.cls≠.type "frame"->o.cls≠.none->k.get? b=some o
theorem D4.trans {P:Addr->Prop}(a:D4 P h H)(b:D4 P H d):D4 P h d:=λ c o hc e k s=>b c o hc (a c o hc e k s) k s
theorem D4.weak {P b:Addr->Prop}(k:∀a,P a->b a)(a:D4 P h H):D4 b h H:=λ c o hc e s w=>a c o (λ q=>hc (k c q)) e s w
theorem A9.nh {P:Addr->Prop}(k:A9 W h H):D4 P h H:=λ _ _ _ e o s=>k.keep e o s
theorem I5.nh {P:Addr->Prop}(k:I5 W P h H):D4 P h H:=λ b o s e _ _=>k.keep b o s e
theorem D4.refl {P:Addr->Prop}:D4 P h h:=λ _ _ _ e _ _=>e
end
section
variable {A:Around}{z:Env}{E:B3}
theorem HP (o:s.heap.get? D=some (Fd a n))(N:a.size<=Bf)
 (w:∀h k,h.get? D=some (Fd (a.push v) k)->Heap.SameBut D s.heap h->Q .none {s with heap:=h}):wpAny W.M A (call (.builtin "list.append") [.ref D,v]) Q E s:=by
 have O:=DX;refine wpAny_list_append_plain ⟨n,o⟩ (λ h z H=>?_) (by omega);obtain⟨k,e⟩:=z;exact w h k e H
end
noncomputable def BD (h:Scope)(k:AM):AM:=k.filter λ p=>h.names.lookup p.1==some .free
noncomputable def Dm (k h:Scope):Bool:=
 h.kind== .function&&decide ((h.names.map (·.1)).Nodup)&&h.names.all λ p=>p.2 != .free||(k.names.lookup p.1==some .cell||k.names.lookup p.1==some .free)
theorem Ed (h:Scope)(x:Str):∀(k:AM),(BD h k).lookup x=if h.names.lookup x=some .free then k.lookup x else none:=by
 intro k;unfold BD;induction k with
 |nil=>simp
 |cons p k s=>
  rw[EG];by_cases o:h.names.lookup p.1=some .free
  ·simp only[o,beq_self_eq_true,if_true];by_cases q:x=p.1
   ·subst q;rw[An,An,if_pos o]
   ·rw[Ar q,Ar q];exact s
  ·have:(h.names.lookup p.1==some .free)=false:=by simpa using o
   simp only[this,A3,if_false];by_cases q:x=p.1
   ·subst q;rw[s,if_neg o,if_neg o]
   ·rw[Ar q];exact s
variable {r:List Stmt} in
noncomputable def Ff (o:Env):List (Str×NameKind)->List (Str×Addr)->List (Str×Addr)
 |[],h=>h
 |(x,k)::r,h=>if k== .free then Ff o r ((x,(o.cells.lookup x).getD 0)::h) else Ff o r h
theorem Jv {b:Scope}{a:Env}(w:∀p∈b.names,p.2=.free->(a.cells.lookup p.1).isSome=true):closureFor b a=pure (Ff a b.names []):=by
 unfold closureFor;have N:∀(h:List (Str×NameKind))(o:List (Str×Addr)),(∀p∈h,p.2=.free->(a.cells.lookup p.1).isSome=true)->
  (forIn h o λ(x:Str×NameKind) H=>match x with
   |(name,s)=>if(s==NameKind.free)=true then do
    let c <-cellOf a name
    pure (ForInStep.yield ((name,c)::H))
    else pure (ForInStep.yield H))=(pure (Ff a h o):Sem (List (Str×Addr))):=by
  intro h;induction h with
  |nil=>intro o _;rfl
  |cons p r O=>
   intro o w;obtain⟨x,k⟩:=p;rw[DD];have Q:∀p∈r,p.2=.free->(a.cells.lookup p.1).isSome=true:=λ p V=>w p (Ad _ V);simp only[Ff];by_cases hk:k=.free
   ·subst hk;obtain⟨c,hc⟩:=Cq.mp (w (x,.free) Ac rfl);simp only[beq_self_eq_true,if_true];have e:cellOf a x=pure c:=by unfold cellOf;rw[hc]
    rw[e,hc];exact O _ Q
   ·have:(k==NameKind.free)=false:=by simpa using hk
    simp only[this,A3,if_false];exact O _ Q
 have:=N b.names [] w;show(forIn b.names [] _ >>=λ H=>pure H)=_;rw[this];rfl
theorem IJ {a:Env}(x:Str):∀(o:List (Str×NameKind))(s:List (Str×Addr)),(o.map (·.1)).Nodup->(∀p∈o,p.2=.free->(a.cells.lookup p.1).isSome=true)->
 (Ff a o s).lookup x=if o.lookup x=some .free then a.cells.lookup x else s.lookup x:=by
 intro o;induction o with
 |nil=>intro s _ _;rfl
 |cons p r H=>
  intro s w h;obtain⟨y,k⟩:=p;rw[A0,Db] at w;have N:∀p∈r,p.2=.free->(a.cells.lookup p.1).isSome=true:=λ p V=>h p (Ad _ V);have Q:∀O,r.lookup y=some O->False:=λ O e=>w.1 (Al.mpr ⟨(y,O),mem_of_lookup e,rfl⟩);simp only[Ff];by_cases q:x=y
  ·subst q;rw[An];by_cases hk:k=.free
   ·subst hk;obtain⟨c,hc⟩:=Cq.mp (h (x,.free) Ac rfl);rw[H _ w.2 N,if_neg (λ e=>Q _ e),An,hc];rfl
   ·have:(k==NameKind.free)=false:=by simpa using hk
    simp only[this,A3,if_false];rw[H _ w.2 N,if_neg (λ e=>Q _ e),if_neg (λ e=>hk (by injection e))]
  ·rw[Ar q];split
   ·rw[H _ w.2 N,Ar q]
   ·rw[H _ w.2 N]
theorem Cs (x:Str):∀(h:List (Str×NameKind))(n:Nat)(o:List (Str×Addr)),(h.map (·.1)).Nodup->
 (h.lookup x≠some .cell->(cellsFrom n h o).lookup x=o.lookup x)/\(h.lookup x=some .cell->∃c,(cellsFrom n h o).lookup x=some c/\n<=c):=by
 intro h;induction h with
 |nil=>intro n o _;exact⟨λ _=>rfl,λ e=>by contradiction⟩
 |cons p r w=>
  intro n o s;obtain⟨y,k⟩:=p;rw[A0,Db] at s;have N:∀H,r.lookup y=some H->False:=λ H e=>s.1 (Al.mpr ⟨(y,H),mem_of_lookup e,rfl⟩);simp only[cellsFrom];by_cases q:x=y
  ·subst q;rw[An];by_cases hk:k=.cell
   ·subst hk;refine⟨λ e=>absurd rfl e,λ _=>?_⟩;rw[(w (n+1) ((x,n)::o) s.2).1 (λ e=>N _ e),An];exact⟨n,rfl,Ah _⟩
   ·have:(k==NameKind.cell)=false:=by simpa using hk
    simp only[this,A3,if_false];exact⟨λ _=>(w n o s.2).1 (λ e=>N _ e),λ e=>absurd (by injection e) hk⟩
  ·rw[Ar q];split
   ·have O:=w (n+1) ((y,n)::o) s.2;exact⟨λ e=>by rw[O.1 e,Ar q],λ e=>by obtain⟨c,a,b⟩:=O.2 e;exact⟨c,a,by exact Cx ‹_›⟩⟩
   ·exact w n o s.2
theorem NS:∀(o:List (Str×NameKind))(h:Heap)(s:List (Str×Addr)),(∀p∈s,p.2<h.objs.size)->
 (∀p∈cellsFrom h.objs.size o s,p∈s\/(h.objs.size<=p.2/\(pushCells h o).IsCell p.2 none))/\(∀p∈cellsFrom h.objs.size o s,p.2<(pushCells h o).objs.size):=by
 intro o;induction o with
 |nil=>intro h s H;exact⟨λ p w=>.inl w,H⟩
 |cons p r O=>
  intro h s H;obtain⟨y,k⟩:=p;simp only[cellsFrom,pushCells];split
  ·have N:(h.push {cls:=.type "cell",data:=.cell none}).objs.size=h.objs.size+1:=BS ..;obtain⟨Q,V⟩:=O (h.push {cls:=.type "cell",data:=.cell none}) ((y,h.objs.size)::s) (λ p w=>by
    rcases Ae.mp w with q |q
    ·subst q;rw[N];exact DV _
    ·rw[N];exact FN (H p q))
   rw[N] at Q V;refine⟨λ p w=>?_,V⟩;rcases Q p w with q |⟨Z,W⟩
   ·rcases Ae.mp q with q |q
    ·subst q;exact .inr ⟨Ah _,⟨_,CV _ _ _ _ (Ak _ rfl),rfl⟩⟩
    ·exact .inl q
   ·exact .inr ⟨by exact Cx ‹_›,W⟩
  ·exact O h s H
section
variable {A:Around}{z:Env}{E:B3}
theorem Rp.az (k:∀a∈Y,h.get? a=Option.none)(r:Rp W X h v d):Rp W (Y++X) h v d:=
 r.be λ b _ e n _=>⟨e,λ q=>by
  rcases Ao.mp q with q |q
  ·rw[k b q] at e;cases e
  ·exact n q⟩
theorem RpL.az (k:∀a∈Y,h.get? a=Option.none)(r:RpL W X h c d):RpL W (Y++X) h c d:=
 r.be λ b _ e n _=>⟨e,λ q=>by
  rcases Ao.mp q with q |q
  ·rw[k b q] at e;contradiction
  ·exact n q⟩
theorem Bo.az (k:∀a∈Y,h.get? a=Option.none)(r:Bo W X h a d):Bo W (Y++X) h a d:=r.map (λ _ e _=>e) λ _ _=>RpL.az k
theorem Bj.az (k:∀a∈Y,h.get? a=Option.none)(r:Bj W Z X h v b):Bj W (Y++Z) (Y++X) h v b:=
 r.to (λ _ _=>Rp.az k) λ a _ m z o=>⟨At _ m,λ q=>(Ao.mp q).elim (λ q=>by obtain⟨x,s⟩:=o.alive;rw[k a q] at s;contradiction) z,o.az k⟩
theorem EZ:∀{h:List (Str×NameKind)},
 (h.lookup x=some .local->(h.map λ y=>match y with |(n,k)=>if(k==NameKind.free&&z.scope.kind==ScopeKind.function&&z.kindOf n==some NameKind.cell)=true then(n,NameKind.cell) else(n,k)).lookup x=some .local)/\
 (h.lookup x=some .cell->(h.map λ y=>match y with |(n,k)=>if(k==NameKind.free&&z.scope.kind==ScopeKind.function&&z.kindOf n==some NameKind.cell)=true then(n,NameKind.cell) else(n,k)).lookup x=some .cell)/\
 (h.lookup x=some .globalImplicit->(h.map λ y=>match y with |(n,k)=>if(k==NameKind.free&&z.scope.kind==ScopeKind.function&&z.kindOf n==some NameKind.cell)=true then(n,NameKind.cell) else(n,k)).lookup x=some .globalImplicit)/\
 (h.lookup x=some .free->(h.map λ y=>match y with |(n,k)=>if(k==NameKind.free&&z.scope.kind==ScopeKind.function&&z.kindOf n==some NameKind.cell)=true then(n,NameKind.cell) else(n,k)).lookup x=some .free\/
   (h.map λ y=>match y with |(n,k)=>if(k==NameKind.free&&z.scope.kind==ScopeKind.function&&z.kindOf n==some NameKind.cell)=true then(n,NameKind.cell) else(n,k)).lookup x=some .cell):=by
 intro h;induction h with
 |nil=>simp
 |cons p r s=>
  obtain⟨y,k⟩:=p;rw[A0];by_cases q:x=y
  ·subst q;simp only[An,Option.some.injEq];split
   ·rename_i hc;simp only[As,beq_iff_eq] at hc;refine⟨λ e=>?_,λ e=>?_,λ e=>?_,λ e=>.inr An⟩<;>(rw[hc.1.1] at e;contradiction)
   ·refine⟨λ e=>?_,λ e=>?_,λ e=>?_,λ e=>.inl ?_⟩<;>(subst e;exact An)
  ·rw[Ar q];have e:∀o,List.lookup x ((match(y,k) with |(n,k)=>if(k==NameKind.free&&z.scope.kind==ScopeKind.function&&z.kindOf n==some NameKind.cell)=true then(n,NameKind.cell) else(n,k))::o)=List.lookup x o:=by
    intro o;dsimp only;split<;>exact Ar q
   rw[e];exact s
noncomputable def I2:Obj:={cls:=.type "dict",data:=.dict #[]}
theorem Nl:∀(o:List (Str×NameKind))(s:List (Str×Addr)),(∀p∈o,p.2=.free->(z.cells.lookup p.1).isSome=true)->(∀p∈s,z.cells.lookup p.1=some p.2)->∀p∈Ff z o s,z.cells.lookup p.1=some p.2:=by
 intro o;induction o with
 |nil=>intro s _ h;exact h
 |cons p r A=>
  intro s E h;obtain⟨y,k⟩:=p;have H:∀p∈r,p.2=.free->(z.cells.lookup p.1).isSome=true:=λ p w=>E p (Ad _ w);simp only[Ff];split
  ·rename_i hk;obtain⟨c,hc⟩:=Cq.mp (E (y,k) Ac (by simpa using hk:k=.free));refine A _ H λ p w=>?_;rcases Ae.mp w with q |q
   ·subst q;rw[hc];rfl
   ·exact h p q
  ·exact A s H h
theorem NT:∀(h:List (Str×NameKind))(n:Nat)(o:List (Str×Addr)),cellsFrom n h o=cellsFrom n h []++o:=by
 intro h;induction h with
 |nil=>intro n o;rfl
 |cons p r s=>
  intro n o;obtain⟨y,k⟩:=p;simp only[cellsFrom];split
  ·simp only[s (n+1) ((y,n)::o),s (n+1) [(y,n)]];simp
  ·exact s n o
theorem Jo {c:Type}:∀{a b:List (Str×c)},(a++b).lookup x=(a.lookup x).or (b.lookup x):=by
 intro a;induction a with
 |nil=>
  intro b;simp
 |cons k a h=>
  intro b;obtain⟨y,v⟩:=k;by_cases q:x=y
  ·subst q;rw[Gf,An,An];rfl
  ·rw[Gf,Ar q,Ar q];exact h
theorem P9 (F:FI W V z Z X s.heap O)(R:A9 W W.h0 s.heap)(L:Dm V f=true){Q:Env->Shared->Prop}
 (hQ:∀(n:Env)(h':Heap)(Y:List Addr),FI W f {n with scope:=relabel f z} (Y++Z) (Y++X) h' (BD f O)->(∀b o,s.heap.get? b=some o->h'.get? b=some o)->(∀a∈Y,s.heap.get? a=none)->
  (∀a,C3 f {n with scope:=relabel f z} a->a∈Y)->(∀a∈Ay {n with scope:=relabel f z},a∈Y\/a∈Ay z)->Q n {s with heap:=h'}):
 ∃cl,closureFor f z=pure cl/\wpAny W.M A (newFunctionEnv f z.globals cl [] z.qual none .none (some z)) Q E s:=by
 unfold Dm at L;rw[As,As] at L;obtain⟨⟨j,w⟩,a0⟩:=L;have j:f.kind=.function:=by simpa using j
 have w:(f.names.map (·.1)).Nodup:=of_decide_eq_true w
 have C:∀x k,(x,k)∈f.names->k=.free->V.names.lookup x=some .cell\/V.names.lookup x=some .free:=λ x k hm hk=>by
  have:=AE.mp a0 (x,k) hm;subst hk;simpa using this
 have H:∀p∈f.names,p.2=.free->(z.cells.lookup p.1).isSome=true:=λ p N hk=>by
  obtain⟨c,ov,e,_⟩:=F.cell p.1 (C p.1 p.2 N hk);rw[e];rfl
 refine⟨Ff z f.names [],Jv H,?_⟩;have fresh:∀a,s.heap.objs.size<=a->s.heap.get? a=none:=λ a B=>by
  cases e:s.heap.get? a with
  |none=>rfl
  |some o=>exact absurd (Az e) (BC.mpr B)
 have t:=Nl (z:=z) f.names [] H (λ p N=>nomatch N);have u:∀p∈Ff z f.names [],p.2∈Z:=λ p N=>F.ba _ (BP (t p N));have l:∀p∈Ff z f.names [],p.2<s.heap.objs.size:=λ p N=>by
  obtain⟨o,M⟩:=(F.alive _ (F.zx _ (u p N))).2;exact Az M
 simp only[newFunctionEnv,Option.isSome_some,if_true];refine Ab (L5 ?_);refine Ab (wpAny_layCells _ (λ name a1 a2=>by cases a3:a1==NameKind.cell<;>simp[a3]) _ _ _ _ ?_);have U:(s.heap.push I2).objs.size=s.heap.objs.size+1:=BS ..;rw[show({s with heap:=s.heap.push {cls:=.type "dict",data:=.dict #[]}}:Shared).heap.objs.size=s.heap.objs.size+1 from BS ..];refine Ab (Ag (Ag ?_));have G:cellsFrom (s.heap.objs.size+1) f.names (Ff z f.names [])=cellsFrom (s.heap.push I2).objs.size f.names (Ff z f.names []):=by rw[U]
 obtain⟨g,a4⟩:=NS f.names (s.heap.push I2) (Ff z f.names []) (λ p N=>by rw[U];exact FN (l p N));rw[<-G] at g a4;have kp:∀b o,s.heap.get? b=some o->(pushCells (s.heap.push I2) f.names).get? b=some o:=λ b o e=>CV _ _ _ _ (Am _ e);have KP:A9 W s.heap (pushCells (s.heap.push I2) f.names):=.ae kp;have hY:∀a∈s.heap.objs.size::((cellsFrom (s.heap.objs.size+1) f.names (Ff z f.names [])).map (·.2)).filter (λ a=>decide (s.heap.objs.size<=a)),s.heap.get? a=none:=λ a B=>by
  rcases Ae.mp B with q |q
  ·exact fresh a (by rw[q];exact Ah _)
  ·exact fresh a (of_decide_eq_true (AS.mp q).2)
 have S:∀p∈cellsFrom (s.heap.objs.size+1) f.names (Ff z f.names []),s.heap.objs.size<=p.2->p.2∈s.heap.objs.size::((cellsFrom (s.heap.objs.size+1) f.names (Ff z f.names [])).map (·.2)).filter (λ a=>decide (s.heap.objs.size<=a)):=
  λ p N m=>Ad _ (AS.mpr ⟨Al.mpr ⟨p,N,rfl⟩,decide_eq_true m⟩)
 have D:∀x c,(cellsFrom (s.heap.objs.size+1) f.names (Ff z f.names [])).lookup x=some c->(f.names.lookup x=some .cell/\s.heap.objs.size+1<=c)\/(f.names.lookup x=some .free/\z.cells.lookup x=some c):=λ x c e=>by
  obtain⟨i1,i2⟩:=Cs x f.names (s.heap.objs.size+1) (Ff z f.names []) w;by_cases hc:f.names.lookup x=some .cell
  ·obtain⟨c',e',m⟩:=i2 hc;obtain rfl:=AF e e';exact .inl ⟨hc,m⟩
  ·rw[i1 hc,IJ x f.names [] w H] at e;split at e
   ·rename_i T;exact .inr ⟨T,e⟩
   ·cases e
 refine hQ _ _ _ ?_ kp hY ?_ ?_
 ·exact{
   ba:=λ a B=>by
    rcases Ae.mp B with q |q
    ·subst q;exact Ao.mpr (.inl Ac)
    ·obtain⟨p,N,rfl⟩:=Al.mp q;rcases g p N with q |⟨q,_⟩
     ·exact Ao.mpr (.inr (u p q))
     ·exact Ao.mpr (.inl (S p N (by rw[U] at q;omega)))
   zx:=λ a B=>by
    rcases Ao.mp B with q |q
    ·exact Ao.mpr (.inl q)
    ·exact Ao.mpr (.inr (F.zx a q))
   kind:=j
   na:=F.na
   blt:=F.blt
   pb:=λ x h=>EZ.1 h
   oj:=λ x h=>EZ.2.1 h
   ow:=λ x h=>EZ.2.2.2 h
   o3:=λ x h=>EZ.2.2.1 h
   ns:=⟨λ _=>none,(Heap.Ns.new s.heap (.type "dict")).keeps (CV _ _),λ x sl hl e=>by
    rw[Ed] at e;split at e
    ·rename_i T;cases Eq.trans (Eq.symm hl) T
    ·cases e⟩
   cell:=λ x h=>by
    rcases h with h |h
    ·obtain⟨c,e,m⟩:=(Cs x f.names (s.heap.objs.size+1) (Ff z f.names []) w).2 h;refine⟨c,none,e,?_,λ sl q=>?_⟩
     ·rcases g _ (mem_of_lookup e) with q |⟨_,q⟩
      ·exact absurd (l _ q) (BC.mpr (Aa (A8 _) m))
      ·exact q
     ·rw[Ed] at q;split at q
      ·rename_i T;cases Eq.trans (Eq.symm h) T
      ·cases q
    ·obtain⟨c,ov,e,i,hv⟩:=F.cell x (C x _ (mem_of_lookup h) rfl);refine⟨c,ov,?_,i.keeps kp,λ sl q=>?_⟩
     ·show(cellsFrom (s.heap.objs.size+1) f.names (Ff z f.names [])).lookup x=some c;rw[(Cs x f.names (s.heap.objs.size+1) (Ff z f.names []) w).1 (by rw[h];simp),IJ x f.names [] w H,if_pos h,e]
     ·rw[Ed,if_pos h] at q;obtain⟨v,e',r⟩:=hv sl q;exact⟨v,e',(r.az hY).ac KP⟩
   inj:=λ x y c h hy=>by
    rcases D x c h with⟨kx,lx⟩ |⟨kx,ex⟩<;>rcases D y c hy with⟨ky,ly⟩ |⟨ky,ey⟩
    ·have ok:=cellsFrom_ok f.names (s.heap.push I2) (s.heap.objs.size+1) [] ⟨λ _ _ hm=>(nomatch hm),List.Pairwise.nil⟩ (by rw[U];exact Ah _);rw[U] at ok;have I:(cellsFrom (s.heap.objs.size+1) f.names (Ff z f.names [])).lookup x=some c:=h;have J:(cellsFrom (s.heap.objs.size+1) f.names (Ff z f.names [])).lookup y=some c:=hy;rw[NT,Jo] at I J;obtain⟨c1,e1,_⟩:=(Cs x f.names (s.heap.objs.size+1) [] w).2 kx;obtain⟨c2,e2,_⟩:=(Cs y f.names (s.heap.objs.size+1) [] w).2 ky;rw[e1] at I;rw[e2] at J;simp at I J;subst I;subst J;exact name_of_addr ok.apart (mem_of_lookup e1) (mem_of_lookup e2)
    ·obtain⟨o,M⟩:=(F.alive _ (F.zx _ (F.ba _ (BP ey)))).2;exact absurd (Az M) (BC.mpr (Aa (A8 _) lx))
    ·obtain⟨o,M⟩:=(F.alive _ (F.zx _ (F.ba _ (BP ex)))).2;exact absurd (Az M) (BC.mpr (Aa (A8 _) ly))
    ·exact F.inj x y c ex ey
   o6:=λ x sl q=>by
    rw[Ed] at q;split at q
    ·rename_i T;exact⟨.inr (.inr T),(F.o6 x sl q).2⟩
    ·cases q
   alive:=λ a B=>by
    rcases Ao.mp B with q |q
    ·refine⟨Dx R (hY a q),?_⟩;rcases Ae.mp q with q |q
     ·subst q;exact⟨_,CV _ _ _ _ (Ak _ rfl)⟩
     ·obtain⟨q1,q2⟩:=AS.mp q;obtain⟨p,N,rfl⟩:=Al.mp q1;rcases g p N with q |⟨_,o,M,_⟩
      ·have:=l p q;have h3:=of_decide_eq_true q2;exact absurd this (BC.mpr h3)
      ·exact⟨o,M⟩
    ·exact⟨(F.alive a q).1,Bc KP (F.alive a q).2⟩
   nr:=λ x y d e h1 h2=>by
    rw[Ed] at h1 h2;split at h1
    ·split at h2
     ·exact F.nr x y d e h1 h2
     ·cases h2
    ·cases h1}
 ·intro a B;rcases B with rfl |⟨x,h,e⟩
  ·exact Ac
  ·rcases D x a e with⟨_,m⟩ |⟨k,_⟩
   ·exact S (x,a) (mem_of_lookup e) (Aa (A8 _) m)
   ·cases Eq.trans (Eq.symm h) k
 ·intro a B;rcases Ae.mp B with q |q
  ·subst q;exact .inl Ac
  ·obtain⟨p,N,rfl⟩:=Al.mp q;rcases g p N with q |⟨q,_⟩
   ·exact .inr (BP (t p q))
   ·exact .inl (S p N (by rw[U] at q;omega))
end
section
variable {A:Around}{z:Env}{E:B3}
theorem Ig.ag (w:∀a∈b,a∈X)(E:Ig W X h I d):Ig W b h I d:=by
 cases E with
 |@list H N n k o s z A=>exact .list k o (λ q=>s (w _ q)) z (A.ag w)
 |@aw H N n k o s z A=>exact .aw k o (λ q=>s (w _ q)) z (A.ag w)
 |@range a c n k o s=>exact .range k o s
theorem Ig.az (A:∀a∈Y,h.get? a=none)(O:Ig W X h I b):Ig W (Y++X) h I b:=by
 have N:∀{s:Addr}{o:Obj},h.get? s=some o->s∉X->s∉Y++X:=λ e n q=>by
  rcases Ao.mp q with q |q
  ·rw[A _ q] at e;cases e
  ·exact n q
 cases O with
 |@list s Q n w k z E H=>exact .list w k (N k z) E (H.az A)
 |@aw s Q n w k z E H=>exact .aw w k (N k z) E (H.az A)
 |@range a c n w k z=>exact .range w k z
theorem FI.congr (F:FI W V z Z X h O)(w:∀a,a∈b↔a∈Z)(s:∀a,a∈c↔a∈X):FI W V z b c h O:=
 F.same (λ a k=>(w a).mpr (F.ba a k)) (λ a k=>(s a).mpr (F.zx a ((w a).mp k))) (λ _ h=>h) (λ _ _ _ _ h=>h) (λ _ _ _ _ r=>r.to (λ _ _ r=>r.ag λ a k=>(s a).mp k) λ a _ m A o=>⟨(s a).mpr m,λ q=>A ((w a).mp q),o.map (λ _ e _=>e) λ _ _ r=>r.ag λ a k=>(s a).mp k⟩)
   λ a k=>F.alive a ((s a).mp k)
end
noncomputable def D8 (h:List (Str×PV))(k:Str)(d:PV):List (Str×PV):=
 if h.any (λ e=>e.1=k) then h.map (λ e=>if e.1=k then(e.1,d) else e) else h++[(k,d)]
noncomputable def Vt (l:List (Str×PV)):List (Str×PV):=l.foldl (λ h p=>D8 h p.1 p.2) []
noncomputable def Yl (o:Bl)(D:Addr)(X:List Addr)(h:Heap)(l:List PV):Prop:=∃k n,h.get? D=some (Fd k n)/\RpL o X h k.toList l
noncomputable def Vn (k:Bl)(D:Addr)(X:List Addr)(o:Heap)(l:List (Str×PV)):Prop:=
 ∃h,o.DictOf k.K D h/\h.map (·.1)=(Vt l).map (·.1)/\RpL k X o (h.map (·.2)) ((Vt l).map (·.2))
section
variable {A:Around}{z:Env}{E:B3}
theorem oY (D:Addr):Ym D (Yl W D) where
 be:=λ x hk k=>by obtain⟨h,n,e,r⟩:=x;exact⟨h,n,k _ e,r.be hk⟩
 obj:=λ x=>by obtain⟨h,n,e,r⟩:=x;exact⟨_,e,.inl rfl⟩
theorem oZ (D:Addr):Ym D (Vn W D) where
 be:=λ x hk z=>by obtain⟨h,⟨o,s,w,k,x⟩,q,r⟩:=x;exact⟨h,⟨o,s,w,z _ k,x⟩,q,r.be hk⟩
 obj:=λ x=>by obtain⟨h,⟨o,s,w,k,A,_⟩,q,r⟩:=x;exact⟨o,k,.inr (.inr A.1)⟩
theorem UC (h:List (Str×PV))(k:Str)(d:PV):(h.map λ e=>if e.1=k then(e.1,d) else e).map (·.1)=h.map (·.1):=by
 induction h with
 |nil=>rfl
 |cons e h o=>
  rw[A0,o];by_cases q:e.1=k<;>simp[q]
theorem TO (A:Rp W X h v d):∀(k:List (Str×Value))(o:List (Str×PV)),k.map (·.1)=o.map (·.1)->RpL W X h (k.map (·.2)) (o.map (·.2))->
 RpL W X h ((k.map λ s=>if s.1=a then(s.1,v) else s).map (·.2)) ((o.map λ e=>if e.1=a then(e.1,d) else e).map (·.2)):=by
 intro k;induction k with
 |nil=>
  intro o hk r;cases o with
  |nil=>exact .nil
  |cons _ _=>contradiction
 |cons s k E=>
  intro o hk r;cases o with
  |nil=>contradiction
  |cons e o=>
   simp only[A0,List.cons.injEq] at hk;obtain⟨H,N⟩:=RpL.qu r
   ·skip
    refine .cons ?_ (E o hk.2 N);by_cases q:e.1=a
    ·have w:s.1=a:=hk.1.trans q;simpa[q,w] using A
    ·have w:¬s.1=a:=λ z=>q (hk.1.symm.trans z);simpa[q,w] using H
theorem KM {v:Value}{b:List (Str×PV)}{a:List (Str×Value)}{k:Str}{d:PV}(hk:a.map (·.1)=b.map (·.1))(r:RpL W X h (a.map (·.2)) (b.map (·.2)))(s:Rp W X h v d):
 (stored a k v).map (·.1)=(D8 b k d).map (·.1)/\RpL W X h ((stored a k v).map (·.2)) ((D8 b k d).map (·.2)):=by
 have o:(a.any λ w=>decide (w.1=k))=(b.any λ e=>decide (e.1=k)):=by
  have:=I1 (W:=W) (X:=X) (h:=h) k hk r;rw[<-this.1];rw[BO];simp
 delta stored D8
 rw[o];split
 ·exact⟨by simp only[keys_map_store,UC,hk],TO s a b hk r⟩
 ·simp only[BR,BR,BR,BR];exact⟨by rw[hk];rfl,r.append (.bp s)⟩
theorem Fu (h:List (Str×PV))(k:Str)(d:PV):(D8 h k d).length<=h.length+1:=by
 unfold D8;split<;>simp
theorem Nb (l:List (Str×PV))(p:Str×PV):Vt (l++[p])=D8 (Vt l) p.1 p.2:=by simp[Vt]
theorem Na (l:List (Str×PV)):(Vt l).length<=l.length:=by
 have k:∀(l h:List (Str×PV)),(l.foldl (λ h p=>D8 h p.1 p.2) h).length<=h.length+l.length:=by
  intro l;induction l with
  |nil=>intro h;exact Ah _
  |cons p l o=>intro h;exact Aa (o (D8 h p.1 p.2)) (Aa (Bb (Fu h p.1 p.2) _) (AG (by rw[BV,BE 1];rfl)))
 have:=k l [];simpa[Vt] using this
noncomputable def VP:PV->Option Str
 | .str s=>some s
 |_=>none
theorem Ud {m:Str->Option Value}(V:s.heap.get? C=none)(h:A9 W s.heap H)(l:s.toks<=b)(N:H.Ns C m)(r:Rp W (C::X) H (.ref D) d)
 (Z:∀v H b,A9 W s.heap H->s.toks<=b->Rp W X H v d->Q v {s with heap:=H,toks:=b}):compPost W.M A E none Q (.ref D) C (.ok .next) {s with heap:=H,toks:=b}:=by
 refine⟨m,N,λ k O=>Z _ k b (h.bb V (λ o g c e=>?_) O) l ((r.bb O Ac).ag λ a f=>Ad _ f)⟩;obtain⟨i,j,n,w,z,_⟩:=N;obtain rfl:=AF c w;cases Eq.trans (Eq.symm e) z
end
inductive BF where
 |len |sum |max |min |sorted |str |int |list
 deriving DecidableEq
noncomputable def BF.name:BF->Str
 | .len=>"len" | .sum=>"sum" | .max=>"max" | .min=>"min" | .sorted=>"sorted" | .str=>"str" | .int=>"int" | .list=>"list"
noncomputable def BF.val:BF->Value
 | .len=>.builtin "len" | .sum=>.builtin "sum" | .max=>.builtin "max" | .min=>.builtin "min" | .sorted=>.builtin "sorted" | .str=>.type "str" | .int=>.type "int" | .list=>.type "list"
variable {i:Nat} in
noncomputable def cQ:PV->Option Int
 | .int i=>some i
 |_=>none
noncomputable def EA (l:List PV):Option (List Int):=l.mapM cQ
noncomputable def Em (l:List PV):Option (List Str):=l.mapM VP
theorem Qs (h:EA (d::l)=some a):∃i r,d=.int i/\EA l=some r/\a=i::r:=by
 unfold EA at h;rw[Ho] at h;obtain⟨b,o,h⟩:=Aq.mp h;obtain⟨s,k,h⟩:=Aq.mp h;cases h;cases d<;>simp[cQ] at o;subst o;exact⟨_,_,rfl,k,rfl⟩
theorem Lj (h:Em (d::l)=some a):∃i r,d=.str i/\Em l=some r/\a=i::r:=by
 unfold Em at h;rw[Ho] at h;obtain⟨b,o,h⟩:=Aq.mp h;obtain⟨s,k,h⟩:=Aq.mp h;cases h;cases d<;>simp[VP] at o;subst o;exact⟨_,_,rfl,k,rfl⟩
noncomputable def VX (l:List Int):List Int:=l.mergeSort (λ a b=>decide (a<=b))
variable {a:Addr}{r:List Stmt} in
noncomputable def Qe:List Int->Option Int
 |[]=>none
 |a::r=>some (r.foldl max a)
section
variable {A:Around}
theorem RpL.qn (r:RpL W X h c d):EA d=some b->IntsAre c b:=
 r.br (P:=λ c d=>∀b,EA d=some b->IntsAre c b) (λ _ e=>Au e▸.nil) (λ v _ _ _ a _ i b e=>by
   obtain⟨j,o,rfl,k,rfl⟩:=Qs e;obtain⟨t,rfl⟩:=a.ah;exact .cons _ _ (i _ k)) b
theorem RpL.o9 {a:List Int}(r:IntsAre b a):RpL W X h b (a.map .int):=r.rec (motive:=λ b a _=>RpL W X h b (a.map .int)) .nil λ n t{_ _} _ i=>.cons (.int n t) i
theorem RpL.qf (r:RpL W X h c d):Em d=some b->StrsAre c b:=
 r.br (P:=λ c d=>∀b,Em d=some b->StrsAre c b) (λ _ e=>Au e▸.nil) (λ v _ _ _ a _ i b e=>by
   obtain⟨j,o,rfl,k,rfl⟩:=Lj e;obtain⟨t,rfl,_⟩:=a.ah;exact .cons _ _ (i _ k)) b
theorem T4:∀{h:List PV}{k:List Str},Em h=some k->h=k.map .str:=by
 intro h;induction h with
 |nil=>
  intro _ e;cases e;rfl
 |cons d h o=>
  intro k e;obtain⟨i,w,rfl,s,rfl⟩:=Lj e;rw[o s];rfl
theorem RpL.qg {a:List Str}(r:RpL W X h b (a.map .str)):∀x∈a,PyData.strOk x=true/\x.length<=Bf:=λ x o=>by
 obtain⟨k,hk⟩:=List.mem_iff_getElem?.mp o;obtain⟨v,_,s⟩:=r.get (k:=k) (d:=.str x) (by rw[Aw,hk];rfl);exact s.ah.choose_spec.2
theorem RpL.o8 {a:List Str}(r:StrsAre b a):(∀x∈a,PyData.strOk x=true/\x.length<=Bf)->RpL W X h b (a.map .str):=
 r.rec (motive:=λ b a _=>(∀x∈a,PyData.strOk x=true/\x.length<=Bf)->RpL W X h b (a.map .str)) (λ _=>.nil) λ n t{_ _} _ i hk=>.cons (.str n t (hk n Ac).1 (hk n Ac).2) (i λ x k=>hk x (Ad _ k))
theorem Mw (r:StrsAre b a):∃l:List (Str×Tok),b=strValues l/\l.map (·.1)=a:=
 r.rec (motive:=λ b a _=>∃l:List (Str×Tok),b=strValues l/\l.map (·.1)=a) ⟨[],rfl,rfl⟩ λ n t{_ _} _ i=>by obtain⟨l,h,k⟩:=i;exact⟨(n,t)::l,congrArg (Value.str n t::·) h,congrArg (n::·) k⟩
theorem PT (h:List Int):preSum (λ i=>h.getD i 0) h.length=h.sum:=by
 have o:∀k,k<=h.length->preSum (λ i=>h.getD i 0) k=(h.take k).sum:=by
  intro k;induction k with
  |zero=>intro _;rfl
  |succ k s=>
   intro hk;rw[preSum,s (by exact Cx ‹_›),take_sum_succ _ _ (by assumption)]
 rw[o _ (Ah _),List.take_length]
theorem ZO {v:Value}{b:List Value}{i:Nat}{a:List Int}(r:IntsAre b a):b[i]? =some v->∃t,v=.int (a.getD i 0) t:=
 r.rec (motive:=λ b a _=>∀i:Nat,b[i]? =some v->∃t,v=.int (a.getD i 0) t) (λ _ e=>absurd (HZ.symm.trans e) nofun) (λ n t{_ _} _ h i=>i.casesOn (λ e=>⟨t,(Au e).symm⟩) h) i
theorem TW {c:Array Value}{d:List Int}(r:A.handled=none)(Z:s.heap.get? a=some (Fd c n))(f:IntsAre c.toList d)
 (u:∀t N x,A9 W s.heap N->Q (.int d.sum t) {s with heap:=N,toks:=x}):wpAny W.M A (call (.builtin "sum") [.ref a]) Q E s:=by
 have g:s.heap.IsList a c:=⟨_,Z,rfl,n,rfl⟩;refine call_sum_walkAnyS (wpAny_pyIter_list g ?_);have h:a<s.heap.objs.size:=Az Z;have O:a≠s.heap.objs.size:=BN h;have k:=f.length;refine⟨_,_,_,_,_,_,_,λ i=>d.getD i 0,rfl,((Walks.list (prog:=W.prog) (w:=W.w) (A:=A.in1) r s.heap.objs.size a O c)).toS,⟨⟨_,Ak _ rfl,rfl,rfl⟩,g.push _⟩,λ b w=>?_,λ i v y=>ZO f (by simpa using y),λ H z j=>?_⟩
 ·show b<(s.heap.push _).objs.size;rw[BS];rcases Ae.mp w with rfl |w
  ·exact DV _
  ·rcases Ae.mp w with rfl |w
   ·exact FN h
   ·contradiction
 ·have e:H={s with heap:=H.heap,toks:=H.toks}:=by
   obtain⟨N,G,I,B,C⟩:=H;obtain⟨_,l,m,p,_⟩:=j;simp only at l m p;subst l m p;rfl
  rw[(by simpa using k:c.size=d.length),PT,e];refine u z _ _ (.ae λ b o q=>j.heap b o (λ V=>?_) (Am _ q));rcases Ae.mp V with D |V
  ·exact absurd (D▸Az q) (Fb _)
  ·cases V
theorem MZ (l:List Int)(a:Int):(l.foldl max a∈a::l)/\∀b∈a::l,b<=l.foldl max a:=List.max?_eq_some_iff.mp rfl
theorem RO {d:Array Value}(q:A.handled=none)(u:s.heap.get? a=some (Fd d n))(V:IntsAre d.toList f)(x:Qe f=some M)
 (y:∀t N O,A9 W s.heap N->Q (.int M t) {s with heap:=N,toks:=O}):wpAny W.M A (call (.builtin "max") [.ref a]) Q E s:=by
 have Z:s.heap.IsList a d:=⟨_,u,rfl,n,rfl⟩;obtain⟨h,e⟩:=V.allInts.items;have o:f=h.toList.map (·.1):=by rw[<-V.numsOf,<-nums_intItems,<-e]
 cases f with
 |nil=>contradiction
 |cons c r=>
  have k:(c::r).length=h.size:=by rw[o,Af,CK]
  have w:0<h.size:=k▸EQ _;rw[show d=intItems h from e] at Z;refine max_intList q Z w λ v N O g hk=>?_;obtain⟨t,rfl⟩:=intItems_at g;clear g;obtain⟨l,m⟩:=argBest_gt (numAt h) (h.size-1);generalize argBest (λ i j=>decide (numAt h i>numAt h j)) (h.size-1)=b at l m ⊢;obtain⟨z,B⟩:=MZ r c;have p:=numAt_eq h b;rw[<-o] at p;obtain⟨j,C,D⟩:=mem_getD z;have H:=numAt_eq h j;rw[<-o,D] at H;have:numAt h b=M:=(Eh (p▸B _ (getD_mem (k▸Nat.lt_of_le_pred w l))) (H▸m j (Nat.le_pred_of_lt (k▸C)))).trans (Au x);exact this▸y t N O (.ae hk)
theorem PM (s:a.Perm b)(w:a.Pairwise (·<=·)):a=VX b:=by
 refine G9 (le:=(·<=·)) (λ x y _ _ k o=>Eh k o) w ?_ (s.trans (GV b _).symm)
 have:=IL (le:=λ(a b:Int)=>decide (a<=b)) (λ a b c k o=>decide_eq_true (AT (of_decide_eq_true k) (of_decide_eq_true o))) (λ a b=>(Int.le_total a b).elim (λ h=>by rw[decide_eq_true h];exact Bool.true_or _) λ h=>by rw[decide_eq_true h];exact Bool.or_true _) b;exact this.imp λ h=>by simpa using h
noncomputable def S5 (a b:Str):Bool:=decide (a.cps.toList<=b.cps.toList)
noncomputable def HT (l:List Str):List Str:=l.mergeSort S5
theorem OT:∀(r:List Str)(p:Str),risingS p r=true->(p::r).Pairwise (λ a b=>S5 a b=true):=by
 intro r;induction r with
 |nil=>
  intro p _;simp
 |cons x r k=>
  intro p h;simp only[risingS] at h;rw[As,FJ,ltCps_eq,decide_eq_false_iff_not,List.not_lt] at h;have s:=k x h.2;refine Hn.mpr ⟨λ b o=>?_,s⟩;rcases Ae.mp o with rfl |o
  ·simpa[S5] using h.1
  ·have:=(Hn.mp s).1 b o;simp only[S5,decide_eq_true_eq] at this ⊢;exact List.le_trans h.1 this
theorem PL (o:a.Perm b)(s:sortedS a=true):a=HT b:=by
 have h:a.Pairwise (λ a b=>S5 a b=true):=by
  cases a with
  |nil=>simp
  |cons x r=>exact OT r x s
 refine G9 (le:=λ a b=>S5 a b=true) (λ x y _ _ h k=>?_) h ?_ (o.trans (GV b _).symm)
 ·simp only[S5,decide_eq_true_eq] at h k;have:=List.le_antisymm h k;obtain⟨⟨x⟩⟩:=x;obtain⟨⟨y⟩⟩:=y;simp only at this;rw[this]
 ·exact IL (λ a b c h k=>by simp only[S5,decide_eq_true_eq] at*;exact List.le_trans h k) (λ a b=>by simp only[S5,Cg,decide_eq_true_eq];exact List.le_total _ _) b
variable {a:List PV} in
noncomputable def nP:PV->Option PV
 | .list a=>some (.int a.length)
 | .str x=>some (.int x.length)
 |_=>none
variable {i:Nat} in
noncomputable def mY:PV->Option PV
 | .int i=>Qw (i.natAbs<1000000000) (.str (Str.ofString (toString i)))
 | .str x=>some (.str x)
 |_=>none
noncomputable def cH (h:List PV):Option PV:=if decide (h.length<64) then((EA h).map λ k=>.list ((VX k).map .int)).or ((Em h).map λ o=>.list ((HT o).map .str)) else none
noncomputable def pZ (x:PV):Option PV:=ZH x λ h=>(EA h).bind λ k=>(Qe k).map .int
noncomputable def QW (f:BF)(args:List PV):Option PV:=match f with
 | .len=>PE args nP
 | .sum=>PE args λ x=>ZH x λ h=>(EA h).map λ k=>.int k.sum
 | .max=>(PE args pZ).or (jD args (NP λ a b=>some (.int (if b>a then b else a))))
 | .min=>jD args (NP λ a b=>some (.int (if b<a then b else a)))
 | .sorted=>PE args λ x=>ZH x cH
 | .str=>PE args mY
 | .int=>PE args λ x=>Ry x λ x=>if decide (x.length<=640) then(PySem.intText? x).map .int else none
 | .list=>PE args λ x=>ZH x λ h=>some (.list h)
theorem NJ (i:Int):PyData.strOk (Str.ofString (toString i))=true:=by
 unfold PyData.strOk;rw[Fw];intro c hc;by_cases q:c<1114112
 ·exact decide_eq_true q
 ·exact absurd (Gq.mpr hc) (int_text_free' c ⟨λ h=>q (h▸by decide),.inr (AJ (by decide) (BC.mp q))⟩ i)
theorem VW {c:Array Value}(D:∀a∈X,∃o,s.heap.get? a=some o)(G:s.heap.get? a=some (Fd c n))(z1:c.size<=Bf)(l:RpL W X s.heap c.toList f)(e:cH f=some d)
 (I:∀v r J,A9 W s.heap r->Rp W X r v d->Q v {s with heap:=r,toks:=J}):wpAny W.M A (call (.builtin "sorted") [.ref a]) Q E s:=by
 have q:=F8 e;have m:=l.length;have O:s.heap.IsList a c.toList.toArray:=⟨_,G,rfl,n,rfl⟩;have V:c.toList.length<64:=m▸of_decide_eq_true q.1;have Z:∀(h:Array Value)(p:List PV),PV.list p=d->RpL W X s.heap h.toList p->p.length=f.length->Q (.ref (s.heap.objs.size+1)) {s with heap:=sortedAll s.heap c.toList h}:=λ h p g B t=>
  have⟨S,u⟩:=sortedAll_at s.heap c.toList h;have k:A9 W s.heap (sortedAll s.heap c.toList h):=.ae λ b o L=>sortedAll_old L
  I _ _ s.toks k (.at g (.list u (λ q=>by obtain⟨o,M⟩:=D _ q;exact absurd (Az M) (BC.mpr (A8 _))) (show h.toList.length<=Bf from B.length▸t▸m▸z1) (B.ac k)))
 rcases Jf.mp q.2 with e |⟨_,e⟩
 ·obtain⟨C,w,g⟩:=AY.mp e;have i:=l.qn w;refine sorted_ints O i V λ h y N H j=>Z h _ g (PM H j▸.o9 N) ?_;rw[Af,<-PM H j,H.length_eq,<-i.length,m]
 ·obtain⟨C,w,g⟩:=AY.mp e;have i:=l.qf w;have z:RpL W X s.heap c.toList (C.map .str):=T4 w▸l;refine sorted_strs O i V λ h y N H j=>Z h _ g (PL H j▸.o8 N λ x R=>z.qg x (H.mem_iff.mp R)) ?_;rw[Af,<-PL H j,H.length_eq,<-i.length,m]
theorem ZP {i:Int}(h:i.natAbs<1000000000):i.natAbs.log2<1920:=by
 by_cases z:i.natAbs=0
 ·rw[z];decide
 ·exact(Nat.log2_lt z).mpr (Cn h (by decide+kernel))
theorem Yv {i:Int}(h:i.natAbs<1000000000):(Str.ofString (toString i)).length<=Bf:=by
 have:=int_text_length_le10 (a:=i) (k:=9) (by decide) h;rw[PySem.ofString_length];exact Aa this (by decide)
theorem Sq (B:A.handled=none)(C:∀a∈X,∃o,s.heap.get? a=some o)(r:RpL W X s.heap b args)(e:QW f args=some d):
 CC W A (call f.val b) s (λ v m=>Rp W X m v d):=.of λ Q E Z=>by
 have p:∀v g,Rp W X s.heap v d->Q v {s with toks:=g}:=λ v g r=>Z v _ g (.refl _) r;have O:∀{f:PV->Option PV}{c:Value},PE args f=some d->(∀v x,Rp W X s.heap v x->f x=some d->wpAny W.M A (call c [v]) Q E s)->wpAny W.M A (call c b) Q E s:=λ{f c} e k=>K0 (P:=λ l=>wpAny W.M A (call c l) Q E s) r e k;have L:∀{f:List PV->Option PV}{c:Value},PE args (λ x=>ZH x f)=some d->(∀a H n V,s.heap.get? a=some (Fd H n)->H.size<=Bf->RpL W X s.heap H.toList V->f V=some d->wpAny W.M A (call c [.ref a]) Q E s)->wpAny W.M A (call c b) Q E s:=
  λ{f c} e k=>O e λ v x r e=>Kg (P:=λ v=>wpAny W.M A (call c [v]) Q E s) r e k
 have I:∀{f:Int->Int->Option PV}{c:Value},jD args (NP f)=some d->(∀x t y u,f x y=some d->wpAny W.M A (call c [.int x t,.int y u]) Q E s)->wpAny W.M A (call c b) Q E s:=
  λ{f c} e k=>NY (P:=λ l=>wpAny W.M A (call c l) Q E s) r e λ v x w y h D e=>Hk (P:=λ v w=>wpAny W.M A (call c [v,w]) Q E s) h D e k
 cases f with
 |len=>
  refine O e λ v x r e=>?_;cases x with
  |list V=>
   obtain⟨a,H,n,rfl,N,_,z1,h⟩:=r.ah;refine len_list ⟨_,N,rfl,n,rfl⟩ (RW z1) (p _ _ (.yes e ?_));exact(h.length.symm▸rfl:V.length=H.size)▸.int _ _
  |str x=>obtain⟨t,rfl,_,z⟩:=r.ah;exact PyProof.Rows.len_str (Int.not_le.mpr (RW z)) (p _ _ (.yes e (.int _ _)))
  |_=>exact no e
 |sum=>
  refine L e λ a H n V N z1 h e=>?_;obtain⟨G,j,rfl⟩:=AY.mp e;exact TW B N (h.qn j) λ t m g k=>Z _ _ _ k (.int _ _)
 |max=>
  rcases Jf.mp e with e |⟨_,e⟩
  ·refine L e λ a H n V N z1 h e=>?_;obtain⟨G,j,e⟩:=Aq.mp e;obtain⟨M,J,rfl⟩:=AY.mp e;exact RO B N (h.qn j) J λ t m g k=>Z _ _ _ k (.int _ _)
  ·exact I e λ x t y u e=>max_two_ints B λ m g k=>Z _ _ _ (.ae k) (.yes e (by split<;>exact .int _ _))
 |min=>exact I e λ x t y u e=>min_two_ints B λ m g k=>Z _ _ _ (.ae k) (.yes e (by split<;>exact .int _ _))
 |sorted=>exact L e λ a H n V N z1 h e=>VW C N z1 h e Z
 |str=>
  refine O e λ v x r e=>?_;cases x with
  |int i=>
   obtain⟨t,rfl⟩:=r.ah;have q:=DG e;exact P.str_of_int (ZP q.1) (p _ _ (.at q.2 (.str _ _ (NJ i) (Yv q.1))))
  |str x=>obtain⟨t,rfl,o,z⟩:=r.ah;exact P.str_of_str (p _ _ (.yes e (.str _ _ o z)))
  |_=>exact no e
 |int=>
  refine O e λ v x r e=>Hc (P:=λ v=>wpAny W.M A (call (.type "int") [v]) Q E s) r e λ x t o z e=>?_;have q:=F8 e;obtain⟨n,R,rfl⟩:=AY.mp q.2;exact KIN.call_text R (of_decide_eq_true q.1) (p _ _ (.int _ _))
 |list=>
  exact L e λ a H n V N z1 h e=>call_list_seq a (.inl rfl) N rfl rfl (λ m T k S=>Z _ _ _ (.ae k) (.yes e (.list S (Gl C) z1 (h.ac (.ae k))))) (Aa z1 DX)
end
inductive MF where
 |find |count |join |split |nv
 deriving DecidableEq
noncomputable def MF.name:MF->Str
 | .find=>"find" | .count=>"count" | .join=>"join" | .split=>"split" | .nv=>"index"
noncomputable def MF.id:MF->String
 | .find=>"str.find" | .count=>"str.count" | .join=>"str.join" | .split=>"str.split" | .nv=>"list.index"
noncomputable def MF.ty:MF->String
 | .nv=>"list" |_=>"str"
noncomputable def MF.all:List MF:=[.find,.count,.join,.split,.nv]
noncomputable def jZ (x:Str):Option MF:=MF.all.find? λ m=>m.name==x
noncomputable def BF.all:List BF:=[.len,.sum,.max,.min,.sorted,.str,.int,.list]
noncomputable def lO (x:Str):Option BF:=BF.all.find? λ m=>m.name==x
theorem Un (h:jZ x=some m):x=m.name:=by
 have:=List.find?_some h;exact(BB this).symm
theorem Ve (h:lO x=some m):x=m.name:=by
 have:=List.find?_some h;exact(BB this).symm
theorem MF.plain (m:MF):PlainAttrs m.ty:=by cases m<;>first |exact F.plainAttrs_str |exact F.plainAttrs_list
theorem MF.slot (m:MF):PySem.Slot m.ty m.name m.id:=by
 cases m
 ·exact F.slot_str_find
 ·exact F.slot_str_count
 ·exact F.slot_str_join
 ·exact JF
 ·exact F.slot_list_index
theorem MF.ue (m:MF):typeOf (.builtin m.id)=pure (.type "method_descriptor"):=by
 cases m
 ·exact F.type_str_find
 ·exact F.type_str_count
 ·exact F.type_str_join
 ·exact F.type_str_split
 ·exact F.type_list_index
noncomputable def J2 (x:Str):Bool:=PyData.strOk x&&decide (x.length<=Bf)
noncomputable def W6 (x:Str)(k:List PV):Option PV:=(Em k).bind λ h=>if JoinOk x h&&J2 (Txt.join x h) then some (.str (Txt.join x h)) else none
noncomputable def VT (x y:Str):Option PV:=if !(y.length==0)&&(Txt.split x y).all J2&&decide ((Txt.split x y).length<=Bf) then some (.list ((Txt.split x y).map .str)) else none
noncomputable def Xf (k:List PV)(y:Str):Option PV:=(Em k).bind λ h=>if h.contains y then some (.int (h.idxOf y)) else none
noncomputable def Iy (m:MF)(b:PV)(args:List PV):Option PV:=match m with
 | .find=>Ry b λ x=>(PE args λ y=>Ry y λ y=>some (.int (Txt.find x y))).or (jD args λ y i=>Ry y λ y=>Vs i λ i=>some (.int (Txt.find3 x y i)))
 | .count=>Ry b λ x=>PE args λ y=>Ry y λ y=>some (.int (Txt.count x y))
 | .join=>Ry b λ x=>PE args λ y=>ZH y (W6 x)
 | .split=>Ry b λ x=>PE args λ y=>Ry y (VT x)
 | .nv=>ZH b λ h=>PE args λ y=>Ry y (Xf h)
section
variable {A:Around}
noncomputable def Xe (h:Str)(v:Value):Bool:=v.isStr h
theorem SK {b:List Value}(h:Str){a:List Str}(r:StrsAre b a):∀(j:Nat)(k:j<b.length)(o:j<a.length),Xe h b[j]=(a[j]==h):=
 r.rec (motive:=λ b a _=>∀(j:Nat)(k:j<b.length)(o:j<a.length),Xe h b[j]=(a[j]==h)) (λ _ k=>(by contradiction)) λ n t{_ _} _ i j=>j.casesOn (λ _ _=>rfl) λ j k o=>i j (Jz k) (Jz o)
theorem O3 {a:List Str}(h:j<a.idxOf b)(k:j<a.length):(a[j]==b)=false:=List.not_of_lt_findIdx h
theorem VM (r:StrsAre a b):∀v∈a,∃x t,v=.str x t:=
 r.rec (motive:=λ a _ _=>∀v∈a,∃x t,v=.str x t) (λ _ h=>(by contradiction)) λ n t{_ _} _ i v h=>(Ae.mp h).elim (λ e=>⟨_,_,e⟩) (i v)
theorem OM:∀(l:List Str)(h:Nat),StrsAre (strsFrom h l) l:=by
 intro l;induction l with
 |nil=>
  intro _;exact .nil
 |cons x r k=>
  intro h;exact .cons x h (k (h+1))
theorem RI {x:Str}(h:J2 x=true):PyData.strOk x=true/\x.length<=Bf:=⟨(CA h).1,of_decide_eq_true (CA h).2⟩
theorem T6 {x:Str}(g:∀a∈X,∃o,s.heap.get? a=some o)(z:x.length<=Bf)(e:VT x y=some d)(i:∀v b O,A9 W s.heap b->Rp W X b v d->Q v {s with heap:=b,toks:=O}):
 wpAny W.M A (call (.builtin "str.split") [.str x t,.str y u]) Q E s:=by
 have q:=HD e;have c:(y.length==0)=false:=(FJ _).mp (CA (CA q.1).1).1;have h:(Txt.split x y).length<=Bf:=of_decide_eq_true (CA q.1).2;have H:∀p∈Txt.split x y,PyData.strOk p=true/\p.length<=Bf:=λ p j=>RI (AE.mp (CA (CA q.1).1).2 p j);have k:∀(V:List Value) O,StrsAre V (Txt.split x y)->Q (.ref s.heap.objs.size) {s with heap:=s.heap.push (Fd V.toArray 0),toks:=O}:=λ V O f=>
  i _ _ _ (.push _ _) (.at q.2 (.list (Ak _ rfl) (Gl g) (show V.length<=Bf from f.length▸h) (RpL.o8 f H)))
 have w:(Txt.split x y).length<=sizeLine:=Aa h DX;clear H q;unfold Txt.split at k h w;cases N:(decide (x.length<y.length)||decide (Builtin.Str.strKind x<Builtin.Str.strKind y))
 ·rw[N] at k h w;cases Z:(Builtin.Str.occurrences x y 0 x.length (x.length+1)).isEmpty
  ·rw[Z] at k h w;exact Ij JF (GO _ _ _) F.entry_str_split (F.args_str_split_2 _ _) (meets_str_split_sep x y t u N c Z (Aa z DX) w) (k _ _ (OM _ _))
  ·rw[Z] at k;exact Ij JF (GO _ _ _) F.entry_str_split (F.args_str_split_2 _ _) (meets_str_split_not_found x y t u N c Z) (k [.str x t] _ (.cons _ _ .nil))
 ·rw[N] at k;exact Ij JF (GO _ _ _) F.entry_str_split (F.args_str_split_2 _ _) (meets_str_split_cannot_occur x y t u N) (k [.str x t] _ (.cons _ _ .nil))
theorem UJ {b:Array Value}(V:s.heap.get? a=some (Fd b n))(z1:b.size<=Bf)(Z:RpL W X s.heap b.toList c)(e:Xf c y=some d)(f:∀v g,Rp W X s.heap v d->Q v {s with toks:=g}):
 wpAny W.M A (call (.builtin "list.index") [.ref a,.str y u]) Q E s:=by
 obtain⟨o,N,e⟩:=Aq.mp e;have q:=HD e;have H:=Z.qf N;have h:b.size=o.length:=H.length;have k:o.idxOf y<o.length:=List.idxOf_lt_length_iff.mpr (Dw.mp q.1);refine Ij F.slot_list_index ⟨_,V,rfl⟩ F.entry_list_index (F.args_list_index_2 _ _)
  (SeqAt.list_indexAt a b n none #[] (.str y u) (Xe y) (o.idxOf y) (Ht k h.symm) (D6 (B4.mpr (AJ k (Aa (AG h.symm) z1))) (by decide+kernel:((Bf:Nat):Int)<=2^63-1)) ?_ ?_) ⟨V,λ v i=>?_,f _ _ (.at q.2 (.int _ _))⟩
 ·exact(SK y H (o.idxOf y) (Ht k h.symm) k).trans (beq_iff_eq.mpr (List.getElem_idxOf k))
 ·exact λ j O w=>(SK y H j O (Cn w k)).trans (O3 w _)
 ·obtain⟨x,t,rfl⟩:=VM H v (Gq.mpr i);exact SeqAt.EqAt.str_str x t y u
theorem Qd (D:∀a∈X,∃o,s.heap.get? a=some o)(rb:Rp W X s.heap j b)(r:RpL W X s.heap g args)(e:Iy m b args=some d):
 CC W A (call (.builtin m.id) (j::g)) s (λ v G=>Rp W X G v d):=.of λ Q E N=>by
 have H:∀v V,Rp W X s.heap v d->Q v {s with toks:=V}:=λ v V r=>N v _ V (.refl _) r;have O:∀{f:PV->Option PV}{c v:Value},PE args f=some d->(∀w x,Rp W X s.heap w x->f x=some d->wpAny W.M A (call c [v,w]) Q E s)->wpAny W.M A (call c (v::g)) Q E s:=λ{f c v} e k=>K0 (P:=λ l=>wpAny W.M A (call c (v::l)) Q E s) r e k;have T:∀{f:Str->Option PV}{c v:Value},PE args (λ y=>Ry y f)=some d->(∀y u,f y=some d->wpAny W.M A (call c [v,.str y u]) Q E s)->wpAny W.M A (call c (v::g)) Q E s:=
  λ{f c v} e k=>O e λ w x r e=>Hc (P:=λ w=>wpAny W.M A (call c [v,w]) Q E s) r e λ y u _ _=>k y u
 have S:∀{f:Str->Option PV}{c:Value},Ry b f=some d->(∀x t,x.length<=Bf->f x=some d->wpAny W.M A (call c (.str x t::g)) Q E s)->wpAny W.M A (call c (j::g)) Q E s:=
  λ{f c} e k=>Hc (P:=λ v=>wpAny W.M A (call c (v::g)) Q E s) rb e λ x t _=>k x t
 cases m with
 |find=>
  refine S e λ x t z e=>?_;rcases Jf.mp e with e |⟨_,e⟩
  ·exact T e λ y u e=>SC.find (H _ _ (.yes e (.int _ _)))
  ·refine NY (P:=λ l=>wpAny W.M A (call (.builtin "str.find") (.str x t::l)) Q E s) r e λ v y w i h I e=>?_;refine Hc (P:=λ v=>wpAny W.M A (call (.builtin "str.find") [.str x t,v,w]) Q E s) h e λ y u _ _ e=>?_;exact E7 (P:=λ w=>wpAny W.M A (call (.builtin "str.find") [.str x t,.str y u,w]) Q E s) I e λ i v e=>SC.find3 (H _ _ (.yes e (.int _ _)))
 |count=>exact S e λ x t z e=>T e λ y u e=>SC.count (H _ _ (.yes e (.int _ _)))
 |join=>
  refine S e λ x t z e=>O e λ w y r e=>Kg (P:=λ w=>wpAny W.M A (call (.builtin "str.join") [.str x t,w]) Q E s) r e λ a J n L Z z1 h e=>?_;obtain⟨M,p,e⟩:=Aq.mp e;have q:=HD e;obtain⟨l,B,C⟩:=Mw (h.qf p);exact SC.join (⟨_,Z,rfl,n,by rw[<-B]⟩) C (CA q.1).1 λ R k=>N _ _ _ (.refl _) (.at q.2 (.str _ _ (RI (CA q.1).2).1 (RI (CA q.1).2).2))
 |split=>exact S e λ x t z e=>T e λ y u e=>T6 D z e N
 |nv=>exact Kg (P:=λ v=>wpAny W.M A (call (.builtin "list.index") (v::g)) Q E s) rb e λ a J n L Z z1 h e=>T e λ y u e=>UJ Z z1 h e H
end
structure A5 where
 fn:Str->Option (List PV->Option PV)
 gv:Str->Option PV
 rw:Addr->Option (List PV)
variable {i:Nat} in
noncomputable def XV:Const->Option PV
 | .none=>some .none
 | .bool b=>some (.bool b)
 | .int i=>some (.int i)
 | .str x=>if J2 x then some (.str x) else none
 |_=>none
noncomputable def BU (h:Scope)(x:Str):Bool:=CM x&&(h.names.lookup x==some .globalImplicit)
noncomputable def N4:CB->Option PV
 | .aa d=>some d
 | .nn _ d=>some d
 |_=>none
noncomputable def Oe (C:A5)(h:Scope)(k:AM)(x:Str):Option PV:=(k.lookup x).elim (if BU h x then C.gv x else none) N4
variable {i:Nat} in
noncomputable def rO:PV->Option PV
 | .int i=>some (.int (-i))
 |_=>none
noncomputable def B1 (e:Expr):Bool:=e.ctorIdx !=22
noncomputable def Ix (e:Expr):Bool:=e.ctorIdx !=7
noncomputable def RJ (e:Expr):Bool:=e.ctorIdx==23||e.ctorIdx==19||e.ctorIdx==21
variable {i:Nat} in
noncomputable def ZQ:PV->Option Int
 | .int i=>some i
 |_=>none
theorem Kh (h:ZQ d=some i):d=.int i:=by
 cases d with
 |int j=>cases h;rfl
 |_=>cases h
noncomputable def OV (a n:Int):List PV:=(List.range n.toNat).map (λ(i:Nat)=>.int (a+(i:Int)*1))
noncomputable def dW (a b:Int):List PV->Option (List PV)
 |[]=>if a<=b/\b-a<=100000/\-1000000<=a/\b<=1000000 then some (OV a (b-a)) else none
 |_::_=>none
variable {c:List (Str×PV)} in
noncomputable def dX (a:Int):List PV->Option (List PV)
 |[]=>if 0<=a/\a<=100000 then some (OV 0 a) else none
 |e::c=>(ZQ e).bind λ b=>dW a b c
variable {b:List PV} in
noncomputable def Wh:List PV->Option (List PV)
 |[]=>none
 |d::b=>(ZQ d).bind λ a=>dX a b
noncomputable def Fa (k:Bl)(w:Nat)(a:Addr)(g:List PV->Option PV):Prop:=
 ∀(A:Around)(s:Shared)(X:List Addr)(args:List PV)(h:List Value)(d:PV),Cc w A->Gd k s->(∀b∈X,k.h0.get? b=none/\∃o,s.heap.get? b=some o)->
  RpL k X s.heap h args->g args=some d->CC k A (call (.ref a) h) s (λ v H=>Rp k X H v d)
variable {a:Addr}{m:Str->Option Value} in
inductive iI (W:Bl)(k:Nat)(mg:Str->Option Value)(x:Str)(g:List PV->Option PV):Prop
 |mk (a:Addr) (o:Obj) (fd:FuncData) (m:mg x=some (.ref a)) (e:W.h0.get? a=some o) (d:o.data=.func fd) (c1:o.cls≠.type "frame") (c2:o.cls≠.none) (ok:Fa W k a g)
variable {g:Array GenState} in
structure Dt (W:Bl)(C:A5)(k:Nat)(mg mb:Str->Option Value):Prop where
 g:W.h0.Ns mainGlobals mg
 b:W.h0.Ns builtinsNs mb
 blt:∀f:BF,mg f.name=none/\mb f.name=some f.val
 uq:mg "range"=none/\mb "range"=some (.type "range")
 uk:∃o,W.h0.get? sysModules=some o
 aa:∀x d,C.gv x=some d->∃v,mg x=some v/\∀X,(∀a∈X,W.h0.get? a=none)->Rp W X W.h0 v d
 fn:∀x g,C.fn x=some g->iI W k mg x g
 row:∀r xs,C.rw r=some xs->∃vs n,W.h0.get? r=some (Fd vs n)/\vs.size<=Bf/\vs.size=xs.length
section
variable {A:Around}{z:Env}{C:A5}
theorem A7 (s:Pos)(k:Env):∀(o:List Expr),o.all B1=true->backTo s (starEach o k)=o.map λ e=>(false,eval e k):=by
 intro o;induction o with
 |nil=>
  intro _;exact rfl
 |cons e o w=>
  intro h;simp only[Ct,As] at h;have:backTo s (starEach (e::o) k)=(false,eval e k)::backTo s (starEach o k):=by
   cases e<;>first |rfl |exact absurd h.1 Ce
  rw[this,(w h.2)];rfl
theorem B2 {M:Model}{es:List Expr}(h:es.all B1=true)(k:wpAny M A (callWith a f first (es.map λ e=>(false,eval e z)) b) Q E s):wpAny M A (callWith a f first (backTo a (starEach es z)) b) Q E s:=by
 rw[A7 a z es h];exact k
theorem FI.am (F:FI W V z Z X h O):∀a∈X,∃o,h.get? a=some o:=λ a k=>(F.alive a k).2
theorem Km {M:Model}{a:Args->Shared->Prop}(h:List Expr)(k:wpAny M A (spliced (h.map λ e=>(false,eval e z))) (λ o w=>a ⟨o,[]⟩ w) E s):
 wpAny M A (evalArgs f true (h.map λ e=>(false,eval e z)) []) a E s:=by
 cases h with
 |nil=>
  refine Ab (C5 k (λ o w C=>?_) λ _ _ x=>x);refine Ab (Ag ?_);refine Bk ?_;exact Ab (Ag (Ab (Ag (Ag (by exact C)))))
 |cons e h=>exact AV k
theorem Lc (h:List Expr):((h.map λ e=>((false,eval e z):Bool×Sem Value)).any (·.1))=false:=by
 induction h with
 |nil=>rfl
 |cons _ _ k=>rw[A0,List.any_cons,k];rfl
theorem BK (w:Dt W C k mg mb)(F:FI W V z Z X s.heap O)(G:Gd W s)(h:BU V x=true)(o:mg x=some v\/(mg x=none/\mb x=some v))(H:Q v s):
 wpAny W.M A (eval (.Name x a) z) Q E s:=by
 unfold BU at h;rw[As,beq_iff_eq] at h;refine Calls.Name_function_global F.kind (F.o3 x h.2) ?_ (FD h.1).1;have N:=Co G.al w.g;rcases o with o |⟨b,c⟩
 ·exact Calls.loadGlobal_global (by rw[F.na];exact N) o H
 ·exact Calls.loadGlobal_builtin (by rw[F.na];exact N) b (by rw[F.blt];exact(Co G.al w.b)) c H
theorem RK (w:Dt W C k mg mb)(F:FI W V z Z X s.heap O)(G:Gd W s)(e:Oe C V O x=some d):CC W A (eval (.Name x b) z) s (λ v N=>Rp W X N v d):=by
 cases o:O.lookup x with
 |none=>
  refine C6 λ l c=>?_;obtain⟨f,e⟩:=F8 ((congrArg (Option.elim · _ N4) o).symm.trans e)
  obtain⟨v,g,i⟩:=w.aa x d e;refine c ?_;exact λ Q E h=>BK w F G f (.inl g) (h v s.heap s.toks (.refl _) (Ah _) ((i X λ a j=>(F.alive a j).1).ac G.al))
 |some H=>
  have e:N4 H=some d:=(congrArg (Option.elim · _ N4) o).symm.trans e
  cases H with
  |aa=>cases e;exact λ Q E h=>F.name o λ v r=>h v s.heap s.toks (.refl _) (Ah _) r
  |nn=>cases e;exact λ Q E h=>F.name o λ v r=>h v s.heap s.toks (.refl _) (Ah _) r.2
  |_=>contradiction
theorem Me (h:Ix r=true):behindInMarks a r=false:=by
 cases r<;>first |rfl |exact absurd h Ce
theorem IZ (k:Ix e=true)(h:Env):∀v,foldedSetIterable e h v=pure v:=by
 intro v;cases e<;>first |rfl |exact absurd k Ce
end
section
variable {A:Around}{z:Env}{C:A5}
theorem OA (k:RJ a=true)(name:Str)(h:Env):attributeBase a name h (eval a h)=eval a h:=by
 cases a<;>first |rfl |exact absurd k Ce
theorem X9 (b:BF):(∃id,b.val=.builtin id)\/(∃T,b.val=.type T):=by
 cases b<;>first |exact .inl ⟨_,rfl⟩ |exact .inr ⟨_,rfl⟩
theorem Kk (k:List Expr)(h:Pos)(o:k.all B1=true)(s:k.length<20):
 ((backTo h (starEach k z)).all (λ x=>!x.1)&&(backToKw h (keywordEach [] z)).all (λ x=>x.1.isSome)&&decide (k.length+([]:List Keyword).length+(if([]:List Keyword).isEmpty then 0 else 1)<30))=true:=by
 rw[A7 h z k o];have:((k.map λ e=>((false,eval e z):Bool×Sem Value)).all (λ x=>!x.1))=true:=by
  rw[List.all_map,AE];intro _ _;rfl
 rw[this];simp[backToKw,keywordEach];omega
theorem OS (r:Rp W X h v d)(w:(∃x,d=.str x/\T="str")\/(∃k,d=.list k/\T="list")):
 (∀(s:Shared),s.heap=h->s.TypeIs v T)/\(∀a,v=.ref a->∃ob,h.get? a=some ob/\ob.dict=none):=by
 rcases w with⟨x,rfl,rfl⟩ |⟨k,rfl,rfl⟩
 ·obtain⟨_,rfl,_⟩:=r.ah;exact⟨λ s _=>GO s _ _,λ a e=>nomatch e⟩
 ·obtain⟨a,z,n,rfl,o,A,z1,C⟩:=r.ah;exact⟨λ s e=>⟨_,by rw[e];exact o,rfl⟩,λ b e=>by cases e;exact⟨_,o,rfl⟩⟩
theorem YN {f:Str->Option PV}(e:Ry b f=some d):∃x,b=.str x:=by
 cases b with
 |str x=>exact⟨x,rfl⟩
 |_=>exact no e
theorem ZG {f:List PV->Option PV}(e:ZH b f=some d):∃x,b=.list x:=by
 cases b with
 |list x=>exact⟨x,rfl⟩
 |_=>exact no e
theorem Uo (e:Iy m b a=some d):(∃x,b=.str x/\m.ty="str")\/(∃h,b=.list h/\m.ty="list"):=by
 cases m with
 |nv=>exact .inr ((ZG e).imp λ _ q=>⟨q,rfl⟩)
 |_=>exact .inl ((YN e).imp λ _ q=>⟨q,rfl⟩)
end
section
variable {A:Around}{z:Env}{C:A5}
theorem Rh (r:Rp W X s.heap v d)(e:Mr d=some b):CC W A (truthy v) s (λ h _=>h=b):=
 .of λ _ _ k=>OI r e λ o=>k _ _ o (.refl _) rfl
end
variable {t:Expr}{y:Str}{a:CB} in
noncomputable def AN:AM->Str->CB->AM
 |[],x,a=>[(x,a)]
 |(y,t)::O,x,a=>if y=x then(x,a)::O else(y,t)::AN O x a
theorem Ba (x:Str)(o:CB):∀(h:AM)(y:Str),(AN h x o).lookup y=if y=x then some o else h.lookup y:=by
 intro h;induction h with
 |nil=>
  intro y;by_cases q:y=x
  ·subst q;rw[if_pos rfl,An]
  ·rw[if_neg q,Ar q]
 |cons k h s=>
  intro y;show List.lookup y (if k.1=x then(x,o)::h else(k.1,k.2)::AN h x o)=_;by_cases q:k.1=x
  ·subst q;rw[if_pos rfl];by_cases r:y=k.1
   ·subst r;rw[if_pos rfl,An]
   ·rw[if_neg r,Ar r,Ar r]
  ·rw[if_neg q];by_cases r:y=k.1
   ·subst r;rw[An,An,if_neg q]
   ·rw[Ar r,Ar r];exact s y
variable {a:List PV}{b:List (Str×PV)} in
noncomputable def Nt (h:Scope):List Expr->List PV->AM->Option AM
 |[],a,O=>match a with
  |[]=>some O
  |_::_=>none
 |e::b,a,O=>match a with
  |[]=>none
  |d::a=>(Yn e).bind λ x=>if AI h x then Nt h b a (AN O x (.aa d)) else none
variable {a:List (Str×PV)} in
noncomputable def EO (h:Scope)(t:Expr)(d:PV)(k:AM):Option AM:=match cC t with
 | .name x _=>if AI h x then some (AN k x (.aa d)) else none
 | .aw a _ _=>(dK d).bind λ o=>Nt h a o k
 | .no=>none
theorem N6 {a:AM}(h:∀y,O.lookup y=a.lookup y)(y:Str):(AN O x b).lookup y=List.lookup y ((x,b)::a):=by
 rw[Ba];by_cases q:y=x
 ·subst q;rw[if_pos rfl,An]
 ·rw[if_neg q,Ar q];exact h y
theorem Vc (e:EO V t d O=some a):(∃x p,t=.Name x p/\AI V x=true/\AN O x (.aa d)=a)\/∃h k p o,t=.Tuple h k p/\d=.aw o/\Nt V h o O=some a:=by
 unfold EO at e;have k:=Rm t;generalize cC t=v at e k;cases v with
 |name x p=>exact .inl ⟨x,p,k,Ta e⟩
 |aw h n p=>obtain⟨o,s,e⟩:=Aq.mp e;exact .inr ⟨h,n,p,o,k,PI s,e⟩
 |no=>contradiction
theorem Vd:∀(s:List Expr)(o:List PV)(H w h:AM),(∀y,H.lookup y=w.lookup y)->Nt V s o H=some h->∃k,DT V s o w=some k/\∀y,h.lookup y=k.lookup y:=by
 intro s;induction s with
 |nil=>
  intro o H w h N e;cases o with
  |nil=>cases e;exact⟨w,rfl,N⟩
  |cons _ _=>contradiction
 |cons O s Q=>
  intro o H w h N e;cases o with
  |nil=>contradiction
  |cons d o=>
   refine C6 λ f W=>?_;obtain⟨x,Z,e⟩:=Aq.mp (show((Yn O).bind λ x=>if AI V x then Nt V s o (AN H x (.aa d)) else none)=some h from e);obtain⟨a,e⟩:=F8 e;obtain⟨k,b,c⟩:=Q o _ ((x,.aa d)::w) h (N6 N) e;refine W ?_;refine⟨k,?_,c⟩;show((Yn O).bind λ x=>if AI V x then DT V s o ((x,.aa d)::w) else none)=some k;rw[Z];exact(if_pos a).trans b
theorem X8 (e:EO V t d O=some a):∃h,EN V t d O=some h/\∀y,a.lookup y=h.lookup y:=by
 rcases Vc e with⟨x,p,rfl,k,rfl⟩ |⟨o,_,_,s,rfl,rfl,e⟩
 ·exact⟨(x,.aa d)::O,if_pos k,N6 λ _=>rfl⟩
 ·exact Vd o s O O a (λ _=>rfl) e
inductive Fl where
 |next (O:AM)
 |brk (O:AM)
 |ret (d:PV)
structure XB (W:Bl)(sc:Scope)(env:Env)(hb:Heap):Prop where
 al:A9 W W.h0 hb
 oz:W.ox hb
 wr:∀a,C3 sc env a->hb.get? a=none
variable {c:Nat}{es:List (Str×PV)}{g:Array GenState} in
inductive lU (h:Heap)(b:Addr):Prop
 |mk (o:Obj) (es:_) (ep:_) (g:h.get? b=some o) (c:o.cls=.type "frame") (d:o.data=.dict es ep)
noncomputable def CZ (h:Env)(k:Heap):Prop:=lU k h.locals
theorem CZ.bd (f:CZ a h)(Q:A9 W h H):CZ a H:=by
 obtain⟨o,s,w,V,hc,N⟩:=f;rcases Q.1 _ o V with k |⟨_,_,Z,k⟩ |⟨_,b,O,k,_⟩
 ·exact⟨o,s,w,k,hc,N⟩
 ·exact⟨_,s,w,k,hc,N⟩
 ·subst k;contradiction
theorem CZ.bj (f:CZ a h)(K:D5 h H):CZ a H:=by
 obtain⟨o,Q,V,W,hc,Z⟩:=f;obtain⟨b,k,s,w,N,O⟩:=K _ o Q V W Z;exact⟨b,k,s,w,N.trans hc,O⟩
theorem CZ.at {a:Env}(f:CZ a h)(k:∀o,h.get? a.locals=some o->H.get? a.locals=some o):CZ a H:=by obtain⟨o,s,w,N,c,d⟩:=f;exact⟨o,s,w,k o N,c,d⟩
variable {tk:Nat} in
structure XS (W:Bl)(sc:Scope)(env:Env)(hb:Heap)(Z X:List Addr)(s:Shared)(ρ:AM):Prop where
 F:FI W sc env Z X s.heap ρ
 le:A9 W hb s.heap
 tk:1<=s.toks
 fr:∀a∈X,a∉Z->hb.get? a=none
 fc:CZ env s.heap
noncomputable def C9 (k:Scope)(h:Env)(s X:List Addr)(w H:Heap):Prop:=∀b o,((b∉X/\Dy o)\/(b∈s/\¬C3 k h b/\o.cls≠.type "frame"/\o.cls≠.none))->w.get? b=some o->H.get? b=some o
section
variable {z:Env}
theorem C9.refl:C9 V z Z X h h:=λ _ _ _ e=>e
theorem C9.trans (a:C9 V z Z X h H)(b:C9 V z Z X H d):C9 V z Z X h d:=λ c o hc e=>b c o hc (a c o hc e)
theorem A9.aj (k:A9 W h H):C9 V z Z X h H:=λ _ _ hc e=>hc.elim (λ q=>CG k e q.2) λ q=>k.keep e q.2.2.1 q.2.2.2
theorem I5.aj (S:I5 W (C3 V z) h H)(k:∀a,C3 V z a->a∈X):C9 V z Z X h H:=λ b o hc e=>S.keep b o (λ q=>hc.elim (λ c=>c.1 (k b q)) λ c=>c.2.1 q) e
theorem C9.pi (k:Heap.SameBut a h H)(s:a∈X)(w:a∉Z):C9 V z Z X h H:=λ b o hc e=>(k.2 b (λ q=>hc.elim (λ c=>c.1 (q▸s)) λ c=>w (q▸c.1))).trans e
end
noncomputable def GT (H:Bl)(N:Scope)(s:Env)(Q:Heap)(w X:List Addr)(k:Shared)(W:Fl)(V:Flow->Shared->Prop):Prop:=match W with
 | .next O=>∀h o,XS H N s Q w X {k with heap:=h,toks:=o} O->C9 N s w X k.heap h->k.toks<=o->V .next {k with heap:=h,toks:=o}
 | .brk O=>∀h o,XS H N s Q w X {k with heap:=h,toks:=o} O->C9 N s w X k.heap h->k.toks<=o->V .brk {k with heap:=h,toks:=o}
 | .ret d=>∀v h o,A9 H Q h->k.toks<=o->Rp H w h v d->V (.ret v) {k with heap:=h,toks:=o}
section
variable {A:Around}{z:Env}{C:A5}{E:B3}
theorem XS.gd (S:XS W V z N Z X s O)(B:XB W V z N):Gd W s:=⟨B.al.trans S.le,S.le.2 B.oz,S.tk⟩
theorem XS.ac {tk:Nat}(S:XS W V z N Z X s O)(h:A9 W s.heap H)(l:s.toks<=tk):XS W V z N Z X {s with heap:=H,toks:=tk} O:=⟨S.F.ac h,S.le.trans h,Aa S.tk l,S.fr,S.fc.bd h⟩
theorem XS.au (S:XS W V z N Z X s O)(k:∀x h,a.lookup x=some h->O.lookup x=some h):XS W V z N Z X s a:=⟨S.F.au k,S.le,S.tk,S.fr,S.fc⟩
theorem EC (w:A.handled=none)(B:XB W V z N)(S:XS W V z N Z X s O)(e:EO V t d O=some b)(r:Rp W X s.heap v d){c:Unit->Shared->Prop}
 (C:∀k h,XS W V z N Z X {s with heap:=k,toks:=h} b->I5 W (C3 V z) s.heap k->s.toks<=h->c () {s with heap:=k,toks:=h}):wpAny W.M A (assign t z v) c E s:=by
 refine C6 λ j H=>?_;obtain⟨m,Q,f⟩:=X8 e;refine H ?_;refine BG (n:=s.toks) (Ah _) (Kx S.F w Q r λ k h g St l=>?_);have o:s.toks<=h:=l;exact C k h ⟨g.au λ x n q=>by rw[<-f];exact q,St.s6 N (λ a i=>B.wr a i) S.le,Aa S.tk o,S.fr,S.fc.bj St.cls⟩ St o
noncomputable def Xc (e:Expr):Bool:=e.ctorIdx==23||e.ctorIdx==25
theorem Ny (h:Xc t=true):(assignEach [t] z).map (·.2)=[assign t z]:=by
 cases t<;>first |exact absurd h Ce |rfl
theorem BA {c:Flow->Shared->Prop}(N:Xc t=true)(C:swapsWithSole [t] a b.line z=pure false)(H:swappedStores [t] a z=pure none)
 (O:wpAny W.M A (eval a z) (λ v h=>wpAny W.M A (assign t z v) (λ _ k=>c .next k) E h) E s):wpAny W.M A (exec (.Assign [t] a b) z) c E s:=by
 rw[arm_exec_Assign];refine Ab (AL (Ab (Dc C ?_)));simp only[A3,if_false];refine Ab (C5 O (λ v h o=>Ab (Dc H ?_)) λ _ _ x=>x);rw[Ny N];exact Ab (C5 o (λ _ _ w=>Ag w) λ _ _ x=>x)
theorem Mp {m:Str->Option Value}(B:XB W V z N)(S:XS W V z N Z X s O)(hh:A.handled=none){d:PV}(e:EO V t d O=some f){g:Flow->Shared->Prop}(hQ:GT W V z N Z X s (.next f) g)
 {D c:Addr} (L:s.heap.get? c=none) (w:A9 W s.heap H) (l:s.toks<=i) (hn:H.Ns c m) (r:Rp W (c::X) H (.ref D) d):
 compPost W.M A E (some λ v=>assignAll v [assign t z]) (λ _ n=>g .next n) (.ref D) c (.ok .next) {s with heap:=H,toks:=i}:=by
 have p:∃o,H.get? c=some o:=by obtain⟨o,_,_,C,_⟩:=hn;exact⟨o,C⟩
 have Q:c∉X:=λ q=>by obtain⟨o,C⟩:=S.F.am c q;exact BZ L C
 have u:c∉Ay z:=λ q=>Q (S.F.zx _ (S.F.ba _ q));have T:N.get? c=none:=by
  exact A9.bf S.le L
 have y:XS W V z N (c::Z) (c::X) {s with heap:=H,toks:=i} O:=
  ⟨S.F.fresh (B.al.trans S.le) w L p,S.le.trans w,Aa S.tk l,λ a U hz=>S.fr a ((Ae.mp U).resolve_left λ q=>hz (q▸Ac)) λ q=>hz (Ad _ q),S.fc.bd w⟩
 refine EC hh B y e r λ G j h St I=>?_;have k:G.Ns c m:=by obtain⟨o,es,ep,C,x⟩:=hn;exact⟨o,es,ep,St.keep c o (λ q=>Q (S.F.bq q)) C,x⟩
 refine⟨m,k,λ J M=>?_⟩;refine hQ J j ⟨h.F.bk (λ b o N e=>(M.2 b N).trans e) u Q S.F.zx,h.le.bb T (λ o vs C R=>?_) M,h.tk,S.fr,h.fc.at λ o C=>(M.2 _ (λ q=>u (q▸Ac))).trans C⟩ (λ b o R e=>?_) (Aa l I)
 ·obtain⟨o',es,ep,Y,a0,_⟩:=k;obtain rfl:=AF C Y;cases Eq.trans (Eq.symm R) a0
 ·have a1:b≠c:=λ q=>by simp only[q,L] at e;contradiction
  refine Eq.trans (M.2 b a1) ?_;exact(St.aj (X:=X) (Z:=Z) λ a U=>S.F.bq U) b o R (w.aj b o R e)
end
noncomputable def DP (k:Scope)(h:Env)(o:Heap)(x:Str)(v:Value):Prop:=
 (k.names.lookup x=some .local/\∃m,o.Ns h.locals m/\m x=some v)\/((k.names.lookup x=some .cell\/k.names.lookup x=some .free)/\∃c,h.cells.lookup x=some c/\o.IsCell c (some v))
section
variable {A:Around}{z:Env}{C:A5}{E:B3}
theorem DP.pf (a:DP V z h x v)(b:DP V z h x d):v=d:=by
 rcases a with⟨a,m,N,e⟩ |⟨a,c,hc,i⟩<;>rcases b with⟨b,j,w,O⟩ |⟨b,l,A,Q⟩
 ·obtain⟨o,n,p,C,E,_,W⟩:=N;obtain⟨Z,f,g,s,k,_,H⟩:=w;obtain rfl:=AF C s;cases Eq.trans (Eq.symm E) k;have:some v=some d:=by rw[<-e,<-O,<-W,<-H]
  injection this
 ·rcases b with b |b<;>cases Eq.trans (Eq.symm a) b
 ·rcases a with a |a<;>cases Eq.trans (Eq.symm b) a
 ·obtain rfl:=AF hc A;obtain⟨o,C,E⟩:=i;obtain⟨Z,s,k⟩:=Q;obtain rfl:=AF C s;rw[E] at k;injection k with k;injection k
theorem DP.ac (a:DP V z h x v)(k:A9 W h H):DP V z H x v:=by
 rcases a with⟨a,m,o,e⟩ |⟨a,c,hc,i⟩
 ·exact .inl ⟨a,m,Co k o,e⟩
 ·exact .inr ⟨a,c,hc,EM k i⟩
theorem FI.at (F:FI W V z Z X h O)(o:O.lookup x=some sl):∃v,DP V z h x v/\Bj W Z X h v sl:=by
 obtain⟨w,A⟩:=F.o6 x sl o;rcases w with k |k
 ·obtain⟨m,C,s⟩:=F.ns;obtain⟨v,e,r⟩:=s x sl k o;exact⟨v,.inl ⟨k,m,C,e⟩,r⟩
 ·obtain⟨c,E,e,i,s⟩:=F.cell x k;obtain⟨v,rfl,r⟩:=s sl o;exact⟨v,.inr ⟨k,c,e,i⟩,r⟩
theorem FI.ms (F:FI W V z Z X s.heap O)(w:O.lookup x=some sl)(C:DP V z s.heap x v)(o:Q v s):wpAny W.M A (eval (.Name x a) z) Q E s:=by
 refine KC ?_ (FD (F.o6 x sl w).2).1;rcases C with⟨h,m,H,e⟩ |⟨h,c,e,i⟩
 ·exact DQ F.kind (F.pb x h) H e o
 ·rcases h with h |h
  ·exact Hv F.kind (F.oj x h) e i o
  ·rcases F.ow x h with k |k
   ·exact wpAny_loadName_free F.kind k e i o (FD (F.o6 x sl w).2).2
   ·exact Hv F.kind k e i o
theorem FI.n8 (F:FI W V z Z X h O)(l:O.lookup x=some (.own d))(J:DP V z h x (.ref a))(g:Heap.SameBut a h H)(n:a∈X)(p:a∉Z)(D:Bo W X H a f):
 FI W V z Z X H (AN O x (.own f)):=by
 have E:∀y v A,DP V z h y v->O.lookup y=some A->Bj W Z X h v A->∀k,(AN O x (.own f)).lookup y=some k->Bj W Z X H v k:=by
  intro y v A t N r k s;rw[Ba] at s;by_cases q:y=x
  ·subst y;rw[if_pos rfl] at s;injection s with s;subst s;exact⟨a,DP.pf t J,n,p,D⟩
  ·rw[if_neg q,N] at s;injection s with s;subst s;cases A with
   |aa e=>exact Rp.bb g n r
   |ao u=>exact r
   |nn u e=>exact⟨r.1,Rp.bb g n r.2⟩
   |own e=>exact absurd (F.nr y x e d N l) q
 have C:∀y k,(AN O x (.own f)).lookup y=some k->∃A,O.lookup y=some A:=by
  intro y k s;rw[Ba] at s;by_cases q:y=x
  ·subst y;exact⟨_,l⟩
  ·rw[if_neg q] at s;exact⟨_,s⟩
 have B:∃o,H.get? a=some o:=D.alive;exact{F with
  ns:=by
   obtain⟨m,G,Q⟩:=F.ns;refine⟨m,G.sameBut g (λ q=>p (q▸F.ba _ Ac)),λ y k N s=>?_⟩;obtain⟨A,w⟩:=C y k s;obtain⟨v,e,r⟩:=Q y A N w;exact⟨v,e,E y v A (.inl ⟨N,m,G,e⟩) w r k s⟩
  cell:=λ y N=>by
   obtain⟨c,L,e,i,Q⟩:=F.cell y N;refine⟨c,L,e,i.sameBut g (λ q=>p (q▸F.ba _ (BP e))),λ k s=>?_⟩;obtain⟨A,w⟩:=C y k s;obtain⟨v,rfl,r⟩:=Q A w;exact⟨v,rfl,E y v A (.inr ⟨N,c,e,i⟩) w r k s⟩
  o6:=λ y k s=>by
   obtain⟨A,w⟩:=C y k s;exact F.o6 y A w
  alive:=λ b I=>⟨(F.alive b I).1,Ep g B (F.alive b I).2⟩
  nr:=λ y M R S T U=>by
   have j:∀y e,(AN O x (.own f)).lookup y=some (.own e)->y=x:=λ y e s=>by
    by_cases q:y=x
    ·exact q
    ·rw[Ba,if_neg q] at s;exact F.nr y x e d s l
   rw[j y R T,j M S U]}
theorem FI.rj (F:FI W V z b X h O)(k:∀a∈Z,a∈b)(s:∀a∈Ay z,a∈Z):FI W V z Z X h O:=
 F.same s (λ a w=>F.zx a (k a w)) (λ _ h=>h) (λ _ _ _ _ h=>h) (λ _ _ _ _ r=>r.to (λ _ _ r=>r) λ a _ m A o=>⟨m,λ q=>A (k a q),o⟩) F.alive
theorem XS.n8 (S:XS W V z N Z X s O)(C:O.lookup x=some (.own d))(E:DP V z s.heap x (.ref a))(h:Heap.SameBut a s.heap H)(A:a∈X)(k:a∉Z)
 (w:∀o Q,s.heap.get? a=some o->o.data=.fields Q->o.cls≠.none/\o.cls≠.type "code") (e:Bo W X H a b) (l:s.toks<=c):
 XS W V z N Z X {s with heap:=H,toks:=c} (AN O x (.own b)):=
 ⟨S.F.n8 C E h A k e,S.le.bb (S.fr a A k) w h,Aa S.tk l,S.fr,S.fc.at λ o f=>(h.2 _ (λ q=>k (q▸S.F.ba _ Ac))).trans f⟩
theorem Od (B:XB W V z N)(S:XS W V z N Z X s O)(u:AI V x=true)(Q:∀y e,O.lookup y=some (.own e)->y=x)
 (m:s.heap.get? a=none) (n:A9 W s.heap H) (l:s.toks<=c) (v:Bo W (a::X) H a d) {f:Unit->Shared->Prop}
 (D:∀k h,XS W V z N Z (a::X) {s with heap:=k,toks:=h} (AN O x (.own d))->s.toks<=h->f () {s with heap:=k,toks:=h}):
 wpAny W.M A (assign (.Name x g) z (.ref a)) f E {s with heap:=H,toks:=c}:=by
 have p:N.get? a=none:=by
  exact A9.bf S.le m
 have r:a∉X:=λ q=>by obtain⟨o,G⟩:=S.F.am a q;exact BZ m G
 have i:FI W V z Z (a::X) H O:=(S.F.fresh (B.al.trans S.le) n m v.alive).rj (λ b N=>Ad _ N) S.F.ba;have t:a∉Z:=λ q=>r (S.F.zx a q);refine Gi (FI.n9 (s:={s with heap:=H,toks:=c}) i (sl:=.own d) (DK u).2 (DK u).1 ⟨a,rfl,Ac,t,v⟩ (λ e M y I J=>Q y I J) λ k h j St C=>?_);refine D k h ⟨j.au λ y R q=>?_,St.s6 N (λ b w=>B.wr b w) (S.le.trans n),Aa S.tk (Aa l C),λ b w L=>?_,(S.fc.bd n).bj St.cls⟩ (Aa l C)
 ·rw[Ba] at q;by_cases e:y=x
  ·subst y;rw[if_pos rfl] at q;rw[An];exact q
  ·rw[if_neg e] at q;rw[Ar e];exact q
 ·rcases Ae.mp w with rfl |w
  ·exact p
  ·exact S.fr b w L
end
variable {i:Nat} in
noncomputable def jJ:PV->Option Str
 | .str i=>some i
 |_=>none
theorem VO (h:jJ d=some i):d=.str i:=by
 cases d with
 |str j=>cases h;rfl
 |_=>cases h
variable {a:List PV}{b:List (Str×PV)} in
noncomputable def jK (d h v:PV):Option PV:=match d with
 | .list a=>(ZQ h).bind λ h=>if 0<=h/\h<a.length then some (.list (a.set h.toNat v)) else none
 | .dict b=>(jJ h).bind λ h=>if b.length<Bf then some (.dict (D8 b h v)) else none
 |_=>none
noncomputable def SR (h:AM)(x:Str):Bool:=h.all λ q=>match q.2 with | .own _=>q.1==x |_=>true
section
variable {A:Around}{z:Env}{C:A5}{E:B3}
theorem Bv (h:Heap):h.get? h.objs.size=none:=by
 cases e:h.get? h.objs.size with
 |none=>rfl
 |some o=>exact absurd (Az e) (Fb _)
theorem Nv (O:∃w,a=.list w)(V:Rp W X s.heap g a)(rb:Rp W X s.heap f b)(e:FE c a b=some d):
 CC W A (binaryOp c g f) s (λ v Z=>v=.ref s.heap.objs.size/\Bo W (s.heap.objs.size::X) Z s.heap.objs.size d):=.of λ Q E i=>by
 have j:=Bv s.heap;obtain⟨w,rfl⟩:=O;have k:∀{o:Array Value}{z:List PV},PV.list z=d->o.size<=Bf->RpL W X s.heap o.toList z->Q (.ref s.heap.objs.size) {s with heap:=s.heap.push (Fd o 0)}:=λ q h r=>
  i _ _ _ (.push _ _) ⟨rfl,q▸⟨_,_,Ak _ rfl,h,(r.bc j).ac (A9.push _ _)⟩⟩
 obtain⟨_,_,_,rfl,C,B,z1,H⟩:=V.ah;cases c with
 |Add=>
  cases b with
  |list D=>
   obtain⟨_,_,_,rfl,l,G,z2,m⟩:=rb.ah;have q:=S3 H m e;exact Q1 C l q.1 (k q.2.1 q.2.2.1 q.2.2.2)
  |_=>exact no e
 |Mult=>
  refine E7 (P:=λ f=>wpAny W.M A (binaryOp .Mult _ f) Q E s) rb e λ n u e=>?_;obtain⟨v,x,rfl,N,p,t,y⟩:=S2 H e;exact Qb C N.1 N.2 (k p t y)
 |_=>exact no e
end
section
variable {A:Around}{z:Env}{C:A5}{E:B3}
theorem G3 (r:Bo W X h a d):∀o w,h.get? a=some o->o.data=.fields w->o.cls≠.none/\o.cls≠.type "code":=by
 intro o w z A;cases d with
 |list H=>obtain⟨N,n,e,_⟩:=r;obtain rfl:=AF z e;contradiction
 |dict O=>obtain⟨C,e,_⟩:=r;obtain⟨Q,E,V,k,Z,s,_⟩:=e;obtain rfl:=AF z k;cases Eq.trans (Eq.symm s) A
 |_=>exact r.elim
theorem RpL.set {e:List PV}{c:List Value}(k:Rp W X h v d)(j:Nat)(r:RpL W X h c e):RpL W X h (c.set j v) (e.set j d):=
 r.br (P:=λ c e=>∀j,RpL W X h (c.set j v) (e.set j d)) (λ _=>.nil) (λ _ _ _ _ a b i j=>j.casesOn (.cons k b) λ j=>.cons a (i j)) j
end
section
variable {A:Around}{z:Env}{C:A5}{E:B3}
theorem UZ (k:s.heap.get? D=some (Fd c n))(C:s.heap.get? b=some (Fd a m))(o:c.size+a.size<=Bf)
 (H:∀w N,w.get? D=some (Fd (c++a) N)->Heap.SameBut D s.heap w->Q .none {s with heap:=w}):wpAny W.M A (call (.builtin "list.extend") [.ref D,.ref b]) Q E s:=by
 have h:=DX;have O:Bf=1048576:=rfl;refine Ij F.slot_list_extend ⟨_,k,rfl⟩ F.entry_list_extend (F.args_list_extend_2 _ _) (AutoSeq1.list_extend_list_list_0 D c n b a m ?_ (Aa (Dr o) h) (Bp (Aa o h))) ⟨k,C,?_⟩
 ·exact λ z=>absurd (of_decide_eq_true (Ai.mp z).2) (BC.mpr (Aa o h))
 ·exact H _ _ (PySem.IsL.update k (λ x=>x++a)) (Be ..)
end
noncomputable def Ci (h:List Str)(k:AM):AM:=k.filter λ q=>h.contains q.1
theorem Pc (w:List Str)(x:Str)(s:CB):∀o:AM,(Ci w o).lookup x=some s->o.lookup x=some s:=by
 intro o;induction o with
 |nil=>
  intro h;cases h
 |cons H o k=>
  intro h;obtain⟨y,t⟩:=H;unfold Ci at h;rw[EG] at h;by_cases q:x=y
  ·subst q;split at h
   ·rw[An] at h ⊢;exact h
   ·rename_i hk;have:=k h;exfalso;have N:(x,s)∈o.filter λ q=>w.contains q.1:=mem_of_lookup h;exact hk (AS.mp N).2
  ·rw[Ar q];split at h
   ·rw[Ar q] at h;exact k h
   ·exact k h
section
variable {A:Around}{z:Env}{C:A5}{E:B3}
theorem GT.aq {c:Flow->Shared->Prop}(o:GT W V z N Z X s e c)(C:C9 V z Z X s.heap b)(l:s.toks<=a):GT W V z N Z X {s with heap:=b,toks:=a} e c:=by
 cases e with
 |next E=>exact λ h tk S w k=>o h tk S (C.trans w) (Aa l k)
 |brk E=>exact λ h tk S w k=>o h tk S (C.trans w) (Aa l k)
 |ret d=>exact λ v h tk A k r=>o v h tk A (Aa l k) r
end
section
variable {A:Around}{z:Env}{C:A5}{E:B3}
theorem RH (h:SR O x=true):∀y e,O.lookup y=some (.own e)->y=x:=λ y e k=>by
 have:=AE.mp h (y,.own e) (mem_of_lookup k);exact BB this
inductive lV (W:Bl)(a:Addr)(fd:FuncData):Prop
 |mk (o:Obj) (e:W.h0.get? a=some o) (d:o.data=.func fd) (c1:o.cls≠.type "frame") (c2:o.cls≠.none)
variable {f:Addr}{vs:List Value}{c:Nat}{q:Pos}{t:Expr} in
inductive iH (W:Bl)(fd:FuncData):Prop
 |mk (c:Addr) (o:Obj) (vs:Array Value) (t:Tok) (f:fd.code=.ref c) (e:W.h0.get? c=some o) (d:o.data=.fields vs) (q:vs[1]? =some (.str fd.qualname t)) (c1:o.cls≠.type "frame") (c2:o.cls≠.none)
structure EH (W:Bl)(a:Addr)(fd:FuncData)(ps:List Str)(body:List Stmt):Prop where
 obj:lV W a fd
 code:iH W fd
 body:fd.body=.stmts body
 bind:∀(vals:List Value)(s:Shared),A9 W W.h0 s.heap->vals.length=ps.length->BindsTo s fd ⟨vals,[]⟩ (ps.zip vals)
 uv:fd.closure=[]
 co:fd.scope.isCoroutine=false
 be:fd.scope.isGenerator=false
 kind:fd.scope.kind=.function
 na:fd.globals=mainGlobals
 blt:fd.builtins=builtinsNs
 r9:∀x∈ps,CM x=true/\(fd.scope.names.lookup x=some .local\/fd.scope.names.lookup x=some .cell)
 nd:ps.Nodup
 names:(fd.scope.names.map (·.1)).Nodup
 free:∀x,fd.scope.names.lookup x≠some .free
 u6:W.h0.NoLimit
theorem Gs {c:List Str}{a:Type}{d:a}{b:List a}(h:(c.zip b).lookup x=some d):x∈c:=(JA (mem_of_lookup_some h)).1
theorem QX (s:Str->Option NameKind):∀(k:List (Str×Value))(m:Str->Option Value),x∉k.map (·.1)->bindL s k m x=m x:=by
 intro k;induction k with
 |nil=>
  intro m _;exact rfl
 |cons w r o=>
  intro m h;obtain⟨n,v⟩:=w;simp only[bindL,o _ (λ q=>h (by simp at q ⊢;exact .inr q))];split
  ·have:x≠n:=λ q=>h (by simp[q]);exact if_neg ‹_›
  ·rfl
theorem QY (s:Str->Option NameKind):∀(k:List (Str×Value))(m:Str->Option Value),x∉k.map (·.1)->bindC s k m x=m x:=by
 intro k;induction k with
 |nil=>
  intro m _;exact rfl
 |cons w r o=>
  intro m h;obtain⟨n,v⟩:=w;simp only[bindC,o _ (λ q=>h (by simp at q ⊢;exact .inr q))];split
  ·rfl
  ·have:x≠n:=λ q=>h (by simp[q]);exact if_neg ‹_›
theorem OE {a c:Type}{x:a}{b:List a}{vs:List c}(h:x∈(b.zip vs).map (·.1)):x∈b:=by
 obtain⟨_,k,rfl⟩:=Al.mp h;exact(JA k).1
class inductive JW (W:Bl) (X:List Addr) (h:Heap):List Value->List CB->Prop
 |nil:JW W X h [] []
 |aa {v0:Value} {vs0:List Value} {d:PV} {ds0:List CB}:Rp W X h v0 d->JW W X h vs0 ds0->JW W X h (v0::vs0) (.aa d::ds0)
 |ao {v0 vs0 ds0}:JW W X h vs0 ds0->JW W X h (v0::vs0) (.ao v0::ds0)
theorem JW.rd (r:RpL W X h b c):JW W X h b (c.map CB.aa):=r.br (P:=λ b c=>JW W X h b (c.map CB.aa)) .nil λ _ _ _ _ a _ i=>.aa a i
theorem JW.length {a:List Value}{b:List CB}(r:JW W X c a b):a.length=b.length:=by
 induction r with
 |nil=>rfl
 |aa _ _ i=>exact congrArg (·+1) i
 |ao _ i=>exact congrArg (·+1) i
theorem JW.be {a c:Heap}(hk:∀b o,a.get? b=some o->b∉X->(o.cls=.type "list"\/o.cls=.type "tuple"\/o.cls=.type "dict")->c.get? b=some o/\b∉Y)(r:JW W X a d e):JW W Y c d e:=by
 induction r with
 |nil=>exact .nil
 |aa r _ i=>exact .aa (r.be hk) i
 |ao _ i=>exact .ao i
theorem JW.pv {c:List Str}(r:JW W X h b a)(q:(c.zip a).lookup x=some (.own d)):False:=by
 replace q:=(JA (mem_of_lookup_some q)).2
 induction r with
 |nil=>exact AU q
 |aa _ _ k=>exact(Ae.mp q).elim CB.noConfusion k
 |ao _ k=>exact(Ae.mp q).elim CB.noConfusion k
theorem Pv (s:Str->Option NameKind):∀{o:List Str}{k:List Value}{w:List CB}(m:Str->Option Value),JW W X h k w->o.Nodup->(o.zip w).lookup x=some a->
 (s x=some .local->∃v,bindL s (o.zip k) m x=some v/\Bj W Z X h v a)/\(s x≠some .local->∃v,bindC s (o.zip k) m x=some v/\Bj W Z X h v a):=by
 intro o;induction o with
 |nil=>intro _ _ m _ _ e;contradiction
 |cons p o O=>
  intro k w m r N e;rw[Db] at N
  suffices A:∀{v:Value}{C:List Value}{d0:CB}{w:List CB},Bj W Z X h v d0->JW W X h C w->((p,d0)::o.zip w).lookup x=some a->
   (s x=some .local->∃H,bindL s ((p,v)::o.zip C) m x=some H/\Bj W Z X h H a)/\(s x≠some .local->∃H,bindC s ((p,v)::o.zip C) m x=some H/\Bj W Z X h H a) by
   cases r with
   |nil=>contradiction
   |@aa v C d w r E=>exact A (d0:=.aa d) r E e
   |@ao v C w E=>exact A (v:=v) (d0:=.ao v) rfl E e
  intro v C d0 w Q E e;by_cases q:x=p
  ·subst q;obtain rfl:=AF An e;have V:x∉(o.zip C).map (·.1):=λ z=>N.1 (OE z)
   constructor
   ·intro hk;refine⟨v,?_,Q⟩;rw[bindL,QX s _ _ V,if_pos hk];simp
   ·intro hk;refine⟨v,?_,Q⟩;rw[bindC,QY s _ _ V,if_neg hk];simp
  ·rw[Ar q] at e;exact⟨(O _ E N.2 e).1,(O _ E N.2 e).2⟩
theorem II (k:h.objs.size<=a):h.get? a=none:=by
 cases e:h.get? a with
 |none=>rfl
 |some o=>exact absurd (Az e) (BC.mpr k)
theorem P4:∀{l:List (Str×Addr)},(l.Pairwise λ a b=>a.2≠b.2)->(y,c)∈l->(d,c)∈l->y=d:=by
 intro l;induction l with
 |nil=>
  intro _ h _;cases h
 |cons p l w=>
  intro s z A;rw[Hn] at s;rcases Ae.mp z with k |k<;>rcases Ae.mp A with o |o
  ·have:=k.trans o.symm;injection this
  ·exact absurd (by rw[<-k]) (s.1 _ o)
  ·exact absurd (by rw[<-o]) (s.1 _ k)
  ·exact w s.2 k o
theorem Jw:∀(k:List (Str×NameKind))(n:Nat)(o:List (Str×Addr)),(k.map (·.1)).Nodup->(∀p∈o,p.1∉k.map (·.1))->(∀p∈o,o.lookup p.1=some p.2)->∀p∈cellsFrom n k o,(cellsFrom n k o).lookup p.1=some p.2:=by
 intro k;induction k with
 |nil=>
  intro n o _ _ h p s;exact h p s
 |cons C r w=>
  intro n o A E h p s;rw[A0,Db] at A;have z:∀p∈o,p.1∉r.map (·.1):=λ p s q=>E p s (by simp only[A0];exact Ad _ q)
  unfold cellsFrom at s ⊢;split at s
  ·rename_i q;rw[if_pos q];refine w (n+1) ((C.1,n)::o) A.2 (λ p s=>?_) (λ p s=>?_) p s
   ·rcases Ae.mp s with rfl |s
    ·exact A.1
    ·exact z p s
   ·rcases Ae.mp s with rfl |s
    ·exact An
    ·have:p.1≠C.1:=λ q=>E p s (by simp[q]);refine Eq.trans (Ar this) ?_;exact h p s
  ·rename_i q;rw[if_neg q];exact w n o A.2 z h p s
theorem QF (w:EH W a fd i j)(G:Gd W s)(m:∀b∈X,W.h0.get? b=none/\∃o,s.heap.get? b=some o)
 (r:JW W X s.heap g args)
 (x:InCallC s (callEnvC fd s.heap.objs.size a).locals (bindL (callEnvC fd s.heap.objs.size a).kindOf (i.zip g) λ _=>none) (callEnvC fd s.heap.objs.size a).cells (bindC (callEnvC fd s.heap.objs.size a).kindOf (i.zip g) λ _=>none) f):
 FI W fd.scope (callEnvC fd s.heap.objs.size a) (Ay (callEnvC fd s.heap.objs.size a)++X) (Ay (callEnvC fd s.heap.objs.size a)++X) f.heap (i.zip args):=by
 have O:∀y,(callEnvC fd s.heap.objs.size a).kindOf y=fd.scope.names.lookup y:=λ y=>rfl;have t:∀y,(callEnvC fd s.heap.objs.size a).cells.lookup y=(cellsFrom (s.heap.objs.size+1) fd.scope.names []).lookup y:=λ y=>rfl;have fresh:∀b∈Ay (callEnvC fd s.heap.objs.size a),s.heap.get? b=none:=λ b k=>by
  rcases Ae.mp k with q |q
  ·rw[q];exact Bv s.heap
  ·obtain⟨⟨n,c⟩,Q,rfl⟩:=Al.mp q;exact II (Cx (x.above n c Q))
 have alive:∀b∈Ay (callEnvC fd s.heap.objs.size a),∃o,f.heap.get? b=some o:=λ b k=>by
  rcases Ae.mp k with q |q
  ·obtain⟨o,_,_,V,_⟩:=x.toInCall.ns;exact⟨o,q▸V⟩
  ·obtain⟨⟨n,c⟩,Q,rfl⟩:=Al.mp q;have Z:(callEnvC fd s.heap.objs.size a).cells.lookup n=some c:=Jw fd.scope.names (s.heap.objs.size+1) [] w.names (λ _ h=>by contradiction) (λ _ h=>by contradiction) (n,c) Q;obtain⟨o,V,_⟩:=x.cell n c Z;exact⟨o,V⟩
 have l:JW W (Ay (callEnvC fd s.heap.objs.size a)++X) f.heap g args:=r.be λ b o e n _=>⟨x.toInCall.keep b o e,λ q=>by
  rcases Ao.mp q with q |q
  ·replace e:=Eq.trans (Eq.symm (fresh b q)) e;contradiction
  ·exact n q⟩
 have C:∀b∈Ay (callEnvC fd s.heap.objs.size a),W.h0.get? b=none:=λ b k=>Dx G.al (fresh b k);exact{
  ba:=λ b k=>Ao.mpr (.inl k)
  zx:=λ b k=>k
  kind:=w.kind
  na:=w.na
  blt:=w.blt
  pb:=λ y h=>h
  oj:=λ y h=>h
  ow:=λ y h=>.inl h
  o3:=λ y h=>h
  ns:=⟨_,x.toInCall.ns,λ y p Z A=>(Pv _ _ l w.nd A).1 Z⟩
  cell:=λ y A=>by
   have hc:fd.scope.names.lookup y=some .cell:=A.resolve_right (w.free y);obtain⟨c,E,_⟩:=(Cs y fd.scope.names (s.heap.objs.size+1) [] w.names).2 hc;refine⟨c,_,E,x.cell y c E,λ p A=>?_⟩;exact(Pv _ _ l w.nd A).2 (by rw[O,hc];decide)
  inj:=λ y z c H N=>P4 x.apart (mem_of_lookup H) (mem_of_lookup N)
  o6:=λ y p A=>by
   obtain⟨H,N⟩:=w.r9 y (Gs A);exact⟨N.elim .inl λ q=>.inr (.inl q),H⟩
  alive:=λ b k=>by
   rcases Ao.mp k with q |q
   ·exact⟨C b q,alive b q⟩
   ·exact⟨(m b q).1,Bc (W:=W) (.ae x.toInCall.keep) (m b q).2⟩
  nr:=λ y z d e H N=>absurd H (JW.pv l)}
theorem Cc.down (h:Cc (n+1) A)(k:Env):Cc n (A.deeper k):=⟨h.handled,P8 (b:=1) h.depth (by decide),P8 (b:=3) h.units (by decide)⟩
theorem dQ {m:Str->Option Value}{M:Model}{d:Str->Option Value}{f:Unit->Shared->Prop}(x:InCallC a z.locals m z.cells d s)(i:CZ z s.heap)(hk:z.scope.kind=.function)
 (l:z.kindOf n=some .local\/(z.kindOf n=some .cell/\(z.cells.lookup n).isSome=true))
 (N:∀O,InCallC a z.locals (if z.kindOf n=some .local then λ y=>if y=n then some v else m y else m) z.cells (if z.kindOf n=some .local then d else λ y=>if y=n then some v else d y) O->CZ z O.heap->f () O):wpAny M A (storeName z n v) f E s:=by
 obtain⟨j,t,rfl⟩:=id x.toInCall.same;rcases l with H |⟨H,hc⟩
 ·simp only[H,if_true] at N;refine B9 H x.toInCall.ns (λ Q V h W=>N _ ⟨⟨⟨Q,_,rfl⟩,V,λ b o e=>?_,x.toInCall.fresh⟩,λ k c hc=>?_,x.apart,x.above⟩ (i.bj W)) (by rw[hk];rfl)
  ·exact h.extBut b o (BN (AJ (Az e) x.toInCall.fresh)) (x.toInCall.keep b o e)
  ·exact(x.cell k c hc).sameBut h (Cm (x.above k c (mem_of_lookup hc)))
 ·have Z:¬z.kindOf n=some .local:=by rw[H];decide
  simp only[Z,if_false] at N;obtain⟨c,hc⟩:=Cq.mp hc;have w:=x.above n c (mem_of_lookup hc);refine wpAny_storeName_cell hk H hc (x.cell n c hc) λ Q g h=>N _ ⟨⟨⟨Q,_,rfl⟩,x.toInCall.ns.sameBut h (BN w),λ b o e=>?_,x.toInCall.fresh⟩,λ k p C=>?_,x.apart,x.above⟩ (i.at λ o r=>(h.2 _ (BN w)).trans r)
  ·exact h.extBut b o (BN (Cn (AJ (Az e) x.toInCall.fresh) w)) (x.toInCall.keep b o e)
  ·by_cases q:k=n
   ·cases q
    obtain rfl:=AF hc C;simpa using g
   ·simp only[q,if_false];exact(x.cell k p C).sameBut h λ e=>q (P4 x.apart (mem_of_lookup C) (e▸mem_of_lookup hc))
theorem YX {M:Model}(f:Str×Value->PUnit->Sem (ForInStep PUnit))(W:∀n v u,f (n,v) u=(do storeName z n v;pure (.yield ⟨⟩)))(hk:z.scope.kind=.function):
 ∀(k:List (Str×Value))(m w:Str->Option Value)(s:Shared)(Q:PUnit->Shared->Prop),InCallC s₀ z.locals m z.cells w s->CZ z s.heap->
  (∀x∈k,z.kindOf x.1=some .local\/(z.kindOf x.1=some .cell/\(z.cells.lookup x.1).isSome=true))->
  (∀o,InCallC s₀ z.locals (bindL z.kindOf k m) z.cells (bindC z.kindOf k w) o->CZ z o.heap->Q ⟨⟩ o)->wpAny M A (forIn k ⟨⟩ f) Q E s:=by
 intro k;induction k with
 |nil=>
  intro m w s Q x C _ h;exact Ag (h s x C)
 |cons O r H=>
  intro m w s Q x C V h;rw[DD,W];refine Ab (Ab (dQ x C hk (V (O.1,O.2) Ac) λ o Z N=>Ag ?_));exact H _ _ o Q Z N (λ y a=>V y (Ad _ a)) h
theorem Ze {M:Model}{code:Value}{j:Env->Shared->Prop}(hk:a.kind=.function)
 (k:∀x∈f,a.names.lookup x.1=some .local\/(a.names.lookup x.1=some .cell/\((cellsFrom (s.heap.objs.size+1) a.names []).lookup x.1).isSome=true))
 (Q:∀h,h=newEnv a s.heap.objs.size globals (cellsFrom (s.heap.objs.size+1) a.names []) g i code none d->
  ∀w,InCallC s h.locals (bindL h.kindOf f λ _=>none) h.cells (bindC h.kindOf f λ _=>none) w->CZ h w.heap->j h w):
 wpAny M A (newFunctionEnv a globals [] f g i code none d) j E s:=by
 simp only[newFunctionEnv,Option.isSome_none,A3,if_false];refine Ab (L5 ?_);refine Ab (wpAny_layCells _ (λ name z H=>by cases N:z==NameKind.cell<;>simp[N]) _ _ _ _ ?_);have C:=cellsFrom_ok a.names (s.heap.push {cls:=.type "frame",data:=.dict #[]}) (s.heap.objs.size+1) [] ⟨λ _ _ O=>(nomatch O),List.Pairwise.nil⟩ (by rw[BS];exact Ah _);rw[BS] at C;rw[show({s with heap:=s.heap.push {cls:=.type "frame",data:=.dict #[]}}:Shared).heap.objs.size=s.heap.objs.size+1 from BS ..];refine Ab (YX (s₀:=s) (z:=newEnv a s.heap.objs.size globals (cellsFrom (s.heap.objs.size+1) a.names []) g i code none d) _ (λ _ _ _=>rfl) hk f (λ _=>none) (λ _=>none) _ _
  ⟨⟨⟨_,_,rfl⟩,(Heap.Ns.new s.heap (.type "frame")).keeps (CV _ _),λ b o e=>CV _ _ b o (Am _ e),Ah _⟩,
    λ n c hc=>(C.empty n c (mem_of_lookup hc)).1,C.apart,λ n c O=>(C.empty n c O).2⟩
  ⟨_,_,_,CV _ _ _ _ (Ak _ rfl),rfl,rfl⟩ k λ w x V=>Ag (Q _ rfl w x V))
theorem EB (C:EH W a fd i g)(hA:Cc (k+1) A)(G:Gd W s)(Y:∀b∈X,W.h0.get? b=none/\∃o,s.heap.get? b=some o)
 (r:JW W X s.heap d args) (hl:args.length=i.length)
 (a1:∀(w:Env)(z:Heap)(h:Nat),w=callEnvC fd s.heap.objs.size a->XB W fd.scope w s.heap->(∀b∈X,b∉Ay w)->s.toks<=h->
  XS W fd.scope w s.heap (Ay w++X) (Ay w++X) {s with heap:=z,toks:=h} (i.zip args)->
  wpAny W.M (A.deeper w) (execs g w) (λ f m=>Q (match f with | .ret v=>v |_=>.none) m) (λ e m=>wpAny W.M (A.deeper w) (leaving w e) (λ _ N=>E e N) (λ e' N=>E e' N) m) {s with heap:=z,toks:=h}):
 wpAny W.M A (call (.ref a) d) Q E s:=by
 refine C6 λ gg kk=>?_;obtain⟨o,I,O,J,L⟩:=C.obj;obtain⟨c,oc,vs,t,V,M,R,p,u,B⟩:=C.code;refine kk ?_;have S:=G.al.keep I J L;have D:s.heap.NoLimit:=by obtain⟨mc,h1,h2⟩:=C.u6;exact⟨mc,Co G.al h1,h2⟩
 have a0:=r.length;have Z:A.depth<recursionLimit:=by exact hA.d (by decide)
 refine FL (LC Z S O C.co C.be C.body (⟨c,oc,vs,t,V,G.al.keep M u B,R,p⟩) ?_);refine C.bind d s G.al (by omega) _ _ _ _ ?_;rw[C.uv];have j:∀x∈i.zip d,fd.scope.names.lookup x.1=some .local\/(fd.scope.names.lookup x.1=some .cell/\((cellsFrom (s.heap.objs.size+1) fd.scope.names []).lookup x.1).isSome=true):=λ x hx=>by
  have T:x.1∈i:=OE (vs:=d) (Al.mpr ⟨x,hx,rfl⟩);rcases(C.r9 x.1 T).2 with q |q
  ·exact .inl q
  ·obtain⟨c,hc,_⟩:=(Cs x.1 fd.scope.names (s.heap.objs.size+1) [] C.names).2 q;exact .inr ⟨q,by rw[hc];rfl⟩
 refine(BG (n:=s.toks) (Ah _) (Ze C.kind j λ w he m x fc U=>?_));subst he;refine⟨D.keeps x.toInCall.keep,codeAny_func ?_⟩;obtain⟨z,h,e⟩:=x.toInCall.same;subst e;have H:s.toks<=h:=U;have fresh:∀b∈Ay (callEnvC fd s.heap.objs.size a),s.heap.get? b=none:=λ b l=>by
  rcases Ae.mp l with q |q
  ·rw[q];exact Bv s.heap
  ·obtain⟨⟨n,c⟩,T,rfl⟩:=Al.mp q;exact II (Cx (x.above n c T))
 refine C5 (a1 (callEnvC fd s.heap.objs.size a) z h rfl ⟨G.al,G.oz,λ b l=>fresh b ?_⟩ (λ b l q=>?_) H ⟨(QF C G Y r x),.ae x.toInCall.keep,Aa G.toks H,λ b l hz=>absurd l hz,fc⟩) (λ f m p=>?_) λ e m p=>p
 ·rcases l with rfl |⟨y,_,hy⟩
  ·exact Ac
  ·exact BP hy
 ·obtain⟨o,I⟩:=(Y b l).2
  replace I:=Eq.trans (Eq.symm (fresh b q)) I;contradiction
 ·exact p
end
variable {r:List Stmt} in
noncomputable def AQ (k:Bl)(o:Heap):List Env->Prop
 |[]=>True
 |h::r=>h.scope.kind≠.module/\h.frame=some h.locals/\k.h0.get? h.locals=none/\CZ h o/\AQ k o r
noncomputable def Ew (l:List Env):List Addr:=l.map (·.locals)
section
variable {A:Around}{E:B3}
theorem AQ.imp (s:∀k:Env,CZ k h->CZ k H):∀{l:List Env},AQ W h l->AQ W H l:=by
 intro l;induction l with
 |nil=>
  intro _;exact trivial
 |cons _ _ o=>
  rintro⟨a,b,c,d,r⟩;exact⟨a,b,c,s _ d,o r⟩
theorem AQ.bd (S:AQ W h l)(k:A9 W h H):AQ W H l:=S.imp λ _ f=>f.bd k
theorem AQ.bj (S:AQ W h l)(k:D5 h H):AQ W H l:=S.imp λ _ f=>f.bj k
theorem AQ.su:∀{l:List Env},AQ W h l->h.FunFrames {objs:= #[]} l:=by
 intro l;induction l with
 |nil=>
  intro _;exact trivial
 |cons k r s=>
  rintro⟨a,b,c,⟨o,E,H,w,_,A⟩,d⟩;exact⟨a,⟨k.locals,o,b,by rfl,w,λ N q=>by cases Eq.trans (Eq.symm A) q⟩,s d⟩
theorem AQ.mem (S:AQ W h l)(k:b∈Ew l):W.h0.get? b=none/\lU h b:=by
 induction l with
 |nil=>exact absurd k AU
 |cons o r s=>
  exact(Ae.mp k).elim (λ q=>q▸⟨S.2.2.1,S.2.2.2.1⟩) (s S.2.2.2.2)
theorem AQ.frames:∀{l:List Env},AQ W h l->l.filterMap (·.frame)=Ew l:=by
 intro l;induction l with
 |nil=>
  intro _;exact rfl
 |cons o r k=>
  rintro⟨_,b,_,_,d⟩;rw[List.filterMap_cons,b];simp;rw[k d];rfl
variable {f:Addr}{c:Nat}{g:Array GenState} in
inductive pM (h:Heap)(e:Addr)(vs:Array Value)(f3:Value)(T:Addr):Prop
 |mk (h1:vs[1]? =some (.ref T)) (ne:T≠e) (oT:Obj) (ts:Array Value) (g:h.get? T=some oT) (c:oT.cls=.type "traceback") (d:oT.data=.fields ts) (f:ts[3]? =some f3)
noncomputable def mU (k:Heap)(e:Addr)(h:Array Value)(o:Value):Option Addr->Prop
 |none=>h[1]? =some .none
 |some T=>pM k e h o T
variable {a:Addr}{vs:List Value}{r:List Stmt}{c:Nat}{g:Array GenState} in
inductive TH (h:Heap)(e:Addr)(C a0:Value)(hd:Option Addr)(f3:Value):Prop
 |mk (oe:Obj) (vs:Array Value) (g:h.get? e=some oe) (c:oe.cls=C) (d:oe.data=.fields vs) (a:vs[0]? =some a0) (r:mU h e vs f3 hd)
noncomputable def Q7 (l:List Addr)(e:Addr)(k:Option Addr)(s h:Heap):Prop:=
 ∀b o,s.get? b=some o->b≠e->some b≠k->h.get? b=some o\/(b∈l/\∃w,h.get? b=some {o with slots:=w})
theorem QN {M:Model}{c:Env}{f:Obj}{g:Array Value}{j:Unit->Shared->Prop}(y:A.frames=some (c::d))(St:AQ W s.heap (c::d))
 (R:s.heap.get? e=some f) (U:f.cls=C) (z:f.data=.fields g) (Y:g[0]? =some l) (V:1<g.size)
 (hQ:∀u T,s.heap.get? T=none->TH u e C l (some T) (rawInt c.locals)->(∀b o,s.heap.get? b=some o->b≠e->u.get? b=some o\/(b∈Ew (c::d)/\∃B,u.get? b=some {o with slots:=B}))->j () {s with heap:=u}):
 wpAny M A (do let a <-frameOf c;let v <-entryPlaceOf c.locals b;let T <-EntryCells.newEntry i a .none (rawInt c.locals) .none v;setField (.ref e) 1 T) j E s:=by
 have D:=St.frames;have Z:e∉Ew (c::d):=λ hm=>by
  obtain⟨_,o,es,ep,ho,_,G⟩:=St.mem hm;obtain rfl:=AF R ho;cases Eq.trans (Eq.symm z) G
 refine Ab (wpAny_frameOf_fun y St.su St.2.1 λ k h=>?_)
 replace h:=(D)▸h
 refine Ab (wpAny_entryPlaceOf λ v I=>?_);refine Ab (BJ ?_ (I.sizeOk5 _ _ _ _ _));have w:k.get? e=some f:=(h.2.1 e Z).trans R;have H:s.heap.get? k.objs.size=none:=by rw[h.1];exact Bv s.heap
 have m:k.objs.size≠e:=Cm (Az w);generalize Q:({cls:=.type "traceback",dict:=none,data:=.fields ([i,.ref c.locals,.none,rawInt c.locals,.none]++(if v.isEmpty then List.replicate 6 Value.none else v)).toArray}:Obj)=n;have p:n.cls=.type "traceback":=by rw[<-Q]
 have r:n.isFreed=false:=by rw[<-Q];rfl
 have t:∃x,n.data=.fields x/\x[3]? =some (rawInt c.locals):=⟨_,by rw[<-Q],by rfl⟩;have N:(k.push n).get? e=some f:=Am _ w;refine Gg N z V (hQ _ k.objs.size H ?_ λ b o S J=>?_)
 ·have O:=CX z (·.setIfInBounds 1 (Value.ref k.objs.size))
  obtain⟨x,h1,h2⟩:=t;exact⟨_,_,Br _ N (CU O),(H9 _ _).trans U,O,by rw[Array.getElem?_setIfInBounds_ne (Nat.succ_ne_zero _)];exact Y,by simp[V],m,n,x,by refine Eq.trans (Ck _ _ (Ne.symm m)) ?_;exact Ak _ r,p,h1,h2⟩
 ·rw[Ck _ _ (Ne.symm J)];by_cases q:b∈Ew (c::d)
  ·obtain⟨B,L⟩:=h.2.2 b o S;exact .inr ⟨q,B,Am _ L⟩
  ·exact .inl (Am _ ((h.2.1 b q).trans S))
theorem O0 {M:Model}{c:Env}{f:Unit->Shared->Prop}(Z:A.frames=some (c::a))(St:AQ W s.heap (c::a))(F:TH s.heap e C g d .none)
 (B:∀O T,s.heap.get? T=none->TH O e C g (some T) (rawInt c.locals)->Q7 (Ew (c::a)) e d s.heap O->f () {s with heap:=O}):wpAny M A (noteFrame (.ref e) c) f E s:=by
 obtain⟨oe,vs,t,D,k,G,i⟩:=F;have R:=St.2.1;unfold noteFrame;rw[R];cases d with
 |none=>
  have j:=i;refine Ab (BQ t k j ?_);exact QN Z St t D k G (Cb.mp j).1 λ O T Q u hk=>B O T Q u λ b o N V _=>hk b o N V
 |some T=>
  obtain⟨j,v,oT,ts,Q,S,w,I⟩:=i;refine Ab (BQ t k j ?_);refine Ab (BQ Q w I ?_);refine Ab (Gg Q w (Cb.mp I).1 ?_);have U:T∉Ew (c::a):=λ Y=>by
   obtain⟨_,o,J,L,ho,_,x⟩:=St.mem Y;obtain rfl:=AF Q ho;cases Eq.trans (Eq.symm w) x
  have h:∀b,b≠T->(s.heap.update T (Obj.mapFields (·.setIfInBounds 3 Value.none))).get? b=s.heap.get? b:=λ b N=>Ck _ _ (Ne.symm N)
  have H:=Br (Obj.mapFields (·.setIfInBounds 3 Value.none)) Q (CU (CX w _))
  have y:AQ W (s.heap.update T (Obj.mapFields (·.setIfInBounds 3 Value.none))) (c::a):=St.bj λ b o J L N l=>⟨o,J,L,by
   refine Eq.trans (h b (λ q=>by subst q;obtain rfl:=AF Q N;cases Eq.trans (Eq.symm w) l)) ?_;exact N,rfl,l⟩
  refine QN (s:={s with heap:=s.heap.update T (Obj.mapFields (·.setIfInBounds 3 Value.none))}) Z y ((h e (Ne.symm v)).trans t) D k G (Cb.mp j).1 λ O m n u hk=>B O m ?_ u λ b o N V z=>?_
  ·by_cases q:m=T
   ·subst q;have p:(s.heap.update m (Obj.mapFields (·.setIfInBounds 3 Value.none))).get? m=none:=n
    cases Eq.trans (Eq.symm H) p
   ·rw[<-h m q];exact n
  ·have r:b≠T:=λ q=>z (by exact congrArg _ (q));exact hk b o ((h b r).trans N) V
theorem UU {M:Model}{a:Unit->Shared->Prop}(F:TH s.heap e C d (some T) c)
 (i:∀O,TH O e C d (some T) .none->(∀b o,s.heap.get? b=some o->b≠T->O.get? b=some o)->a () {s with heap:=O}):wpAny M A (setFlight (.ref e) none) a E s:=by
 obtain⟨j,l,W,m,h,n,Z,k,r,t,g,Q,w,p⟩:=F;refine Ab (BQ W h Z ?_);have H:=(Cb.mp p).1;have N:=CX w (·.setIfInBounds 3 ((none:Option Addr).elim Value.none λ f=>rawInt f))
 refine Gg g w H (i _ ⟨j,l,?_,m,h,n,Z,k,_,_,Br _ g (CU N),(H9 _ _).trans Q,N,by simp[H]⟩ λ b o q V=>?_)
 ·refine Eq.trans (Ck _ _ k) ?_;exact W
 ·refine Eq.trans (Ck _ _ (Ne.symm V)) ?_;exact q
end
variable {f:Addr}{n:Nat}{t:Expr}{g:Array GenState} in
inductive Hu (W:Bl)(hs h:Heap)(e:Addr)(C v:Value):Prop
 |mk (le:A9 W hs h) (no:hs.get? e=none) (t:Addr) (n:Nat) (hd:Option Addr) (g:h.get? t=some (Jk #[v] n)) (f:TH h e C (.ref t) hd .none) (k:∀T,hd=some T->hs.get? T=none)
theorem Hu.rf {b:Heap}(F:Hu W b h e C v):b.get? e=none:=F.rec λ _ a _ _ _ _ _ _=>a
theorem Hu.t9 (F:Hu W b h e C v):A9 W b h:=F.rec λ a _ _ _ _ _ _ _=>a
section
variable {A:Around}{E:B3}
theorem A9.qq {a:Option Addr}(x:A9 W c h)(St:AQ W h l)(K:Q7 (Ew l) e a h H)(F:TH h e C f a d)(y:C≠.none/\C≠.type "code")(B:c.get? e=none)(D:∀T,a=some T->c.get? T=none):A9 W c H:=by
 obtain⟨S,U,j,Q,G,Y,m⟩:=F;have step:∀b o,h.get? b=some o->b≠e->some b≠a->H.get? b=some o\/(W.h0.get? b=none/\o.cls=.type "frame"/\(∃g i,o.data=.dict g i)/\∃E,H.get? b=some {o with slots:=E}):=λ b o s I J=>by
  rcases K b o s I J with k |⟨L,E,k⟩
  ·exact .inl k
  ·obtain⟨M,o',g,i,p,hc,N⟩:=St.mem L;obtain rfl:=AF s p;exact .inr ⟨M,hc,⟨g,i,N⟩,E,k⟩
 refine⟨λ b o s=>?_,λ t=>W.np h H (λ b o ws s r O=>?_) (x.2 t)⟩
 ·have w:b≠e:=λ q=>by simp only[q,B] at s;contradiction
  have A:some b≠a:=λ q=>by replace s:=Eq.trans (Eq.symm (D b q.symm)) s;contradiction
  rcases x.1 b o s with k |⟨n,k,E,u⟩ |⟨n,R,V,k,u⟩
  ·rcases step b o k w A with z |⟨z1,z2,_,E,z⟩
   ·exact .inl z
   ·exact .inr (.inl ⟨z1,z2,E,z⟩)
  ·rcases step b _ u w A with z |⟨z1,z2,_,Z,z⟩
   ·exact .inr (.inl ⟨n,k,E,z⟩)
   ·exact .inr (.inl ⟨n,k,Z,z⟩)
  ·rcases step b _ u w A with z |⟨z1,z2,_,Z,z⟩
   ·exact .inr (.inr ⟨n,R,V,k,z⟩)
   ·contradiction
 ·have w:b≠e:=λ q=>by
   subst q;obtain rfl:=AF j s;rcases O with q |q
   ·exact y.1 (Q.symm.trans q)
   ·exact y.2 (Q.symm.trans q)
  have A:some b≠a:=λ q=>by
   subst q;obtain⟨_,_,oT,ts,v,hc,_⟩:=m;obtain rfl:=AF s v
   replace O:=(hc)▸O
   contradiction
  rcases step b o s w A with z |⟨_,_,⟨g,i,N⟩,_⟩
  ·exact z
  ·cases Eq.trans (Eq.symm r) N
theorem Q7.stack {a:Option Addr}(St:AQ W h b)(K:Q7 (Ew l) e a h H)(F:TH h e C d a c):AQ W H b:=by
 obtain⟨n,p,E,i,N,r,O⟩:=F;refine St.imp λ w f=>?_;obtain⟨o,Z,g,A,hc,s⟩:=f;have j:w.locals≠e:=λ q=>by simp only[q,E] at A;cases A;cases Eq.trans (Eq.symm N) s
 have m:some w.locals≠a:=λ q=>by
  subst q;obtain⟨_,_,t,u,Q,_,V,_⟩:=O;obtain rfl:=AF A Q;cases Eq.trans (Eq.symm s) V
 rcases K _ o A j m with k |⟨_,v,k⟩
 ·exact⟨o,Z,g,k,hc,s⟩
 ·exact⟨_,Z,g,k,hc,s⟩
theorem Q7.seq {a:Option Addr}(St:AQ W h l)(K:Q7 (Ew l) e a h H)(F:TH h e C d a b)(w:h.get? t=some o)(s:o.data=.seq c n):H.get? t=some o:=by
 obtain⟨m,p,A,f,E,r,N⟩:=F;have g:t≠e:=λ q=>by simp only[q,A] at w;cases w;cases Eq.trans (Eq.symm E) s
 have i:some t≠a:=λ q=>by
  subst q;obtain⟨_,_,u,v,O,_,Q,_⟩:=N;obtain rfl:=AF w O;cases Eq.trans (Eq.symm s) Q
 rcases K t o w g i with k |⟨j,x,k⟩
 ·exact k
 ·obtain⟨_,y,z,B,V,_,Z⟩:=St.mem j;obtain rfl:=AF w V;cases Eq.trans (Eq.symm s) Z
theorem Hu.qk {c:Heap}{M:Model}{a:Env}{d:Unit->Shared->Prop}(Q:C≠.none/\C≠.type "code")(o:A.frames=some (a::b))(St:AQ W s.heap (a::b))(F:Hu W c s.heap e C v)
 (V:∀h t n T,A9 W c h->c.get? T=none->AQ W h (a::b)->h.get? t=some (Jk #[v] n)->TH h e C (.ref t) (some T) (rawInt a.locals)->d () {s with heap:=h}):wpAny M A (noteFrame (.ref e) a) d E s:=by
 obtain⟨H,Z,t,n,i,f,k,g⟩:=F;refine O0 o St k λ h T w N K=>?_;have O:c.get? T=none:=by
  exact A9.bf H w
 exact V h t n T (H.qq St K k Q Z g) O (K.stack St k) (K.seq St k f rfl) N
theorem Hu.land {M:Model}{c:Unit->Shared->Prop}(Q:C≠.none/\C≠.type "code")(St:AQ W s.heap l)(V:A9 W a s.heap)(O:a.get? e=none)(w:a.get? T=none)(Z:s.heap.get? t=some (Jk #[v] n))(F:TH s.heap e C (.ref t) (some T) d)
 (f:∀h,Hu W a h e C v->AQ W h l->c () {s with heap:=h}):wpAny M A (setFlight (.ref e) none) c E s:=by
 refine UU F λ h H k=>?_;have K:Q7 (Ew l) e (some T) s.heap h:=λ b o g _ N=>.inl (k b o g λ q=>N (by exact congrArg _ (q)));exact f h ⟨V.qq St K F Q O λ i q=>by cases q;exact w,O,t,n,some T,K.seq St F Z rfl,H,λ i q=>by cases q;exact w⟩ (K.stack St F)
theorem Hu.bk {M:Model}{c:Unit->Shared->Prop}(O:C≠.none/\C≠.type "code")(H:A.frames=some (b::a))(St:AQ W s.heap (b::a))(F:Hu W d s.heap e C v)
 (Q:∀N,Hu W d N e C v->AQ W N (b::a)->c () {s with heap:=N}):wpAny M A (leaving b (.ref e)) c E s:=by
 refine Ab (F.qk O H St λ k t n T o V h Z w=>?_);exact Hu.land (s:={s with heap:=k}) O h o F.rf V Z w Q
theorem Hu.qr (F:Hu W c h e C v)(s:A9 W b c):Hu W b h e C v:=by
 obtain⟨k,w,t,n,A,E,H,N⟩:=F;have o:∀{a:Addr},c.get? a=none->b.get? a=none:=λ{a} O=>by
  exact A9.bf s O
 exact⟨s.trans k,o w,t,n,A,E,H,λ T q=>o (N T q)⟩
theorem Hu.rh (m:Heap.MadeExcOf h H e C [v]):Hu W h H e C v:=by
 refine C6 λ w k=>?_;obtain⟨t,o,A,s⟩:=m.there;refine k ?_;exact⟨.ae m.keeps,m.new,t,0,none,s,⟨_,_,o,rfl,rfl,rfl,rfl⟩,λ T q=>(by contradiction)⟩
end
variable {sl:CB} in
class inductive G7 (h:Heap) (name:Str) (bmB:List Value):List Value->Prop
 |base:G7 h name bmB bmB
 |own {A:Addr} {c0:Value} {dd:Option Addr} {cd:ClassData} {sl:Array (Option Value)} {mA:Str->Option Value} {tl:List Value}:
  h.get? A=some {cls:=c0,dict:=dd,data:=.cls cd,slots:=sl}->h.Ns cd.ns mA->mA name=none->G7 h name bmB tl->G7 h name bmB (.ref A::tl)
theorem Ro (s:A9 W h H)(T:G7 h name a b):G7 H name a b:=by
 induction T with
 |base=>exact .base
 |own O hN o _ w=>
  rcases s.1 _ _ O with k |⟨_,_,Q,k⟩ |⟨_,V,N,k,_⟩
  ·exact .own k (Co s hN) o w
  ·exact .own k (Co s hN) o w
  ·injection k with _ _ k;cases k
variable {hs:Heap} in
inductive pT (W:Bl)(C:Addr)(bm:List Value):Prop
 |mk (nm q0 N bs hdct sn0 sub ab col dd k0 k1 k2 k3 k5 B newId initId bmB mN nm0:_) (fx:ExcBaseFacts B newId initId bmB) (hC:W.h0.get? C=some (excClassObj nm q0 C N bs bm hdct sn0 sub ab col dd k0 k1 k2 k3 k5 newId)) (hN:W.h0.Ns N mN) (hi:mN "__init__"=none) (hT:OwnTail W.h0 bmB bm)
  (hs:mN "__str__"=none) (hS:G7 W.h0 "__str__" bmB bm) (fs:ExcStrFacts B nm0)
structure El (W:Bl)(mg:Str->Option Value)(x:Str)(C:Addr)(bm:List Value):Prop where
 na:mg x=some (.ref C)
 cls:pT W C bm
theorem P6 (s:A9 W h H)(T:OwnTail h a b):OwnTail H a b:=by
 induction T with
 |base=>exact .base
 |own O hN o _ w=>
  rcases s.1 _ _ O with k |⟨_,_,Q,k⟩ |⟨_,V,N,k,_⟩
  ·exact .own k (Co s hN) o w
  ·exact .own k (Co s hN) o w
  ·injection k with _ _ k;cases k
inductive mO where
 |ret (d:PV)
 |ut (x:Str) (w:Str)
variable {a f:Addr}{args:List PV}{c:Nat} in
noncomputable def mD:Stmt->Option (Str×Expr)
 | .Raise e c _=>match e,c with
   |some (.Call f args h _),none=>match args with
    |[a]=>if h.isEmpty&&B1 a then(Yn f).map λ x=>(x,a) else none
    |_=>none
   |_,_=>none
 |_=>none
section
variable {A:Around}{z:Env}{C:A5}{E:B3}
end
noncomputable def E2 (h:Heap)(B:Addr):Heap:={h with objs:=h.objs.modify B λ o=>{o with data:=.freed}}
section
theorem Gz:(E2 h B).get? B=none:=by
 unfold E2 Heap.get?;simp only[FY,if_true];cases h.objs[B]? with
 |none=>rfl
 |some o=>rfl
theorem Es (k:b≠B):(E2 h B).get? b=h.get? b:=by
 unfold E2 Heap.get?;rw[FY,if_neg (Ne.symm k)]
theorem JM (k:h.get? b=none):(E2 h B).get? b=none:=by
 by_cases q:b=B
 ·subst q;exact Gz
 ·rw[Es q];exact k
theorem O6:A9 W (E2 h B) h:=
 .ae λ b o e=>by
  by_cases q:b=B
  ·subst q;exact BZ Gz e
  ·rw[Es q] at e;exact e
theorem Of (R:A9 W W.h0 h)(s:W.h0.get? B=none)(w:∀o k,h.get? B=some o->o.data≠.fields k):A9 W W.h0 (E2 h B):=by
 refine⟨λ b o e=>?_,λ t=>W.np h _ (λ b o k e H _=>?_) (R.2 t)⟩
 ·have q:b≠B:=λ q=>by rw[q,s] at e;contradiction
  rw[Es q];exact R.1 b o e
 ·rw[Es (λ q=>w o k (q▸e) H:b≠B)];exact e
theorem Ke (T:W.ox h)(s:∀o k,h.get? B=some o->o.data≠.fields k):W.ox (E2 h B):=
 W.np h _ (λ b o k e w _=>by
   have q:b≠B:=λ q=>s o k (q▸e) w;rw[Es q];exact e) T
end
section
variable {A:Around}{z:Env}{E:B3}
theorem Bo.bg (S:I5 W (C3 V z) h H)(k:∀a,C3 V z a->a∈X)(o:¬C3 V z a)(r:Bo W X h a d):Bo W X H a d:=r.map (λ _ e _=>S.keep _ _ o e) λ _ _=>RpL.bg k S
theorem Bj.bg (F:FI W V z Z X h O)(S:I5 W (C3 V z) h H)(r:Bj W Z X h v b):Bj W Z X H v b:=r.to (λ _ _=>Rp.bg (λ a k=>F.bq k) S) λ _ _ m s o=>⟨m,s,o.bg S (λ a k=>F.bq k) λ q=>s (F.wr q)⟩
theorem XS.pg (B:XB W V z N)(S:XS W V z N Z X s O)(j:AI V x=true)(Q:Bj W Z X s.heap v sl)(o:∀d,sl=.own d->∀y e,O.lookup y=some (.own e)->y=x){a:Unit->Shared->Prop}
 (l:∀f g,XS W V z N Z X {s with heap:=f,toks:=g} (AN O x sl)->I5 W (C3 V z) s.heap f->s.toks<=g->a () {s with heap:=f,toks:=g}):wpAny W.M A (assign (.Name x c) z v) a E s:=by
 refine Gi (FI.n9 S.F (sl:=sl) (DK j).2 (DK j).1 Q o λ w k H St h=>?_);refine l w k ⟨H.au λ y m q=>?_,St.s6 N (λ b i=>B.wr b i) S.le,Aa S.tk h,S.fr,S.fc.bj St.cls⟩ St h;rw[Ba] at q;by_cases e:y=x
 ·subst y;rw[if_pos rfl] at q;rw[An];exact q
 ·rw[if_neg e] at q;rw[Ar e];exact q
variable {a:List PV}{b:CB} in
noncomputable def RF:List (Str×Pos)->List CB->AM->AM
 |(x,_)::a,b::h,O=>RF a h (AN O x b)
 |_,_,O=>O
variable {v:Value}{b:List Value}{a:CB} in
noncomputable def I6 (k:Bl)(o X:List Addr)(s:Heap):List Value->List CB->Prop
 |[],[]=>True
 |v::b,a::h=>Bj k o X s v a/\(∀d,a≠.own d)/\I6 k o X s b h
 |_,_=>False
theorem I6.bg (F:FI W V z Z X h O)(S:I5 W (C3 V z) h H)(x:I6 W Z X h b a):I6 W Z X H b a:=by
 induction b generalizing a with
 |nil=>cases a with
  |nil=>exact x
  |cons _ _=>exact x.elim
 |cons v b k=>cases a with
  |nil=>exact x.elim
  |cons s a=>exact⟨x.1.bg F S,x.2.1,k x.2.2⟩
theorem XS.sh (B:XB W V z N):∀(H:List (Str×Pos))(w:List Value)(k:List CB)(l:AM)(s:Shared)(Q:Unit->Shared->Prop),XS W V z N Z X s l->H.all (λ x=>AI V x.1)=true->H.length=k.length->I6 W Z X s.heap w k->
 (∀n p,XS W V z N Z X {s with heap:=n,toks:=p} (RF H k l)->I5 W (C3 V z) s.heap n->s.toks<=p->Q () {s with heap:=n,toks:=p})->
 wpAny W.M A (assignInOrder (List.map (λ x=>x.2) (assignEach (H.map λ x=>.Name x.1 x.2) z)) w) Q E s:=by
 intro H;induction H with
 |nil=>
  intro w k l s Q S _ t r h;cases k with
  |cons _ _=>contradiction
  |nil=>cases w with
   |cons _ _=>exact r.elim
   |nil=>exact wpAny_assignInOrder_none (h s.heap s.toks S .refl (Ah _))
 |cons x H u=>
  intro w k l s Q S m t r h;cases k with
  |nil=>contradiction
  |cons y k=>cases w with
   |nil=>exact r.elim
   |cons v w=>
    have m:=Ai.mp m;refine wpAny_assignInOrder_more (S.pg B m.1 r.1 (λ d q=>absurd q (r.2.1 d)) λ c O e o f=>?_);exact u w k _ {s with heap:=c,toks:=O} Q e m.2 (Ia t) (r.2.2.bg S.F o) λ g a i b j=>h g a i (o.trans b) (Aa f j)
theorem Qa:∀(h:List (Str×Pos)),(assignEach (h.map λ x=>Expr.Name x.1 x.2) z).length=h.length/\List.findIdx? (λ x=>x.1) (assignEach (h.map λ x=>Expr.Name x.1 x.2) z)=none:=by
 intro h;induction h with
 |nil=>
  exact⟨rfl,rfl⟩
 |cons x h k=>
  obtain⟨o,s⟩:=k;exact⟨congrArg (·+1) o,by show List.findIdx? _ ((false,_)::assignEach (h.map λ x=>Expr.Name x.1 x.2) z)=none;rw[List.findIdx?_cons,s];rfl⟩
theorem XS.qe (l:A.handled=none)(B:XB W V z N)(S:XS W V z N Z X s O)(m:s.heap.get? T=some (Jk vs.toArray n))(p:xs.all (λ x=>AI V x.1)=true)(t:xs.length=sls.length)
 (r:I6 W Z X s.heap vs sls) (u:vs.length=sls.length) {d:Unit->Shared->Prop}
 (v:∀H g,XS W V z N Z X {s with heap:=H,toks:=g} (RF xs sls O)->I5 W (C3 V z) s.heap H->s.toks<=g->d () {s with heap:=H,toks:=g}):wpAny W.M A (assign (.Tuple (xs.map λ x=>.Name x.1 x.2) c a) z (.ref T)) d E s:=by
 have j:=Qa (z:=z) xs;refine wpAny_assign_Tuple l ⟨_,m,rfl,_,rfl⟩ (by rw[j.1];simp;omega) j.2 λ H i=>?_;have k:∀b o,s.heap.get? b=some o->H.get? b=some o:=λ b o q=>i b o (BN (Az q)) q;refine XS.sh B xs vs sls O {s with heap:=H} d (S.ac (tk:=s.toks) (.ae k) (Ah _)) p t (r.bg S.F (.ae k)) λ Q h e w f=>v Q h e ((I5.ae k).trans w) f
end
theorem NR {a:Type}(f:a->Bool)(l:List a)(i:Nat)(h:∀x,l[i]? =some x->f x=false):(l.eraseIdx i).find? f=l.find? f:=by
 induction l generalizing i with
 |nil=>exact rfl
 |cons x l k=>
  cases i with
  |zero=>exact(Ji (ne_true_of_eq_false (h x rfl))).symm
  |succ i=>
   show(match f x with |true=>some x |false=>(l.eraseIdx i).find? f)=match f x with |true=>some x |false=>l.find? f
   rw[k i h]
theorem LQ (k:a.findIdx? (λ e=>e.key.isStr name)=some i)(s:x≠name):nsFind (a.eraseIdxIfInBounds i) x=nsFind a x:=by
 obtain⟨l⟩:=a;simp only[nsFind,findBy,List.eraseIdxIfInBounds_toArray,List.find?_toArray,List.findIdx?_toArray] at k ⊢;rw[NR];intro e o;obtain⟨h,w,_⟩:=List.findIdx?_eq_some_iff_getElem.mp k;have:l[i]=e:=by rw[AW h] at o;injection o
 rw[<-this];cases q:l[i].key.isStr x with
 |false=>rfl
 |true=>exact absurd (Value.isStr_inj _ _ _ q w) s
theorem OG {m:Str->Option Value}{M:Model}{f:Bool->Shared->Prop}(B:s.heap.Ns a m)(N:(m name).isSome=true)
 (C:∀V u,V.Ns a u->(∀y,y≠name->u y=m y)->Heap.SameBut a s.heap V->D5 s.heap V->f true {s with heap:=V}):wpAny M A (nsDel a name) f E s:=by
 obtain⟨o,H,D,W,Z,hk,v⟩:=id B;have x:H.any (·.refKey)=false:=by
  rw[Array.any_eq_false'];intro e G;obtain⟨n,t,h⟩:=hk e G;simp[DictEntry.refKey,h]
 obtain⟨i,g⟩:∃i,H.findIdx? (λ e=>e.key.isStr name)=some i:=by
  cases q:H.findIdx? (λ e=>e.key.isStr name) with
  |some i=>exact⟨i,rfl⟩
  |none=>
   exfalso;rw[<-v name,nsFind,findBy_of_findIdx?,q] at N;cases N
 have O:H.any (λ e=>e.key.isStr name)=true:=by
  rw[Array.any_eq_true];obtain⟨j,I,_⟩:=Array.findIdx?_eq_some_iff_getElem.mp g;exact⟨i,j,I⟩
 have Q:nsHas name o=pure true:=by
  rw[nsHas_eq];unfold nsHasByArray;rw[Z];simp only[O,if_true]
 have k:(Obj.dropName name o).cls=o.cls/\(Obj.dropName name o).isFreed=false/\(Obj.dropName name o).data=.dict (H.eraseIdxIfInBounds i) (D+1):=by
  obtain⟨c,d,R,S⟩:=o;simp only at Z;subst Z;simp only[Obj.dropName_eq,Obj.dropNameByArray,g];exact⟨trivial,rfl,trivial⟩
 have w:=Br (Obj.dropName name) W k.2.1;unfold nsDel;refine Ab (wpAny_loadPart W ?_);rw[Q];refine Ab (Ag ?_);simp only[if_true];refine Ab (J0 W (Ag (C _ (nsFind (H.eraseIdxIfInBounds i)) ⟨_,_,_,w,k.2.2,hk.erase i,λ _=>rfl⟩ (λ y J=>by rw[LQ g J,v]) (Be ..) λ b L l p z r=>?_)));by_cases q:b=a
 ·subst q;obtain rfl:=AF W z;exact⟨_,_,_,w,k.1,k.2.2⟩
 ·exact⟨L,l,p,by rw[Ck _ _ (Ne.symm q)];exact z,rfl,r⟩
noncomputable def Kq (h:AM)(n:Str):AM:=h.filter λ q=>!(q.1==n)
theorem F9 (n:Str):∀(h:AM)(y:Str),(Kq h n).lookup y=if y=n then none else h.lookup y:=by
 intro h;induction h with
 |nil=>
  intro y;simp[Kq]
 |cons s h k=>
  intro y;obtain⟨z,t⟩:=s;have o:=k y;unfold Kq at o ⊢;rw[EG];by_cases q:z=n
  ·subst q;simp only[beq_self_eq_true,Bool.not_true,A3,if_false];rw[o];by_cases r:y=z
   ·rw[if_pos r,if_pos r]
   ·rw[if_neg r,if_neg r,Ar r]
  ·have:(z==n)=false:=by simpa using q
   simp only[this,Bool.not_false,if_true];by_cases r:y=z
   ·subst r;rw[An,An,if_neg q]
   ·rw[Ar r,Ar r];exact o
section
variable {A:Around}{z:Env}{E:B3}
theorem GF (h:(Kq O n).lookup y=some a):y≠n/\O.lookup y=some a:=by
 rw[F9] at h;by_cases q:y=n
 ·rw[if_pos q] at h;cases h
 ·rw[if_neg q] at h;exact⟨q,h⟩
theorem TQ {m:Str->Option Value}{M:Model}{a:Unit->Shared->Prop}(O:z.kindOf n=some .local)(Q:(z.scope.kind== .class||(z.scope.kind== .module&&z.locals !=z.globals))=false)(V:s.heap.Ns z.locals m)(W:(m n).isSome=true)
 (Z:∀h k,h.Ns z.locals k->(∀y,y≠n->k y=m y)->Heap.SameBut z.locals s.heap h->D5 s.heap h->a () {s with heap:=h}):wpAny M A (unbindBehindTheSuite z n b) a E s:=by
 unfold unbindBehindTheSuite;refine wpAny_onRaise ?_;unfold unbindName;refine Ab (wpAny_point (Ab ?_));unfold deleteName;simp only[O,Q];rw[if_neg (by decide)];refine Ab (OG V W λ h k o w H N=>?_);simp only[Bool.not_true,A3,if_false];exact Ag (wpAny_point (Z h k o w H N))
theorem XS.qp (B:XB W V z N)(S:XS W V z N Z X s O)(U:V.names.lookup n=some .local)(J:CM n=true){f:Unit->Shared->Prop}
 (a5:∀h' tk,XS W V z N Z X {s with heap:=h',toks:=tk} (Kq O n)->C9 V z Z X s.heap h'->s.toks<=tk->f () {s with heap:=h',toks:=tk}):wpAny W.M A (do bindName z n .none;unbindBehindTheSuite z n g) f E s:=by
 have a6:AI V n=true:=by unfold AI;rw[J,U];rfl
 refine Ab (wpAny_bindName ?_);refine FI.n9 S.F (sl:=.ao .none) (.inl U) J rfl (λ d q=>nomatch q) λ p Q w j D=>?_;have t:XS W V z N Z X {s with heap:=p,toks:=Q} ((n,.ao .none)::O):=⟨w,j.s6 N (λ b a0=>B.wr b a0) S.le,Aa S.tk D,S.fr,S.fc.bj j.cls⟩;have hp:(z.scope.kind== .class||(z.scope.kind== .module&&z.locals !=z.globals))=false:=by rw[S.F.kind];rfl
 obtain⟨m,hn,hv⟩:=w.ns;obtain⟨v,a1,_⟩:=hv n (.ao .none) U An;refine TQ (s:={s with heap:=p,toks:=Q}) (S.F.pb n U) hp hn (by rw[a1];rfl) λ l L x G h I=>?_;have hz:z.locals∈Z:=S.F.ba _ Ac;have hX:=S.F.zx _ hz;have M:FI W V z Z X l (Kq O n):=
  {w with
   ns:=⟨L,x,λ y R hy H=>by
    obtain⟨q,H⟩:=GF H;obtain⟨v,e,r⟩:=hv y R hy (by rw[Ar q];exact H);exact⟨v,by rw[G y q];exact e,r.bb h hX hz⟩⟩
   cell:=λ y hy=>by
    obtain⟨c,ov,e,i,k⟩:=w.cell y hy;refine⟨c,ov,e,i.sameBut h (JT i hn),λ R H=>?_⟩;obtain⟨q,H⟩:=GF H;obtain⟨u,e',r⟩:=k R (by rw[Ar q];exact H);exact⟨u,e',r.bb h hX hz⟩
   o6:=λ y R H=>S.F.o6 y R (GF H).2
   alive:=λ a Y=>⟨(w.alive a Y).1,Ep h (by obtain⟨o,_,_,T,_⟩:=x;exact⟨o,T⟩) (w.alive a Y).2⟩
   nr:=λ y a7 d e h1 h2=>S.F.nr y a7 d e (GF h1).2 (GF h2).2}
 have C:A9 W N l:=t.le.bb (B.wr _ (.inl rfl)) (λ o vs T hd=>by
  obtain⟨o',es,ep,a2,a3,_⟩:=hn;have a4:p.get? z.locals=some o:=T;obtain rfl:=AF a4 a2;cases Eq.trans (Eq.symm hd) a3) h
 have kd:C9 V z Z X s.heap l:=(j.aj λ a Y=>S.F.bq Y).trans λ b o hc T=>(h.2 b (λ q=>hc.elim (λ c=>c.1 (q▸hX)) λ c=>c.2.1 (.inl q))).trans T;exact a5 l Q ⟨M,C,t.tk,S.fr,t.fc.bj I⟩ kd D
end
open Builtin Builtin.Str Builtin.BaseException Builtin.Exceptions
section
variable {A:Around}{E:B3}
variable {C:Addr}
theorem Sw {os:OsState}{M:Model}{c:Option Value->Shared->Prop}(T:G7 h name a b)(k:lookupAlong a name=pure y)(s:c y ⟨h,g,d,t,os⟩):
 wpAny M A (lookupAlong b name) c E ⟨h,g,d,t,os⟩:=by
 induction T with
 |base=>rw[k];exact Ag s
 |own w hN o _ C=>
  rw[lookupAlong_cons];refine Ab (wpAny_classOwn_cls w hN ?_);rw[o];exact C
theorem Qj {os:OsState}{M:Model}{sub:List Value}{c:Str->Option Value}{e:Option Value->Shared->Prop}(w:h.get? C=some (excClassObj nm q C i m j f n sub p l r u v x z D b))(N:h.Ns i c)(o:c name=none)(T:G7 h name a j)
 (s:mroOf (.type B)=pure a) (H:typeLookup (.type B) name=pure y) (O:e y ⟨h,g,d,t,os⟩):wpAny M A (typeLookup (.ref C) name) e E ⟨h,g,d,t,os⟩:=by
 have k:lookupAlong a name=pure y:=by rw[typeLookup_eq,s] at H;exact H
 rw[typeLookup_eq];refine Ab (wpAny_mroOf_exc w ?_);rw[lookupAlong_cons];refine Ab (wpAny_classOwn_exc w N ?_);rw[o];exact Sw T k O
end
section
variable {A:Around}{E:B3}
variable {C:Addr}
theorem T5 {os:OsState}{sub:List Value}{p:Str->Option Value}(Z:A.units<cLine)(k:ExcStrFacts B b)
 (o:h.get? C=some (excClassObj nm q C v y c r z sub D x G I J L M R f)) (S:h.Ns v p) (s:p "__str__"=none) (T:G7 h "__str__" i c) (H:mroOf (.type B)=pure i) (N:c.contains (.type "BaseException")=true)
 (W:h.get? e=some a) (hc:a.cls=.ref C) (U:a.data=.fields j) (Y:j[0]? =some (.ref t0)) (ht:h.get? t0=some (Jk #[.str m l] n)) (hq:Q (.str m l) ⟨h,g,d,t,os⟩):
 wpAny (model u w) A (Builtin.Str.strOf (.ref e)) Q E ⟨h,g,d,t,os⟩:=by
 have O:=k.str.lookup;unfold Builtin.Str.strOf
 repeat (first |with_reducible refine wpAny_cRoomFor Z ?_ |(with_reducible refine Gh W ?_;rw[hc]) |with_reducible refine Qj o S s T H O ?_ |wp_step)
 refine Dc (k.str.bind _) ?_;refine Ab (FL (G8 k.str.plain F.entry_bexc_str ?_));have V:(Value.ref C::c).contains (.type "BaseException")=true:=by rw[Hp,N,Bool.or_true]
 have hk:builtinKind "BaseException.__str__"=some .slot:=by decide+kernel
 have hs:splitId "BaseException.__str__"=some ("BaseException","__str__"):=by decide+kernel
 simp only[checkBuiltinCall,hk,hs]
 repeat (first |(with_reducible refine Gh W ?_;rw[hc]) |with_reducible refine Gh o ?_ |(with_reducible refine wpAny_isSubtype_exc o ?_;rw[V]) |wp_step)
 rw[U];refine Ag ?_;rw[Y];refine Ag (Ab (wpAny_seqItems ht rfl ?_));refine Ag ?_
 repeat wp_step
 exact hq
theorem YF {sub:List Value}{i:Str->Option Value}(M:A.units+2<cLine)(S:ExcStrFacts B c)
 (U:s.heap.get? C=some (excClassObj nm q C r u j l v sub x t y z D G I J d)) (Y:s.heap.Ns r i) (o:i "__str__"=none) (T:G7 s.heap "__str__" f j) (H:mroOf (.type B)=pure f) (N:j.contains (.type "BaseException")=true)
 (he:s.heap.get? e=some a) (hc:a.cls=.ref C) (hd:a.data=.fields g) (h0:g[0]? =some (.ref t0)) (ht:s.heap.get? t0=some (Jk #[.str m b] n)) (hq:Q (.str m b) s):
 wpAny (model p w) A (call (.type "str") [.ref e]) Q E s:=
 callType_new F.called_str (by decide) (F.typeCall_str_1 _) (F.newCall_str_1 _) (λ O=>F.args_object_init_2 O _) F.entry_str_new
  (meets_str_new (S:=λ V R k=>V.units+1<cLine/\k.heap=s.heap/\R (.ok (.ret (.str m b))) k)
   λ _ _ V _ k W=>by
    obtain⟨h',g',d',t',a0⟩:=k;obtain⟨Z,h,L⟩:=W;simp only at h;subst h;exact T5 (A:=V.in1) Z S U Y o T H N he hc hd h0 ht L)
  ⟨(show A.units+1+1<cLine from M),rfl,GO _ _ _,hq⟩
end
section
variable {A:Around}{E:B3}
variable {C:Addr}
theorem Qf {os:OsState}{M:Model}{sub:List Value}{e:Addr}{m:Obj}{b:Bool}{n:Bool->Shared->Prop}(H:h.get? C=some (excClassObj nm q C I J v p L sub R x S T U Y k3 k5 j))(o:h.get? c=some (excClassObj y q' c N' z a l B r D u G j0 j1 j2 j3 j5 i))
 (N:h.get? e=some m) (s:m.cls=.ref C) (k:a.contains (.type "BaseException")=true) (O:(Value.ref C::v).contains (.ref c)=b) (Q:n b ⟨h,g,d,t,os⟩):
 wpAny M A (excMatches (.ref e) (.ref c)) n E ⟨h,g,d,t,os⟩:=by
 have w:(Value.ref c::a).contains (.type "BaseException")=true:=by rw[Hp,k,Bool.or_true]
 have f:=tc_notTuple;unfold excMatches
 repeat (first |(with_reducible refine Gh N ?_;rw[s]) |with_reducible refine Gh o ?_ |(with_reducible refine wpAny_isSubtype_exc o ?_;rw[w]) |(with_reducible refine wpAny_isSubtype_exc H ?_;rw[O]) |wp_step)
 cases b<;>(wp_walk;exact Q)
end
section
variable {A:Around}{E:B3}{z:Env}{C:A5}
theorem Hu.again {M:Model}{b:Unit->Shared->Prop}(O:a≠.none/\a≠.type "code")(St:AQ W s.heap l)(F:Hu W c s.heap e a v)
 (z:∀h,Hu W c h e a v->AQ W h l->A9 W c h->b () {s with heap:=h}):wpAny M A (setFlight (.ref e) none) b E s:=by
 obtain⟨H,Q,t,n,V,Z,C,d⟩:=id F;cases V with
 |some T=>exact Hu.land O St H Q (d T rfl) Z C λ h N o=>z h N o N.1
 |none=>
  obtain⟨g,i,w,hc,k,j,f⟩:=C;unfold setFlight;refine Ab (BQ w k f ?_);rw[if_neg (by decide)];exact Ag (z s.heap F St H)
variable {a:Addr}{vs:List Value}{c n:Nat}{t:Expr}{g:Array GenState} in
inductive F4 (h:Heap)(e:Addr)(Cv v:Value):Prop
 |mk (oe:Obj) (vs:Array Value) (t:Addr) (n:Nat) (g:h.get? e=some oe) (c:oe.cls=Cv) (d:oe.data=.fields vs) (a:vs[0]? =some (.ref t)) (gt:h.get? t=some (Jk #[v] n))
theorem Hu.is (F:Hu W b h e a v):F4 h e a v:=by
 obtain⟨H,C,t,n,E,s,⟨w,z,o,hc,k,A,_⟩,N⟩:=F;exact⟨w,z,t,n,o,hc,k,A,s⟩
theorem F4.bg (x:F4 h e a v)(F:FI W V z Z X h O)(S:I5 W (C3 V z) h H):F4 H e a v:=by
 obtain⟨Q,i,t,n,C,hc,k,j,l⟩:=x;have A:∀b o,h.get? b=some o->(∀d f,o.data≠.dict d f)->(∀g,o.data≠.cell g)->H.get? b=some o:=λ b o E p r=>S.keep b o (λ q=>by
  rcases q with rfl |⟨x,u,N⟩
  ·obtain⟨m,⟨y,d,f,s,w,_⟩,_⟩:=F.ns;obtain rfl:=AF E s;exact p _ _ w
  ·obtain⟨c,g,B,⟨y,s,w⟩,_⟩:=F.cell x (.inl u);obtain rfl:=AF N B;obtain rfl:=AF E s;exact r _ w) E
 exact⟨Q,i,t,n,A e Q C (λ _ _ q=>by cases Eq.trans (Eq.symm k) q) (λ _ q=>by cases Eq.trans (Eq.symm k) q),hc,k,j,A t _ l (λ _ _ q=>by cases q) λ _ q=>by cases q⟩
theorem F4.bd (x:F4 h e a v)(hc:a≠.none/\a≠.type "frame")(w:A9 W h H):F4 H e a v:=by
 obtain⟨z,A,t,n,s,k,o,C,E⟩:=x;exact⟨z,A,t,n,w.keep s (by rw[k];exact hc.2) (by rw[k];exact hc.1),k,o,C,w.keep E (by simp) (by simp)⟩
theorem XS.putName (B:XB W V z N)(S:XS W V z N Z X s O)(g:AI V x=true)(H:Bj W Z X s.heap v sl)(o:∀d,sl=.own d->∀y e,O.lookup y=some (.own e)->y=x){a:Unit->Shared->Prop}
 (i:∀Q c,XS W V z N Z X {s with heap:=Q,toks:=c} (AN O x sl)->I5 W (C3 V z) s.heap Q->s.toks<=c->a () {s with heap:=Q,toks:=c}):wpAny W.M A (storeName z x v) a E s:=by
 refine FI.n9 S.F (sl:=sl) (DK g).2 (DK g).1 H o λ w k C St h=>?_;refine i w k ⟨C.au λ y j q=>?_,St.s6 N (λ b f=>B.wr b f) S.le,Aa S.tk h,S.fr,S.fc.bj St.cls⟩ St h;rw[Ba] at q;by_cases e:y=x
 ·subst y;rw[if_pos rfl] at q;rw[An];exact q
 ·rw[if_neg e] at q;rw[Ar e];exact q
end
section
variable {A:Around}{E:B3}{z:Env}{C:A5}
theorem YG {Cl:Addr}(V:El W mg x Cl b)(R:A9 W W.h0 s.heap)(Z:A.units+2<cLine)(I:F4 s.heap e (.ref Cl) (.str m a))(c:Q (.str m a) s):
 wpAny W.M A (call (.type "str") [.ref e]) Q E s:=by
 refine C6 λ y d=>?_;obtain⟨nm,q,N,B,H,D,sub,G,f,J,L,M,S,T,U,Y,o,k,g,mN,i,O,j,hN,l,p,w,z,r⟩:=V.cls;obtain⟨oe,vs,t,n,C,hc,h,u,v⟩:=I;refine d ?_;exact YF Z r (R.keep j (by simp[excClassObj]) (by simp[excClassObj])) (Co R hN) w (Ro R z) O.mroIs (p.hasType O.hasBase) C hc h u v c
theorem Up {Cl:Addr}{f:Bool->Shared->Prop}(B:El W mg x Cl j)(w:El W mg i a c)(R:A9 W W.h0 s.heap)(I:F4 s.heap e (.ref Cl) v)(D:(Value.ref Cl::j).contains (.ref a)=b)(G:f b s):
 wpAny W.M A (excMatches (.ref e) (.ref a)) f E s:=by
 obtain⟨nm,q,N,bs,Z,sn,sub,ab,J,dd,k0,k1,k2,k3,k5,Bn,z,k,L,mN,M,Fx,S,hN,T,hT,_⟩:=B.cls;obtain⟨U,q',N',Y,C,a0,l,a1,m,a2,j0,j1,j2,j3,j5,a3,o,h,p,a4,r,H,O,a5,u,Q,_⟩:=w.cls;obtain⟨oe,vs,t,n,V,hc,y,h0,ht⟩:=I;obtain⟨hh,g,d,tk,os⟩:=s;exact Qf (R.keep S (by simp[excClassObj]) (by simp[excClassObj])) (R.keep O (by simp[excClassObj]) (by simp[excClassObj])) V hc (Q.hasType H.hasBase) D G
theorem HE {Cl:Addr}(Gk:Dt W C k mg mb)(B:XB W V z N)(xo:El W mg x Cl y)(L:El W mg m j p)(a3:(Value.ref Cl::y).contains (.ref j)=b)
 (S:XS W V z N Z X {s with heap:=u,toks:=tk0} O) (l0:tk0<=s.toks) (F:Hu W u s.heap e (.ref Cl) v) (St:AQ W s.heap l) (hg:BU V m=true) (hn:AI V n=true) {r:Flow->Shared->Prop}
 (a4:b=true->∀M tk,XS W V z N Z X {s with heap:=M,toks:=tk} (AN O n (.ao (.ref e)))->C9 V z Z X u M->F4 M e (.ref Cl) v->AQ W M l->s.toks<=tk->
  wpAny W.M (A.mark (some (.ref e))) (execs (g::c) z) (λ f w=>wpAny W.M A (do bindName z n .none;unbindBehindTheSuite z n t) (λ _ R=>r f R) E w) (λ _ _=>False) {s with heap:=M,toks:=tk})
 (a5:b=false->wpAny W.M A (handleBy (.ref e) z i) r E s):
 wpAny W.M A (handleBy (.ref e) z (.ExceptHandler (some (.Name m D)) (some n) (g::c) t::i)) r E s:=by
 have H:XS W V z N Z X s O:=S.ac F.1 l0;have Q:=H.gd B;refine wpAny_handleBy_cons (codeAny_handlers_test (BK Gk H.F Q hg (.inl L.na) ?_)) (by intro q;contradiction);refine Up xo L Q.al F.is a3 ?_;cases b with
 |false=>exact a5 rfl
 |true=>
  refine codeAny_handlers_suite_as (F.again (by simp) St λ T U I G=>?_);have o:XS W V z N Z X {s with heap:=T} O:=S.ac (tk:=s.toks) G l0;refine o.putName B hn (sl:=.ao (.ref e)) rfl (λ d q=>(by contradiction)) λ Y J a0 h a1=>?_;exact C5 (a4 rfl Y J a0 ((A9.aj G).trans (h.aj λ a ha=>o.F.bq ha)) (U.is.bg o.F h) (I.bj h.cls) a1) (λ f w a2=>a2) λ _ _ f=>f.elim
theorem OH {c:Unit->Shared->Prop}(O:b≠.none/\b≠.type "code")(H:A.frames=some (z::a))(St:AQ W s.heap (z::a))(F:Hu W d s.heap e b v)
 (Q:∀N,Hu W d N e b v->AQ W N (z::a)->c () {s with heap:=N}):wpAny W.M A (noteFrame (.ref e) z) (λ _ k=>wpAny W.M A (setFlight (.ref e) none) c E k) f s:=
 F.qk O H St λ o t n T w V h Z C=>Hu.land (s:={s with heap:=o}) O h w F.rf V Z C Q
end
section
variable {A:Around}{E:B3}{z:Env}{C:A5}
theorem FI.ao (F:FI W V z Z X s.heap O)(k:O.lookup x=some (.ao v))(o:Q v s):wpAny W.M A (eval (.Name x a) z) Q E s:=by
 obtain⟨u,h,w⟩:=F.at k;have:u=v:=w;subst this;exact F.ms k h o
theorem PH (F:FI W V z Z X s.heap O)(p:O.lookup x=some (.ao v))(q:B1 b=true)(r:B1 a=true)(u:CC W A (eval b z) s (λ v w=>Rp W X w v e))
 (y:∀k h,A9 W s.heap k->s.toks<=h->CC W A (eval a z) {s with heap:=k,toks:=h} (λ v w=>Rp W X w v d))
 (B:∀w m t n v2 v3,A9 W s.heap w->s.toks<=m->s.heap.get? t=none->w.get? t=some (Jk #[v,v2,v3] n)->Rp W X w v2 e->Rp W X w v3 d->Q (.ref t) {s with heap:=w,toks:=m}):
 wpAny W.M A (eval (.Tuple [.Name x f,b,a] g c) z) Q E s:=by
 rw[Ik,A7 c z [.Name x f,b,a] (by rw[Ct,Ct,Ct,q,r];rfl)];refine Ab (AL (Ab ?_));refine Ap (F.ao p ?_);refine Ap (u _ _ λ v2 k h C H D=>?_);refine Ap (y k h C H _ _ λ v3 o i N j G=>?_);refine AR ?_;have l:A9 W s.heap o:=C.trans N;have I:s.heap.get? o.objs.size=none:=by
  exact A9.bf l (Bv _)
 refine BJ (B _ i o.objs.size 0 v2 v3 (l.trans (.push _ _)) (Aa H j) I (Ak _ rfl) ((D.ac N).ac (.push _ _)) (G.ac (.push _ _))) (by show 3<=sizeLine;simp[sizeLine])
theorem IU (F:FI W V z Z X s.heap O)(h:O.lookup x=some (.aa d)):CC W A (eval (.Name x a) z) s (λ v k=>Rp W X k v d):=
 λ Q E o=>F.name h λ v r=>o v s.heap s.toks (.refl _) (Ah _) r
theorem QT (F:FI W V z Z X s.heap O)(t:O.lookup x=some (.aa (.list a)))(y:B1 e=true)(B:CC W A (eval e z) s (λ v p=>Rp W X p v d))(D:a.length+1<=Bf):
 CC W A (eval (.BinOp (.Name x f) .Add (.List [e] b) c) z) s (λ v p=>Rp W X p v (.list (a++[d]))):=λ Q E G=>by
 refine Ja (F.name t λ v I=>?_);rw[arm_eval_List,A7 b z [e] (by simp[y])];refine Ab (AL (Ab (Ap (B _ _ λ u N o h g J=>AR ?_))));refine CC.newList (s:={s with heap:=N,toks:=o}) (F.ac h).am (RpL.bp J) (by simp[Bf]) _ _ λ w i C k j q=>?_;have L:FE .Add (.list a) (.list [d])=some (.list (a++[d])):=Mh D;exact JU (s:={s with heap:=i,toks:=C}) ((F.ac h).ac k).am ((Rp.ac h I).ac k) q L _ _ λ v3 l H m n r=>G v3 l H ((h.trans k).trans m) (Aa g (Aa j n)) r
theorem Kl {Cl:Addr}(h:Dt W C k mg mb)(F:FI W V z Z X s.heap O)(G:Gd W s)(o:O.lookup n=some (.ao (.ref e)))(w:BU V "str"=true)(H:El W mg x Cl d)(N:A.units+2<cLine)
 (I:F4 s.heap e (.ref Cl) (.str m b)) (g:Q (.str m b) s):wpAny W.M A (eval (.Call (.Name "str" f) [.Name n a] [] c) z) Q E s:=by
 refine Bu (BK h F G w (.inr (h.blt .str)) ?_);rw[A7 c z [.Name n a] rfl];refine GR rfl (AV (Ap (F.ao o (AR ?_))));exact YG H G.al N I g
end
variable {es:List (Str×PV)}{hs:Heap}{p:Evs} in
structure SV where
 es:List Expr:=[]
 bs:List (List Stmt):=[]
 hs:List ExceptHandler:=[]
 sc:Scope:=default
 p:Pos:=default
 nm:Str:=""
 ar:Arguments:=default
variable {a f:Addr}{v:Value}{c d:List PV}{i:Nat}{t:Expr}{es:List (Str×PV)}{hs:Heap}{p:Evs} in
noncomputable def Fz:Stmt->SV
 | .FunctionDef nm ar b c _ _ sc _ _ p=>{es:=c,bs:=[b],sc,p,nm,ar}
 | .AsyncFunctionDef _ _ b c _ _ sc _ _ p=>{es:=c,bs:=[b],sc,p}
 | .ClassDef _ d _ b _ _ sc _ _ _ p=>{es:=d,bs:=[b],sc,p}
 | .Return o p=>{es:=o.toList,p}
 | .Delete d p=>{es:=d,p}
 | .Assign h v p=>{es:=v::h,p}
 | .TypeAlias a _ b sc _ _ p=>{es:=[a,b],sc,p}
 | .AugAssign a _ b p=>{es:=[a,b],p}
 | .AnnAssign a b o _ p=>{es:=a::b::o.toList,p}
 | .For t i b o p=>{es:=[t,i],bs:=[b,o],p}
 | .AsyncFor t i b o p=>{es:=[t,i],bs:=[b,o],p}
 | .While t b o p=>{es:=[t],bs:=[b,o],p}
 | .If t b o p=>{es:=[t],bs:=[b,o],p}
 | .With _ b p=>{bs:=[b],p}
 | .AsyncWith _ b p=>{bs:=[b],p}
 | .Match a _ p=>{es:=[a],p}
 | .Raise a b p=>{es:=a.toList++b.toList,p}
 | .Try b hs o f p=>{bs:=[b,o,f],hs,p}
 | .TryStar b hs o f p=>{bs:=[b,o,f],hs,p}
 | .Assert a o p=>{es:=a::o.toList,p}
 | .Import _ p=>{p}
 | .ImportFrom _ _ _ p=>{p}
 | .Global _ p=>{p}
 | .Nonlocal _ p=>{p}
 | .Expr e p=>{es:=[e],p}
 | .Pass p=>{p}
 | .Break p=>{p}
 | .Continue p=>{p}
noncomputable def EV.x (v:EV)(i:Nat):Expr:=v.es.getD i default
noncomputable def SV.x (v:SV)(i:Nat):Expr:=v.es.getD i default
noncomputable def EV.e (v:EV)(i:Nat):EV:=Ha (v.x i)
noncomputable def SV.e (v:SV)(i:Nat):EV:=Ha (v.x i)
noncomputable def SV.b (v:SV)(i:Nat):List Stmt:=v.bs.getD i []
noncomputable def JJ (b:List Stmt)(i:Nat):SV:=Fz (b.getD i (.Pass default))
noncomputable def Bi (p:Program)(i:Nat):List Stmt:=(JJ p.main.body i).b 0
section
variable {A:Around}{E:B3}{z:Env}{C:A5}
theorem XS.qm (h:XB W V z s.heap)(S:XS W V z s.heap Z X {s with heap:=c,toks:=b} O)(w:∀o A,s.heap.get? B=some o->o.data≠.fields A)(C:W.h0.get? B=none):
 XB W V z (E2 s.heap B)/\XS W V z (E2 s.heap B) Z X {s with heap:=c,toks:=b} O:=
 ⟨⟨Of h.al C w,Ke h.oz w,λ a k=>JM (h.wr a k)⟩,⟨S.F,O6.trans S.le,S.tk,λ a k E=>JM (S.fr a k E),S.fc⟩⟩
end
noncomputable def Rz {a:Type}(k:Bl)(A:Around)(t:Sem a)(h:Shared)(H:List Env)(Cl:Addr)(o:Str):Prop:=
 ∀(Q:a->Shared->Prop)(E:B3),(∀s w e t,h.toks<=w->PyData.strOk o=true->o.length<=Bf->Hu k h.heap s e (.ref Cl) (.str o t)->AQ k s H->E (.ref e) {h with heap:=s,toks:=w})->wpAny k.M A t Q E h
section
variable {A:Around}{E:B3}{z:Env}{C:A5}{w:Str}
theorem Rz.aq {Cl:Addr}{c:Type}{t:Sem c}{b:Heap}(h:A9 W s.heap b)(k:s.toks<=a)(R:Rz W A t {s with heap:=b,toks:=a} f Cl w){d:c->Shared->Prop}
 (z:∀o tk e t,s.toks<=tk->PyData.strOk w=true->w.length<=Bf->Hu W s.heap o e (.ref Cl) (.str w t)->AQ W o f->E (.ref e) {s with heap:=o,toks:=tk}):wpAny W.M A t d E {s with heap:=b,toks:=a}:=
 R d E λ o tk e t l C z1 F St=>z o tk e t (Aa k l) C z1 (F.qr h) St
theorem ZA {Cl:Addr}(h:B1 e=true)(k:Rz W A (eval e z) s b Cl w):Rz W A (eval (.List [e] a) z) s b Cl w:=λ Q E o=>by
 rw[arm_eval_List,A7 a z [e] (by simp[h])];exact Ab (AL (Ab (Ap (k _ _ o))))
theorem hO {Cl:Addr}(F:FI W V z Z X s.heap O)(h:O.lookup x=some (.aa d))(k:Rz W A (eval e z) s c Cl w):Rz W A (eval (.BinOp (.Name x f) b e a) z) s c Cl w:=λ Q E o=>
 Ja (F.name h λ v C=>k _ _ o)
theorem dJ {Cl:Addr}(F:FI W V z Z X s.heap O)(h:O.lookup x=some (.ao v))(k:B1 b=true)(o:B1 a=true)(C:Rz W A (eval b z) s d Cl w):Rz W A (eval (.Tuple [.Name x e,b,a] f c) z) s d Cl w:=λ Q E H=>by
 rw[Ik,A7 c z [.Name x e,b,a] (by simp only[Ct,Ct,Ct,k,o];rfl)];exact Ab (AL (Ab (Ap (F.ao h (Ap (C _ _ H))))))
theorem dT {Cl:Addr}(h:Rz W A (eval e z) s a Cl w):Rz W A (exec (.Return (some e) b) z) s a Cl w:=λ Q E k=>CR (h _ _ k)
theorem M5 {Cl:Addr}{st:Stmt}(h:Rz W A (exec st z) s a Cl w):Rz W A (execs (st::r) z) s a Cl w:=λ Q E k=>Aj (h _ _ k)
end
structure HS (W:Bl)(sc:Scope)(env:Env)(hb:Heap)(Z X:List Addr)(D:Addr)(es:List (Str×PV))(l:List Env)(s:Shared)(ρ:AM):Prop where
 S:XS W sc env hb Z X s ρ
 dD:Bo W X s.heap D (.dict es)
 St:AQ W s.heap l
 zD:D∈Z
 fD:D∉Ay env
 bD:hb.get? D=none
section
variable {A:Around}{E:B3}{z:Env}{C:A5}
theorem HS.ac (h:HS W V z N Z X D a l s O)(K:A9 W s.heap H)(k:s.toks<=tk):HS W V z N Z X D a l {s with heap:=H,toks:=tk} O:=⟨h.S.ac K k,h.dD.ac K,h.St.bd K,h.zD,h.fD,h.bD⟩
theorem HS.pa (h:HS W V z N Z X D a l s O):¬C3 V z D:=λ q=>h.fD (by
 rcases q with q |⟨x,_,q⟩
 ·exact q▸Ac
 ·exact BP q)
theorem HS.bg (h:HS W V z N Z X D c l s O)(k:XS W V z N Z X {s with heap:=H,toks:=d} b)(K:I5 W (C3 V z) s.heap H):HS W V z N Z X D c l {s with heap:=H,toks:=d} b:=
 ⟨k,h.dD.bg K (λ a o=>h.S.F.bq o) h.pa,h.St.bj K.cls,h.zD,h.fD,h.bD⟩
theorem RZ (G:A.handled=none)(B:XB W V z N)(Q:HS W V z N Z X D p l s O)(I:O.lookup y=some (.ao (.ref T)))(J:s.heap.get? T=some (Jk #[b,v1,v2] n))(L:Rp W X s.heap v1 d1)(M:Rp W X s.heap v2 d2)
 (H:(AI V a&&AI V c&&AI V e)=true) {g:Flow->Shared->Prop}
 (R:∀x v,HS W V z N Z X D p l {s with heap:=x,toks:=v} (AN (AN (AN O a (.ao b)) c (.aa d1)) e (.aa d2))->s.toks<=v->g .next {s with heap:=x,toks:=v}):
 wpAny W.M A (exec (.Assign [.Tuple [.Name a i,.Name c j,.Name e m] r f] (.Name y u) t) z) g E s:=by
 rw[As,As] at H;refine BA (t:=.Tuple [.Name a i,.Name c j,.Name e m] r f) rfl rfl rfl (Q.S.F.ao I ?_);refine XS.qe (xs:=[(a,i),(c,j),(e,m)]) (vs:=[b,v1,v2]) (sls:=[.ao b,.aa d1,.aa d2]) G B Q.S J (by simp[H.1.1,H.1.2,H.2]) rfl ⟨rfl,(λ d q=>nomatch q),L,(λ d q=>nomatch q),M,(λ d q=>nomatch q),trivial⟩ rfl λ o h w k C=>?_;exact R o h (Q.bg w k) C
end
set_option genInjectivity false
set_option genSizeOfSpec false
theorem Xh {b:Bool}{x d:PV}(h:(if b then some x else none)=some d):b=true/\x=d:=by
 cases b with
 |false=>cases h
 |true=>exact⟨rfl,Au h⟩
theorem IE {p:Prop} [Decidable p] {a:Type}{x d:a}(h:(if p then some x else none)=some d):p/\x=d:=by
 by_cases q:p
 ·rw[if_pos q] at h;exact⟨q,Au h⟩
 ·rw[if_neg q] at h;cases h
theorem Kc {x:Str}(h:J2 x=true):PyData.strOk x=true/\x.length<=Bf:=⟨(Ai.mp h).1,of_decide_eq_true (Ai.mp h).2⟩
structure Pt (C:A5)(sc:Scope)(ρ:AM) where
 W:Bl
 A:Around
 env:Env
 Z:List Addr
 X:List Addr
 k:Nat
 mg:Str->Option Value
 mb:Str->Option Value
 Gk:Dt W C k mg mb
 hA:Cc k A
section
variable {C:A5}{α β:Type}
noncomputable def Pt.J (c:Pt C V O)(t:Sem α)(P:α->Heap->Prop):Prop:=∀s,FI c.W V c.env c.Z c.X s.heap O->Gd c.W s->CC c.W c.A t s P
variable {r:List Stmt}{q:Pos} in
structure Pt.St (c:Pt C V O)(vs:List Value)(ds:List PV)(P:α->Heap->Prop)(Q:α->Shared->Prop)(s:Shared):Prop where
 F:FI c.W V c.env c.Z c.X s.heap O
 G:Gd c.W s
 r:RpL c.W c.X s.heap vs ds
 q:∀a h' tk,A9 c.W s.heap h'->s.toks<=tk->P a h'->Q a {s with heap:=h',toks:=tk}
variable {c:Pt C V O}{P:α->Heap->Prop}{Q:α->Shared->Prop}{E:B3}
theorem Pt.J.mk (h:∀Q E s,c.St [] [] P Q s->wpAny c.W.M c.A t Q E s):c.J t P:=λ s F G Q E q=>h Q E s ⟨F,G,.nil,q⟩
theorem Pt.St.aq (S:c.St b d P Q s)(k:A9 c.W s.heap h)(l:s.toks<=tk):c.St b d P Q {s with heap:=h,toks:=tk}:=
 ⟨S.F.ac k,S.G.step k l,S.r.ac k,λ a w o C E=>S.q a w o (k.trans C) (Aa l E)⟩
theorem Pt.St.og (S:c.St a b P Q s)(h:CC c.W c.A t s P):wpAny c.W.M c.A t Q E s:=h Q E S.q
theorem Pt.St.out (S:c.St b d P Q s)(h:P a s.heap):Q a s:=S.q a s.heap s.toks (.refl _) (Ah _) h
theorem Pt.St.qh (S:c.St b d P Q s)(h:P a s.heap):Q a {s with toks:=s.toks+1}:=S.q a s.heap _ (.refl _) (A8 _) h
theorem Pt.St.alive (S:c.St b d P Q s):∀a∈c.X,∃o,s.heap.get? a=some o:=S.F.am
theorem Pt.St.r1 (S:c.St (v::b) (d::e) P Q s):Rp c.W c.X s.heap v d:=by cases S.r with |cons a _=>exact a
theorem Pt.St.t6 (S:c.St (v::b) (d::e) P Q s):c.St b e P Q s:=⟨S.F,S.G,by cases S.r with |cons _ a=>exact a,S.q⟩
theorem Pt.St.r2 (S:c.St (v::a::b) (d::e::f) P Q s):Rp c.W c.X s.heap a e:=S.t6.r1
noncomputable abbrev Pt.Is (c:Pt C V O)(d:PV)(v:Value)(h:Heap):Prop:=Rp c.W c.X h v d
theorem Pt.J.go (j:c.J t (c.Is d))(S:c.St b e P Q s)(k:∀v s,c.St (v::b) (d::e) P Q s->a v s):wpAny c.W.M c.A t a E s:=
 j s S.F S.G a E λ v h w o l r=>let T:=S.aq o l;k v _ ⟨T.F,T.G,.cons r T.r,T.q⟩
theorem Pt.J.bo {R:β->Heap->Prop}(j:c.J t R)(S:c.St b d P Q s){a:β->Shared->Prop}(w:∀v k,c.St b d P Q k->A9 c.W s.heap k.heap->R v k.heap->a v k):wpAny c.W.M c.A t a E s:=
 j s S.F S.G a E λ v h C o l r=>w v _ (S.aq o l) o r
theorem Pt.St.th (S:c.St b d P Q s){a:β->Shared->Prop}(k:∀(Q:β->Shared->Prop)(E:B3),(∀h,Q v {s with toks:=h})->wpAny c.W.M c.A t Q E s)(C:∀o,c.St b d P Q o->a v o):wpAny c.W.M c.A t a E s:=
 CC.of (P:=λ w k=>w=v) (λ Q E H=>k Q E λ h=>H _ _ h (.refl _) rfl) a E λ w k h N l e=>e▸C _ (S.aq N l)
noncomputable def CE (h:A5)(k:Scope)(o:AM)(e:Expr)(d:PV):Prop:=∀c:Pt h k o,c.J (eval e c.env) (c.Is d)
noncomputable def I4 (h:A5)(k:Scope)(o:AM)(e:Expr)(b:Bool):Prop:=∀c:Pt h k o,c.J (isTrue e c.env (eval e c.env)) λ s _=>s=b
noncomputable def LJ (k:A5)(o:Scope)(s:AM)(e:Expr)(w:List PV):Prop:=Ix e=true/\∀c:Pt k o s,c.J (eval e c.env) λ v h=>dC c.W c.X h v w
noncomputable def Q8 (c:Bl)(k X:List Addr)(h:Heap)(v:Value)(d:PV):Prop:=Rp c X h v d\/∃a,v=.ref a/\a∉k/\Bo c X h a d
theorem Q8.at (b:Q8 W Z X h v d)(c:A9 W h H):L2 W X H v d:=b.imp (λ r=>r.ac c) λ⟨a,e,_,r⟩=>⟨a,e,r.ac c⟩
noncomputable def Vv (k:A5)(o:Scope)(s:AM)(e:Expr)(d:PV):Prop:=∀c:Pt k o s,c.J (eval e c.env) λ v h=>Q8 c.W c.Z c.X h v d
noncomputable def Yq (h:A5)(k:Scope)(o:AM)(e:Option Expr)(s:Option Int):Prop:=∀c:Pt h k o,c.J (evalPart e c.env) λ v _=>IsPart v s
noncomputable def Q9 (o:A5)(s:Scope)(w:AM)(k:List Expr)(C:List PV):Prop:=k.all B1=true/\∀c:Pt o s w,c.J (spliced (k.map λ e=>(false,eval e c.env))) λ E h=>RpL c.W c.X h E C
noncomputable def Yk (h:A5)(k:Scope)(o:AM)(s:BoolOp)(w:List Expr)(b:Bool):Prop:=∀c:Pt h k o,c.J (allTrue s w c.env) λ C _=>C=b
theorem CE.at (c:CE C V O e d)(h:Dt W C k mg mb)(o:Cc k A)(F:FI W V a Z X s.heap O)(G:Gd W s):CC W A (eval e a) s (λ v c=>Rp W X c v d):=c ⟨W,A,a,Z,X,k,mg,mb,h,o⟩ s F G
theorem I4.at (c:I4 C V O e d)(h:Dt W C k mg mb)(o:Cc k A)(F:FI W V a Z X s.heap O)(G:Gd W s):CC W A (isTrue e a (eval e a)) s (λ v _=>v=d):=c ⟨W,A,a,Z,X,k,mg,mb,h,o⟩ s F G
theorem CE.name (h:Oe C V O x=some d):CE C V O (.Name x p) d:=λ c s F G=>RK c.Gk F G h
theorem CE.aa (h:O.lookup x=some (.aa d)):CE C V O (.Name x p) d:=λ c=>.mk λ Q E s S=>S.F.name h λ v r=>S.out r
theorem CE.af (h:XV t=some d):CE C V O (.Constant t a p) d:=λ c=>.mk λ Q E s S=>by
 cases t with
 |none=>cases h;exact wpAny_Constant_none (S.out .none)
 |bool b=>cases h;exact wpAny_Constant_bool (S.out (.bool _))
 |int i=>cases h;exact wpAny_Constant_int (S.qh (.int _ _))
 |str x=>
  obtain⟨q,rfl⟩:=Xh h;exact FM (S.qh (.str _ _ (Kc q).1 (Kc q).2))
 |_=>cases h
theorem CE.int:CE C V O (.Constant (.int i) kk p) (.int i):=.af rfl
theorem CE.ai (h:CE C V O l a)(k:CE C V O r b)(o:FE e a b=some d):CE C V O (.BinOp l e r p) d:=λ c=>.mk λ Q E s S=>
 Ja ((h c).go S λ v s S=>(k c).go S λ w s S=>S.og (JU S.alive S.r2 S.r1 o))
theorem CE.p0 (k:I4 C V O t b')(o:CE C V O (if b' then a else b) d):CE C V O (.IfExp t a b p) d:=λ c=>.mk λ Q E s S=>
 wpAny_IfExp ((k c).bo S λ v w h _ e=>by subst e;cases v<;>exact h.og (o c w h.F h.G))
theorem Vv.own (h:O.lookup x=some (.own d)):Vv C V O (.Name x p) d:=λ c=>.mk λ Q E s S=>S.F.name h λ v r=>S.out (.inr (by obtain⟨a,e,_,z,r⟩:=r;exact⟨a,e,z,r⟩))
theorem Vv.bh (h:CE C V O e d):Vv C V O e d:=λ c s F G=>(h c s F G).ac λ _ _ _ r=>.inl r
theorem CE.sub (N:Vv C V O v b)(W:CE C V O i kd)(Z:∀h H,subscripted i false h H=operate [h,H] (getItem h H))(a:Dd b kd=some d):CE C V O (.Subscript v i p) d:=λ c=>.mk λ Q E s S=>
 Subscript_ ((N c).bo S λ o s S _ e=>(W c).bo S λ w s S k rw=>S.og (Rr (e.at k) rw a v i Z))
theorem Yq.no:Yq C V O none none:=λ c=>.mk λ Q E s S=>wpAny_evalPart_none (S.out .none)
theorem Yq.int (h:CE C V O e (.int i)):Yq C V O (some e) (some i):=λ c=>.mk λ Q E s S=>
 wpAny_evalPart_some ((h c).bo S λ v s S _ r=>S.out (by obtain⟨t,q⟩:=r.ah;exact q▸.int _ _))
theorem N5 (lo k st:Option Expr)(o:Pos)(h:Value)(a:Addr):∃c,subscripted (.Slice lo k st o) false h (.ref a)=operate c (getItem h (.ref a)):=by
 cases st<;>exact⟨_,rfl⟩
theorem CE.slice {p:Pos}{v:Expr}{lo a st:Option Expr}{e:Pos}{b d:PV}{l u t:Option Int}(k:Vv C V O v b)(w:Yq C V O lo l)(H:Yq C V O a u)(N:Yq C V O st t)(W:Cz b l u t=some d):CE C V O (.Subscript v (.Slice lo a st e) p) d:=λ c=>.mk λ Q E s S=>
 Subscript_ ((k c).bo S λ o s S _ Z=>wpAny_Slice ((w c).bo S λ f s S g i=>(H c).bo S λ j s S m n=>(N c).bo S λ q s S r x=>
  let h:A9 c.W s.heap (s.heap.push {cls:=.type "slice",data:=.fields #[f,j,q]}):=.push _ _
  let T:=S.aq h (Ah s.toks)
  T.og (OO (Z.at (((g.trans m).trans r).trans h)) T.alive ⟨_,Ak _ rfl,rfl,rfl⟩ i n x W v _ (N5 lo a st e _ _).choose_spec)))
theorem Q9.nil:Q9 C V O [] []:=⟨rfl,λ c=>.mk λ Q E s S=>AR (S.out .nil)⟩
theorem Q9.cons (o:CE C V O e d)(h:Q9 C V O a b)(w:B1 e=true):Q9 C V O (e::a) (d::b):=
 ⟨by rw[Ct,w,h.1];rfl,λ c=>.mk λ Q E s S=>Ap ((o c).bo S λ v s S _ r=>(h.2 c).bo S λ N s S k H=>S.out (.cons (r.ac k) H))⟩
theorem CE.list (h:Q9 C V O a b)(k:b.length<=Bf):CE C V O (.List a p) (.list b):=λ c=>.mk λ Q E s S=>by
 rw[arm_eval_List,A7 p c.env a h.1];exact Ab (AL (Ab ((h.2 c).bo S λ vs s S _ r=>S.og (CC.newList S.alive r k))))
theorem CE.aw (h:Q9 C V O a b)(k:b.length<=Bf):CE C V O (.Tuple a d p) (.aw b):=λ c=>.mk λ Q E s S=>by
 rw[Ik,A7 p c.env a h.1];exact Ab (AL (Ab ((h.2 c).bo S λ o s S _ r=>S.og (CC.newTuple S.alive r k))))
theorem Q9.pg (k:Q9 C V O d e)(S:c.St a b P Q s){R:Args->Shared->Prop}
 (w:∀o h,c.St a b P Q h->A9 c.W s.heap h.heap->RpL c.W c.X h.heap o e->R ⟨o,[]⟩ h):wpAny c.W.M c.A (evalArgs f true (backTo p (starEach d c.env)) []) R E s:=by
 rw[A7 p c.env d k.1];exact Km d ((k.2 c).bo S w)
theorem CE.blt (N:(BU V x&&(O.lookup x).isNone)=true)(W:lO x=some b)(w:Q9 C V O args ds)(Z:QW b ds=some d):CE C V O (.Call (.Name x q) args [] p) d:=λ c=>.mk λ Q E s S=>by
 have g:=Ve W;subst g;refine Bu (BK c.Gk S.F S.G (Ai.mp N).1 (.inr (c.Gk.blt b)) ?_);have h:∀f,f=b.val->wpAny c.W.M c.A (evalArgs f true (backTo p (starEach args c.env)) []) (λ a o=>wpAny c.W.M c.A (call f ([]++a.pos) a.kw) Q E o) E s:=λ f e=>
  w.pg S λ i s S k r=>e▸S.og (Sq c.hA.handled S.alive r Z)
 have H:((backTo p (starEach args c.env))).any (·.1)=false:=by rw[A7 p c.env args w.1];exact Lc args
 rcases X9 b with⟨id,e⟩ |⟨T,e⟩
 ·exact e▸Dn H (h _ e.symm)
 ·exact e▸GR H (h _ e.symm)
theorem CE.fn {g:List PV->Option PV}(W:(BU V x&&(O.lookup x).isNone)=true)(Z:C.fn x=some g)(b:Q9 C V O args ds)(e:g ds=some d):CE C V O (.Call (.Name x q) args [] p) d:=λ c=>.mk λ Q E s S=>by
 obtain⟨a,o,f,i,j,l,H,N,h⟩:=c.Gk.fn x g Z;refine Bu (BK c.Gk S.F S.G (Ai.mp W).1 (.inl i) ?_);exact B5 (o:=o) (fd:=f) (b.pg S λ m n w k r=>⟨⟨w.G.al.keep j H N,l⟩,w.og (h c.A n c.X ds m d c.hA w.G w.F.alive r e)⟩)
theorem CE.bn {ds:List PV}{p:Pos}{e:Expr}{name:Str}{a:Pos}{args:List Expr}{b d:PV}{mf:MF}(hk:(RJ e&&(a.endLine==p.line))=true)(W:jZ name=some mf)(Z:CE C V O e b)(h:Q9 C V O args ds)(f:args.length<20)(H:Iy mf b ds=some d):CE C V O (.Call (.Attribute e name a) args [] p) d:=λ c=>.mk λ Q E s S=>by
 have o:=Un W;subst o;have mt:=Uo H;have N:=Ai.mp hk;refine wpAny_Call_method (T:=mf.ty) (id:=mf.id) (OA N.1 _ c.env) (Kk _ p h.1 f) N.2 mf.plain mf.slot mf.ue ((Z c).bo S λ v s S g w=>⟨(OS w mt).1 _ rfl,(OS w mt).2,?_⟩);exact Dn (by rw[A7 p c.env args h.1];exact Lc args) (h.pg S λ i s S k r=>S.og (Qd S.alive (w.ac k) r H))
theorem CE.sg {p:Pos}{a:Pos}{x z:Str}(hk:(RJ b&&(a.endLine==p.line))=true)(H:CE C V O b (.str x))(hc:(J2 y&&J2 z&&!(y==z)&&decide (x.length+(x.length+1)*z.length<=16777216)&&J2 (Txt.replace x y z))=true):
 CE C V O (.Call (.Attribute b "replace" a) [.Constant (.str y) d f,.Constant (.str z) e g] [] p) (.str (Txt.replace x y z)):=λ c=>.mk λ Q E s S=>by
 have w:=Ai.mp hk;rw[As,As,As,FJ,decide_eq_true_eq] at hc;obtain⟨⟨⟨_,N⟩,W⟩,h⟩:=hc;have h:=Kc h;refine wpAny_Call_method (T:="str") (id:="str.replace") (OA w.1 _ c.env) (Kk _ p rfl (show 2<20 by decide)) w.2 PySem.F.plainAttrs_str PySem.F.slot_str_replace PySem.F.type_str_replace ((H c).bo S λ v s S i o=>⟨(OS o (.inl ⟨_,rfl,rfl⟩)).1 _ rfl,(OS o (.inl ⟨_,rfl,rfl⟩)).2,?_⟩);obtain⟨t,rfl,_⟩:=o.ah;rw[A7 p c.env _ rfl];refine Dn rfl (AV (Ap (FM (Ap (FM (AR ?_))))));exact(S.aq (tk:=s.toks+1+1) (.refl _) (Bp (A8 _))).og (.of λ Q E Z=>SC.replace (Cm S.G.toks) (Nat.succ_ne_zero _) (BN (DV _)) N W λ j k=>Z _ _ k (.refl _) (.str _ _ h.1 h.2))
theorem Pr {R:Pt C V O->Value->Heap->Prop}(W:CE C V O l a)(Z:∀c:Pt C V O,c.J (eval r c.env) (R c))(e:∀(c:Pt C V O) v h,R c v h->Rp c.W c.X h v b\/((d=.In\/d=.NotIn)/\L2 c.W c.X h v b))(f:Ix r=true)(h:H8 d a b=some t):
 I4 C V O (.Compare l [d] [r] p) t/\CE C V O (.Compare l [d] [r] p) (.bool t):=
 have g:∀c:Pt C V O,c.A.units<9000:=λ c=>Av (Bq _ _) c.hA.units
 ⟨λ c=>.mk λ Q E s S=>Lg ((W c).bo S λ v s S _ o=>(Z c).bo S λ w s S k rw=>S.th (λ Q E H=>HM (g c) (o.ac k) (e c _ _ rw) h λ N=>H N) λ s S=>CQ (S.out rfl)) (Me f),
  λ c=>.mk λ Q E s S=>wpAny_Compare1 ((W c).bo S λ v s S _ o=>(Z c).bo S λ w s S k rw=>S.th (λ Q E H=>HM (g c) (o.ac k) (e c _ _ rw) h λ N=>H N) λ s S=>S.out (.bool t)) (Me f)⟩
theorem I4.an (h:CE C V O l a)(k:CE C V O r b)(o:Ix r=true)(s:H8 d a b=some t):I4 C V O (.Compare l [d] [r] p) t:=(Pr (R:=λ c=>c.Is b) h k (λ _ _ _ r=>.inl r) o s).1
theorem I4.o4 (k:CE C V O l a)(o:Vv C V O r b)(s:Ix r=true)(w:d=.In\/d=.NotIn)(h:H8 d a b=some t):I4 C V O (.Compare l [d] [r] p) t:=(Pr (R:=λ c v h=>Q8 c.W c.Z c.X h v b) k o (λ _ _ _ r=>.inr ⟨w,r.at (.refl _)⟩) s h).1
theorem CE.an (h:CE C V O l a)(k:CE C V O r b)(o:Ix r=true)(s:H8 d a b=some t):CE C V O (.Compare l [d] [r] p) (.bool t):=(Pr (R:=λ c=>c.Is b) h k (λ _ _ _ r=>.inl r) o s).2
theorem I4.not (h:I4 C V O e b):I4 C V O (.UnaryOp .Not e p) (!b):=λ c=>.mk λ Q E s S=>wpAny_isTrue_Not ((h c).bo S λ v s S _ e=>S.out (e▸rfl))
theorem I4.val {e:Expr}(k:∀h,isTrue e h (eval e h)=(do let v <-eval e h;standAt e.pos;holding [v] (truthy v)))(o:CE C V O e d)(w:Mr d=some b):I4 C V O e b:=λ c=>.mk λ Q E s S=>by
 rw[k];exact Ab ((o c).bo S λ v s S _ r=>Ab (AL (Bk (S.og (Rh r w)))))
theorem I4.name (c:Oe C V O x=some d)(h:Mr d=some b):I4 C V O (.Name x p) b:=.val (λ _=>rfl) (.name c) h
theorem Yk.nil:Yk C V O a [] (a== .And):=λ c=>.mk λ Q E s S=>Ag (S.out rfl)
theorem Yk.n6 (h:I4 C V O x b)(k:b=true->Yk C V O .And a t):Yk C V O .And (x::a) (b&&t):=λ c=>.mk λ Q E s S=>
 wpAny_allTrue_And_cons ((h c).bo S λ v s S _ e=>by subst e;cases v;exact RV (S.out rfl);exact MR (S.og (k rfl c s S.F S.G)))
theorem Yk.ng (h:I4 C V O x b)(k:b=false->Yk C V O .Or a t):Yk C V O .Or (x::a) (b||t):=λ c=>.mk λ Q E s S=>
 wpAny_allTrue_Or_cons ((h c).bo S λ v s S _ e=>by subst e;cases v;exact RV (S.og (k rfl c s S.F S.G));exact MR (S.out rfl))
theorem I4.all (h:Yk C V O a d b):I4 C V O (.BoolOp a d p) b:=λ c=>.mk λ Q E s S=>wpAny_isTrue_BoolOp (S.og (h c s S.F S.G))
theorem LJ.list (h:CE C V O e (.list a))(k:Ix e=true):LJ C V O e a:=⟨k,λ c s F G=>(h c s F G).ac λ _ _ _ r=>.list r⟩
theorem LJ.aw (h:CE C V O e (.aw a))(k:Ix e=true):LJ C V O e a:=⟨k,λ c s F G=>(h c s F G).ac λ _ _ _ r=>.aw r⟩
theorem RD (c:Wh f=some g):(∃b,f=[.int b]/\(0<=b/\b<=100000)/\OV 0 b=g)\/∃a b,f=[.int a,.int b]/\(a<=b/\b-a<=100000/\-1000000<=a/\b<=1000000)/\OV a (b-a)=g:=by
 cases f with
 |nil=>cases c
 |cons d f=>
  obtain⟨a,h,c⟩:=Aq.mp c;cases f with
  |nil=>exact .inl ⟨a,by rw[Kh h],IE c⟩
  |cons e k=>
   obtain⟨b,o,c⟩:=Aq.mp c;cases k with
   |cons _ _=>cases c
   |nil=>exact .inr ⟨a,b,by rw[Kh h,Kh o],IE c⟩
theorem LJ.range (N:BU V "range"=true)(H:Q9 C V O args ds)(W:Wh ds=some d):LJ C V O (.Call (.Name "range" q) args [] p) d:=⟨rfl,λ c=>.mk λ Q E s S=>by
 refine Bu (BK c.Gk S.F S.G N (.inr c.Gk.uq) (GR (by rw[A7 p c.env args H.1];exact Lc args) (H.pg S λ Z s S k r=>?_)));rcases RD W with⟨b,rfl,h,e⟩ |⟨a,b,rfl,h,e⟩
 ·obtain⟨v,rfl,o⟩:=r.tj;obtain⟨t,rfl⟩:=o.ah;refine call_range_1 (S.q _ _ _ (.push _ _) (Bp (A8 _)) ?_);have:=dC.range (W:=c.W) (X:=c.X) (IsRange.new s.heap 0 b 1 s.toks t (s.toks+1)) h.1 (by rw[Int.sub_zero];exact h.2) (by decide) (AT h.2 (by decide));rw[Int.sub_zero] at this;exact e▸this
 ·obtain⟨v,w,rfl,o,rw⟩:=r.ti;obtain⟨t,rfl⟩:=o.ah;obtain⟨u,rfl⟩:=rw.ah;exact call_range_2 (S.q _ _ _ (.push _ _) (A8 _) (e▸dC.range (W:=c.W) (X:=c.X) (IsRange.new s.heap _ _ 1 t u s.toks) h.1 h.2.1 h.2.2.1 h.2.2.2))⟩
end
set_option genInjectivity false
set_option genSizeOfSpec false
section
variable {C:A5}{β:Type}
noncomputable def NA (k:A5)(o:Scope)(s:AM)(h:List Expr)(b:Bool):Prop:=
 ∀c:Pt k o s,c.J (forIn h true λ t r=>if r=true then do let w <-isTrue t c.env (eval t c.env);pure (ForInStep.yield w) else pure (ForInStep.yield r)) λ C _=>C=b
theorem NA.nil:NA C V O [] true:=λ c=>.mk λ Q E s S=>Ag (S.out rfl)
theorem NA.bp (h:I4 C V O e b):NA C V O [e] b:=λ c=>.mk λ Q E s S=>by
 rw[DD];refine Ab ?_;exact Ab ((h c).bo S λ v s S _ e=>Ag (Ag (S.out e)))
variable {xs:List PV}{it:Expr} in
structure NG (C:A5)(sc:Scope)(β:Type) where
 W:Bl
 A:Around
 env:Env
 hb:Heap
 Z:List Addr
 X:List Addr
 k:Nat
 mg:Str->Option Value
 mb:Str->Option Value
 I:Addr
 D:Addr
 xs:List PV
 St:Nat->Heap->Prop
 Acc:List Addr->Heap->List β->Prop
 Gk:Dt W C k mg mb
 hA:Cc k A
 ak:Ym D Acc
 al:A9 W W.h0 hb
 oz:W.ox hb
 wr:∀a,C3 sc env a->hb.get? a=none
 Df:D∉Ay env
 D0:hb.get? D=none
 DZ:D∈Z
 ZX:∀a∈Z,a∈X
 IX:I∉X
 If:I∉Ay env
 Ib:hb.get? I=none
 it:ND W A (I::X) I xs St
variable {tk:Nat}{st:Stmt} in
structure CI (L:NG C V β)(s0:Shared)(i:Nat)(ρ:AM)(ds:List β)(s:Shared):Prop where
 F:FI L.W V L.env (L.I::L.Z) (L.I::L.X) s.heap ρ
 st:L.St i s.heap
 le:A9 L.W L.hb s.heap
 nz:L.Acc (L.I::L.X) s.heap ds
 kb:D4 (λ b=>b=L.I\/b=L.D\/C3 V L.env b) s0.heap s.heap
 tk:s0.toks<=s.toks
 t1:1<=s.toks
 eq:s={s0 with heap:=s.heap,toks:=s.toks}
variable {tk:Nat} in
structure CO (L:NG C V β)(s0:Shared)(ρ:AM)(ds:List β)(s:Shared):Prop where
 F:FI L.W V L.env L.Z L.X s.heap ρ
 le:A9 L.W L.hb s.heap
 nz:L.Acc L.X s.heap ds
 kb:D4 (λ b=>b=L.I\/b=L.D\/C3 V L.env b) s0.heap s.heap
 tk:s0.toks<=s.toks
 eq:s={s0 with heap:=s.heap,toks:=s.toks}
variable {L:NG C V β}{ds:List β}{E:B3}
theorem Im (h:C3 V b a):a∈Ay b:=h.elim (λ e=>e▸Ac) λ⟨_,_,e⟩=>BP e
theorem Dy.cls (h:Dy o):o.cls≠.type "frame"/\o.cls≠.none:=by rcases h with h |h |h<;>rw[h]<;>exact⟨by decide,nofun⟩
theorem CI.gd (c:CI L a i O ds s):Gd L.W s:=⟨L.al.trans c.le,c.le.2 L.oz,c.t1⟩
theorem CI.pw (c:CI L d i O ds s)(w:∀o,o.cls≠.type "frame"->o.cls≠.none->s.heap.get? L.I=some o->h.get? L.I=some o):∀o,s.heap.get? L.I=some o->h.get? L.I=some o:=λ o e=>by
 obtain⟨C,k,a,_,b,_⟩:=L.it.mu i _ c.st;exact w o (by obtain rfl:=AF e k;exact b) (by obtain rfl:=AF e k;exact a) e
theorem CI.rn (c:CI L a i O ds s)(e:s.heap.get? b=some o)(d:Dy o):b≠L.I:=λ q=>by
 obtain⟨w,h,_,_,_,k⟩:=L.it.mu i _ c.st;simp only[q,h] at e;cases e;exact k d
theorem CI.qo {i tk:Nat}{f:Shared}(c:CI L f i O ds s)(k:A9 L.W s.heap h)(l:s.toks<=tk):CI L f i O ds {s with heap:=h,toks:=tk} where
 F:=c.F.ac k
 st:=L.it.frame _ _ _ c.st (c.pw λ o a b e=>k.keep e a b) λ b o _ e d=>CG k e d
 le:=c.le.trans k
 nz:=L.ak.be c.nz (λ b o e w d=>⟨CG k e d,w⟩) λ o e=>by
  obtain⟨E,C,d⟩:=L.ak.obj c.nz;obtain rfl:=AF e C;exact CG k e d
 kb:=c.kb.trans k.nh
 tk:=Aa c.tk l
 t1:=Aa c.t1 l
 eq:=by rw[c.eq]
theorem CI.pc (c:CI L j i O ds s)(F:FI L.W V L.env (L.I::L.Z) (L.I::L.X) h f)(C:A9 L.W L.hb h)(l:s.toks<=m)(k:L.Acc (L.I::L.X) h g)(w:D4 (λ b=>b=L.D\/C3 V L.env b) s.heap h):
 CI L j i f g {s with heap:=h,toks:=m} where
 F:=F
 st:=L.it.frame _ _ _ c.st (c.pw λ o a b e=>w _ o (λ q=>q.elim (λ q=>L.IX (q▸L.ZX _ L.DZ)) λ q=>L.If (Im q)) e a b) λ b o E e d=>w b o (λ q=>E (q.elim (λ q=>q▸Ad _ (L.ZX _ L.DZ)) λ q=>c.F.zx b (c.F.ba b (Im q)))) e d.cls.1 d.cls.2
 le:=C
 nz:=k
 kb:=c.kb.trans (w.weak λ _ q=>.inr q)
 tk:=Aa c.tk l
 t1:=Aa c.t1 l
 eq:=by rw[c.eq]
theorem CI.bg (c:CI L d i O ds s)(F:FI L.W V L.env (L.I::L.Z) (L.I::L.X) h a)(S:I5 L.W (C3 V L.env) s.heap h)(l:s.toks<=f):CI L d i a ds {s with heap:=h,toks:=f}:=
 c.pc F (S.s6 _ L.wr c.le) l (L.ak.be c.nz (λ b o e k _=>⟨S.keep b o (λ q=>k (c.F.zx b (c.F.ba b (Im q)))) e,k⟩) λ o e=>S.keep _ o (λ q=>L.Df (Im q)) e) (S.nh.weak λ _ q=>.inr q)
theorem CI.step {i j tk:Nat}{f:Shared}(c:CI L f i O ds s)(k:Heap.ExtBut L.I s.heap h)(st:L.St j h)(l:s.toks<=tk):CI L f j O ds {s with heap:=h,toks:=tk} where
 F:=c.F.ext k Ac L.If (by obtain⟨o,e,_⟩:=L.it.mu _ _ st;exact⟨o,e⟩)
 st:=st
 le:=c.le.ext L.Ib (λ o H C _=>by obtain⟨N,E,a,b,_⟩:=L.it.mu _ _ c.st;obtain rfl:=AF C E;exact⟨a,b⟩) k
 nz:=L.ak.be c.nz (λ b o e w d=>⟨k b o (c.rn e d) e,w⟩) λ o e=>k _ o (λ q=>L.IX (q▸L.ZX _ L.DZ)) e
 kb:=c.kb.trans λ b o w e _ _=>k b o (λ q=>w (.inl q)) e
 tk:=Aa c.tk l
 t1:=Aa c.t1 l
 eq:=by rw[c.eq]
theorem CI.own (c:CI L f i O ds s)(k:Heap.SameBut L.D s.heap h)(C:∃o,h.get? L.D=some o)(l:s.toks<=g)(w:L.Acc (L.I::L.X) h a):CI L f i O a {s with heap:=h,toks:=g}:=
 c.pc (c.F.ext k.extBut (Ad _ L.DZ) L.Df C) (c.le.ext L.D0 (λ o Q E _=>by
   obtain⟨V,H,d⟩:=L.ak.obj c.nz;obtain rfl:=AF E H;rcases d with d |d |d<;>rw[d]<;>exact⟨nofun,by decide⟩) k.extBut) l w λ b o N e _ _=>(k.2 b λ q=>N (.inl q)).trans e
theorem CI.weak {a:AM}(c:CI L b i a ds s)(k:∀y h,O.lookup y=some h->a.lookup y=some h):CI L b i O ds s:={c with F:=c.F.au k}
theorem CI.out (c:CI L f i O ds s)(k:Heap.ExtBut L.I s.heap h)(l:s.toks<=g):CO L f O ds {s with heap:=h,toks:=g} where
 F:=c.F.bk k L.If L.IX L.ZX
 le:=c.le.ext L.Ib (λ o H C _=>by obtain⟨N,E,a,b,_⟩:=L.it.mu _ _ c.st;obtain rfl:=AF C E;exact⟨a,b⟩) k
 nz:=L.ak.be c.nz (λ b o e w d=>⟨k b o (c.rn e d) e,λ q=>w (Ad _ q)⟩) λ o e=>k _ o (λ q=>L.IX (q▸L.ZX _ L.DZ)) e
 kb:=c.kb.trans λ b o w e _ _=>k b o (λ q=>w (.inl q)) e
 tk:=Aa c.tk l
 eq:=by rw[c.eq]
noncomputable def NG.pt (h:NG C V β)(k:AM):Pt C V k:=⟨h.W,h.A,h.env,h.I::h.Z,h.I::h.X,h.k,h.mg,h.mb,h.Gk,h.hA⟩
theorem CI.go {a:Type}{t:Sem a}{R:a->Heap->Prop}{b:a->Shared->Prop}(c:CI L d i O ds s)(j:(L.pt O).J t R)(o:∀v h,CI L d i O ds h->A9 L.W s.heap h.heap->R v h.heap->b v h):wpAny L.W.M L.A t b E s:=
 j s c.F c.gd b E λ v _ _ k l r=>o v _ (c.qo k l) k r
theorem fA {a b c d e:List β}(h:a++b=c++d)(k:d.length<=e.length):a.length+b.length<=c.length+e.length:=by
 rw[<-AA,h,AA];exact AK k _
theorem SF (h:i<n):n+1-(i+1)<n+1-i:=Nat.sub_lt_sub_left (FN h) (DV i)
variable {t:Expr}{y:Str}{ρ':AM} in
inductive Sz {β:Type}(C:A5)(sc:Scope)(target:Expr)(ifs:List Expr)(ρ:AM)(inner:AM->List β->Prop)(rss:List (List β))(i:Nat)(x:PV):Prop
 |mk (y:List β) (ρ':AM) (ok:Bool) (e:rss[i]? =some y) (b:EN sc target x ρ=some ρ') (t:NA C sc ρ' ifs ok) (k:if ok=true then inner ρ' y else y=[])
theorem NG.loop {R:Result->Shared->Prop}{l:List Expr}(h:NG C V β){e:Expr}{g:List Comprehension}{j:Value->Env->Sem Unit}(D:NF e g j){d iter:Expr}{a:Nat}(hg:g[a]? =some ⟨d,iter,l,0⟩)
 (n:(DM d).all (λ x=>(O.lookup x).isNone)=true) {f:List (List β)} (L:AM->List β->Prop)
 (hm:∀(i:Nat)(x:PV),h.xs[i]? =some x->Sz C V d l O L f i x) (hl:f.length=h.xs.length)
 (G:∀H r,L H r->∀(Y s:Shared)(i:Nat)(ds:List β)(Q:PySem.Fin->Shared->Prop)(E:B3)(K:Sem PySem.Fin),CI h Y i H ds s->ds.length+r.length<=Bf->
  (∀N,CI h Y i H (ds++r) N->wpAny h.W.M h.A K Q E N)->wpAny h.W.M h.A (RX e (j (.ref h.D) h.env) g a (.ref h.D) h.env K) Q E s)
  (c:CI h s 0 O ds s) (I:ds.length+f.flatten.length<=Bf) (hR:∀N,CO h s O (ds++f.flatten) N->R (.ok .next) N):codeAny h.W.M h.A (.compLoop e a (.ref h.I) (.ref h.D) h.env) R s:=by
 refine codeAny_loop rfl (λ k N=>∃i,i<=h.xs.length/\k=h.xs.length+1-i/\CI h s i O (ds++(f.take i).flatten) N) (λ k N hI=>Jb λ Q' E' J gE=>?_) (h.xs.length+1) ⟨0,AP _,rfl,by simpa using c⟩;obtain⟨i,hi,rfl,c⟩:=hI;have q:(h.W.M.den (.compLoop e a (.ref h.I) (.ref h.D) h.env))=((compTurn e a (.ref h.I) (.ref h.D) h.env).onRaise (λ x=>do noteFrame x h.env;theTreesLotGoes x)):=by
  show(if(Code.compLoop e a (.ref h.I) (.ref h.D) h.env).isFrame=true then _ else _)=_;rw[D.loop];rfl
 rw[q,D.pq];refine wpAny_noted ?_;rw[D.n8 _ _ _ _ _ _ _ hg];refine Ab (AL (Tx λ K hK=>?_));by_cases o:i<h.xs.length
 ·obtain⟨y,H,ok,M,p,S,B⟩:=hm i h.xs[i] (AW o);refine BG (n:=N.toks) (Ah _) (h.it.item i _ _ _ _ c.st (AW o) λ v t W rv Z w m=>hK _ _ ?_);have c:=c.step w Z m;clear hK K;refine Tx λ K hK=>h.it.ou (i+1) _ _ _ d v Z (hK _ _ ?_);clear hK K;refine Tx λ K hK=>BG (n:=W) (Ah _) (Kx c.F h.hA.handled p rv λ a0 T u z A=>hK _ _ ?_);have c:=c.bg u z A;clear hK K;refine Tx λ K hK=>c.go (S (h.pt H)) λ b a1 c _ e=>hK _ _ ?_;clear hK K;have hf:=Sr p n;have U:(ds++(f.take i).flatten)++y=ds++(f.take (i+1)).flatten:=by simp only[OJ M,Bg]
  subst e;cases b with
  |false=>
   refine H6 (RV (Ag (J _ _ ⟨rfl,h.xs.length+1-(i+1),SF o,i+1,o,rfl,?_⟩)));have B:y=[]:=B;rw[<-U,B,CN];exact c.weak hf
  |true=>
   exact H6 (MR (G H y B _ _ _ _ _ _ _ c (Aa (fA U (LS f (i+1))) I) λ N c=>Ag (J _ _ ⟨rfl,h.xs.length+1-(i+1),SF o,i+1,o,rfl,U▸c.weak hf⟩)))
 ·have:i=h.xs.length:=JX hi (BC.mp o);subst this;refine BG (n:=N.toks) (Ah _) (h.it.done _ _ _ c.st λ t W w m=>hK _ _ (Ag (J _ _ (hR _ ?_))));simp only[Cj (AG hl)] at c;exact c.out w m
end
set_option genInjectivity false
set_option genSizeOfSpec false
section
theorem Gy (k:A9 W h H)(e:H.get? a=none):h.get? a=none:=by
 exact A9.bf k e
theorem Ey (e:h.get? a=none)(f:∃o,h.get? b=some o):b≠a:=λ q=>by obtain⟨o,f⟩:=f;rw[q,e] at f;cases f
theorem Ll {a:Scope}(h:Dm V a=true):a.kind=.function/\∀x∈a.names,x.2=.local->a.names.lookup x.1=some .local:=by
 unfold Dm at h;rw[As,As] at h;refine⟨BB h.1.1,λ x s w=>?_⟩;have k:∀(l:List (Str×NameKind)),(l.map (·.1)).Nodup->x∈l->l.lookup x.1=some x.2:=λ l=>by
  induction l with
  |nil=>intro _ h;cases h
  |cons p r H=>
   intro o N;rw[A0,Db] at o;rcases Ae.mp N with q |q
   ·rw[q];exact An
   ·exact(Ar λ e=>o.1 (Al.mpr ⟨x,q,e⟩)).trans (H o.2 q)
 rw[k _ (of_decide_eq_true h.1.2) s,w]
theorem ME:a∈I::(Y++D::Z)↔a∈Y++D::I::Z:=by
 simp only[Ae,Ao];exact⟨λ q=>q.elim (λ q=>.inr (.inr (.inl q))) λ q=>q.elim .inl λ q=>.inr (q.imp id .inr),λ q=>q.elim (λ q=>.inr (.inl q)) λ q=>q.elim (λ q=>.inr (.inr (.inl q))) λ q=>q.imp id λ q=>.inr (.inr q)⟩
end
section
variable {C:A5}{β:Type}
theorem Nd (c:Pt C V O){g:Comprehension}{j:Value->Env->Sem Unit}(ce:NF e (g::r) j)(b0:g.is_async=0)
 {Acc:Bl->Addr->List Addr->Heap->List β->Prop} (ak:∀W D,Ym D (Acc W D)) {oN:Obj} (c5:oN.isFreed=false)
 (b1:∀(M:Model)(A:Around)(s:Shared)(Q:B3)(E:B3),Q (.ref s.heap.objs.size) {s with heap:=s.heap.push oN}->wpAny M A f Q E s) (a5:∀W D X h,h.get? D=some oN->Acc W D X h [])
  (T:Dm V d=true) (b2:LJ C V O g.iter n)
 (run:∀(L:NG C d β),L.Acc=Acc L.W L.D->L.xs=n->∀(s:Shared)(R:Result->Shared->Prop),CI L s 0 (BD d O) [] s->(∀s',CO L s (BD d O) p s'->R (.ok .next) s')->codeAny L.W.M L.A (.compLoop e 0 (.ref L.I) (.ref L.D) L.env) R s)
  (F:FI c.W V c.env c.Z c.X s.heap O) (G:Gd c.W s) {i:Option (Value->Sem Unit)}
 (hQ:∀(D b3:Addr)(U:Heap)(tk:Nat)(m:Str->Option Value),s.heap.get? D=none->s.heap.get? b3=none->D≠b3->D∉c.X->A9 c.W s.heap U->s.toks<=tk->U.Ns b3 m->Acc c.W D (b3::c.X) U p->
  compPost c.W.M c.A E i Q (.ref D) b3 (.ok .next) {s with heap:=U,toks:=tk}):
 wpAny c.W.M c.A (comprehension e d c.env l f false (eval g.iter c.env) i) Q E s:=by
 obtain⟨cl,b4,_⟩:=P9 (A:=c.A) (E:=E) (Q:=λ _ _=>True) F G.al T (λ _ _ _ _ _ _ _ _=>trivial);refine wpAny_comprehension_free ce.oo (IZ b2.1 c.env) b4 (Ll T).1 (Ll T).2 (b2.2 c s F G _ _ λ x B u H a0 itb=>?_);refine E0 (s:={s with heap:=B,toks:=u}) itb λ I w hI a6 a7 b5=>b1 _ _ _ _ _ ?_;have Z:=F.ac H;have N:A9 c.W B w:=.ae a7;have hD:w.get? w.objs.size=none:=Bv w;have v:=Ak w c5;have y:A9 c.W w (w.push oN):=.push _ _;have b6:=(Z.fresh (G.al.trans H) N hI a6).fresh ((G.al.trans H).trans N) y hD ⟨_,v⟩;have b7:=((G.al.trans H).trans N).trans y;have k3:A9 c.W s.heap (w.push oN):=(H.trans N).trans y;generalize d1:w.objs.size=D at*;generalize c6:w.push oN=t at*;have c7:∀(k:Env)(U:Heap)(Y:List Addr),FI c.W d {k with scope:=relabel d c.env} (Y++D::I::c.Z) (Y++D::I::c.X) U (BD d O)->(∀b o,t.get? b=some o->U.get? b=some o)->(∀a∈Y,t.get? a=none)->
  (∀a,C3 d {k with scope:=relabel d c.env} a->a∈Y)->(∀a∈Ay {k with scope:=relabel d c.env},a∈Y\/a∈Ay c.env)->
  codeAny c.W.M c.A (.compStart e 0 (.ref I) (.ref D) {k with scope:=relabel d c.env}) (compPost c.W.M c.A E i Q (.ref D) k.locals) {s with heap:=U,toks:=u}:=λ k J Y b8 S hY b9 c0=>by
  have a1:A9 c.W t J:=.ae S;have c1:I∉c.X:=λ q=>Ey hI (Z.alive I q).2 rfl;have z:∃o,t.get? I=some o:=Bc y a6;have c8:I≠D:=Ey hD a6;have nY:∀{a},(∃o,t.get? a=some o)->a∉Y:=λ e q=>Ey (hY _ q) e rfl;have c9:D∉c.X:=λ q=>Ey hD ((Z.ac N).alive D q).2 rfl;have a8:Ig c.W (I::(Y++D::c.X)) J I n:=(((((b5 c1).bc hD).ac y).az (Y:=Y) hY).ac a1).ag λ a ha=>ME.mp ha;obtain⟨St,st,a2⟩:=ND.of (A:=c.A) a8 Ac c.hA.handled;have a3:∀a∈Ay c.env,∃o,B.get? a=some o:=λ a ha=>(Z.alive a (Z.zx a (Z.ba a ha))).2;have c2:s.heap.get? D=none:=Gy (H.trans N) hD;have a9:k.locals∈Y:=b9 _ (.inl rfl)
  let L:NG C d β:={
   W:=c.W,A:=c.A,env:={k with scope:=relabel d c.env},hb:=s.heap,Z:=Y++D::c.Z,X:=Y++D::c.X,k:=c.k,mg:=c.mg,mb:=c.mb,I:=I,D:=D,xs:=n,St:=St,Acc:=Acc c.W D
   Gk:=c.Gk,hA:=c.hA,ak:=ak c.W D,al:=G.al,oz:=G.oz
   wr:=λ a ha=>Gy k3 (hY a (b9 a ha))
   Df:=λ q=>(c0 _ q).elim (λ q=>nY ⟨_,v⟩ q) λ q=>Ey hD (Bc N (a3 D q)) rfl
   D0:=c2
   DZ:=Ao.mpr (.inr Ac)
   ZX:=λ a ha=>(Ao.mp ha).elim (λ q=>Ao.mpr (.inl q)) λ q=>Ao.mpr (.inr ((Ae.mp q).elim (λ q=>q▸Ac) λ q=>Ad _ (F.zx a q)))
   IX:=λ q=>(Ao.mp q).elim (nY z) λ q=>(Ae.mp q).elim c8 c1
   If:=λ q=>(c0 I q).elim (nY z) λ q=>Ey hI (a3 I q) rfl
   Ib:=Gy H hI
   it:=a2}
  have a4:codeAny c.W.M c.A (.compLoop e 0 (.ref I) (.ref D) {k with scope:=relabel d c.env}) (compPost c.W.M c.A E i Q (.ref D) k.locals) {s with heap:=J,toks:=u}:=
   run L rfl rfl _ _ ⟨b8.congr (λ a=>ME) (λ a=>ME),st,k3.trans a1,a5 _ _ _ _ (S _ _ v),.refl,Ah _,Aa G.toks a0,rfl⟩ λ s' o=>by
    obtain⟨m,hn,_⟩:=o.F.ns;rw[o.eq];refine hQ D k.locals _ _ m c2 (Gy k3 (hY _ a9)) (λ q=>nY ⟨_,v⟩ (q▸a9)) c9 o.le (Aa a0 o.tk) hn ((ak c.W D).be o.nz (λ b o e nb _=>⟨e,λ q=>nb ?_⟩) λ _ e=>e);exact(Ae.mp q).elim (λ q=>q▸Ao.mpr (.inl a9)) λ q=>Ao.mpr (.inr (Ad _ q))
  exact Ju ce rfl b0 a4 (a2.self 0 _ _ _ st a4)
 obtain⟨d0,c3,hw⟩:=P9 (A:=c.A) (E:=E) (s:={s with heap:=t,toks:=u})
  (Q:=λ k c4=>codeAny c.W.M c.A (.compStart e 0 (.ref I) (.ref D) {k with scope:=relabel d c.env}) (compPost c.W.M c.A E i Q (.ref D) k.locals) c4) b6 b7 T c7
 exact(Sem.pure.inj (c3.symm.trans b4):d0=cl)▸hw
end
set_option genInjectivity false
set_option genSizeOfSpec false
section
variable {C:A5}{β:Type}{L:NG C V β}{ds:List β}
theorem U6 {b:NG C V PV}{e:List PV}(w:b.Acc=Yl b.W b.D)(c:CI b j i O e s)(Q:CE C V O f d)(q:e.length+1<=Bf){g:Unit->Shared->Prop}
 (W:∀H,CI b j i O (e++[d]) H->g () H):wpAny b.W.M b.A (Kn f (.ref b.D) b.env) g E s:=
 Ab (c.go (Q (b.pt O)) λ v s c _ Z=>by
  have a:=c.nz;rw[w] at a;obtain⟨l,n,m,L⟩:=a;have p:l.size=e.length:=L.length;refine Ab (HP m (by omega) λ N o h k=>Ag (W _ (c.own k ⟨_,h⟩ (Ah _) ?_)));rw[w];have:=(L.append (RpL.bp Z)).bb k (Ad _ (b.ZX _ b.DZ));exact⟨_,o,h,by simpa using this⟩)
theorem U7 {b:NG C V (Str×PV)}{e:List (Str×PV)}(H:b.Acc=Vn b.W b.D)(c:CI b l i O e s)(Z:CE C V O f (.str x))(m:CE C V O g d)(B:e.length+1<=Bf){j:Unit->Shared->Prop}
 (n:∀L,CI b l i O (e++[(x,d)]) L->j () L):wpAny b.W.M b.A (Ko f g (.ref b.D) b.env) j E s:=
 Ab (c.go (Z (b.pt O)) λ v s c _ p=>Ab (Bk (c.go (m (b.pt O)) λ w s c hk q=>by
  obtain⟨t,rfl,_⟩:=p.ah;have a:=c.nz;rw[H] at a;obtain⟨k,r,h,u⟩:=a;have y:k.length=(Vt e).length:=by simpa using congrArg List.length h
  have z:=Na e;have D:=DX;refine Ab (AL (Bk (wpAny_dictSet_pairs (knd:=b.W.K) (k:=x) (by simp[Bl.K,_root_.PySem.strKind,Value.isStrOf]) r (λ N Q W=>n _ (c.own W (by obtain⟨o,_,_,A,_⟩:=Q;exact⟨o,A⟩) (A8 _) ?_)) (by omega))));have h:=KM (k:=x) h u q;rw[H];exact⟨_,Q,by rw[Nb];exact h.1,by rw[Nb];exact h.2.bb W (Ad _ (b.ZX _ b.DZ))⟩)))
noncomputable def Yi (Acc:Bl->Addr->List Addr->Heap->List β->Prop)(H:A5)(N:Scope)(h:Value->Env->Sem Unit)(o:AM)(d:β):Prop:=
 ∀(L:NG H N β),L.Acc=Acc L.W L.D->∀w i k s,CI L w i o k s->k.length+1<=Bf->∀(Q:Unit->Shared->Prop)(E:B3),(∀C,CI L w i o (k++[d]) C->Q () C)->wpAny L.W.M L.A (h (.ref L.D) L.env) Q E s
theorem Yi.list (h:CE C V O a d):Yi Yl C V (Kn a) O d:=λ L o _ _ _ _ c s _ _ k=>U6 o c h s k
theorem Yi.dict (h:CE C V O a (.str x))(o:CE C V O b d):Yi Vn C V (Ko a b) O (x,d):=λ L s _ _ _ _ c w _ _ k=>U7 s c h o w k
variable {Acc:Bl->Addr->List Addr->Heap->List β->Prop}
noncomputable def iY (C:A5)(H:Scope)(P:AM->β->Prop)(t:Expr)(k:List Expr)(s:AM)(w:List PV)(L:List β):Prop:=
 (DM t).all (λ x=>(s.lookup x).isNone)=true/\∃h:List (List β),h.length=w.length/\L=h.flatten/\
  ∀(i:Nat)(x:PV),w[i]? =some x->Sz C H t k s (λ o y=>∃d,P o d/\y=[d]) h i x
theorem NG.pj {R:Result->Shared->Prop}{f:Value->Env->Sem Unit}(h:NG C V β)(L:h.Acc=Acc h.W h.D)(N:NF e b f)(W:b[a]? =some ⟨t,l,g,0⟩)(Z:b[a+1]? =none){j:List β}
 (m:iY C V (Yi Acc C V f) t g O h.xs j) (c:CI h s 0 O ds s) (H:ds.length+j.length<=Bf) (n:∀w,CO h s O (ds++j) w->R (.ok .next) w):codeAny h.W.M h.A (.compLoop e a (.ref h.I) (.ref h.D) h.env) R s:=by
 obtain⟨p,q,u,rfl,v⟩:=m;refine h.loop N W p (λ o y=>∃d,Yi Acc C V f o d/\y=[d]) v u (λ o r x z s i ds Q E K c H k=>?_) c H n;obtain⟨d,A,rfl⟩:=x;unfold RX;rw[Z];exact Ab (A h L z i ds s c H _ _ λ w c=>k w c)
variable {xs:List PV}{it:Expr} in
noncomputable def NG.sub (h:NG C V β){J:Addr}{b:List PV}{St:Nat->Heap->Prop}(k:J∉h.I::h.X)(o:J∉Ay h.env)(s:h.hb.get? J=none)(w:ND h.W h.A (J::h.I::h.X) J b St):NG C V β:=
 {h with Z:=h.I::h.Z,X:=h.I::h.X,I:=J,xs:=b,St:=St,DZ:=Ad _ h.DZ,ZX:=λ a H=>(Ae.mp H).elim (λ q=>q▸Ac) λ q=>Ad _ (h.ZX a q),IX:=k,If:=o,Ib:=s,it:=w}
noncomputable def pW (o:A5)(s:Scope)(P:AM->β->Prop)(t1 w O:Expr)(C:List Expr)(H:AM)(L:List PV)(Q:List β):Prop:=
 (DM t1).all (λ x=>(H.lookup x).isNone)=true/\∃h:List (List β),h.length=L.length/\Q=h.flatten/\
  ∀(i:Nat)(x:PV),L[i]? =some x->Sz o s t1 [] H (λ k y=>∃N,LJ o s k w N/\iY o s P O C k N y) h i x
theorem NG.tx {R:Result->Shared->Prop}{a:Value->Env->Sem Unit}(h:NG C V β)(hL:h.Acc=Acc h.W h.D)(B:NF e [⟨t1,j,[],0⟩,⟨l,f,g,0⟩] a){m:List β}
 (a0:pW C V (Yi Acc C V a) t1 f l g O h.xs m) (c:CI h s 0 O ds s) (D:ds.length+m.length<=Bf) (hR:∀Z,CO h s O (ds++m) Z->R (.ok .next) Z):codeAny h.W.M h.A (.compLoop e 0 (.ref h.I) (.ref h.D) h.env) R s:=by
 obtain⟨hf,a1,hl,rfl,hm⟩:=a0;refine h.loop B rfl hf (λ L y=>∃G,LJ C V L f G/\iY C V (Yi Acc C V a) l g L G y) hm hl (λ L r hr s0 s i ds Q E K c D k=>?_) c D hR;obtain⟨G,u,hg⟩:=hr;refine Ab (c.go (u.2 (h.pt L)) λ v w c Y itb=>Ab (AL (H6 (RV (Ab (Dc (IZ u.1 h.env v) (Ab (Bk ?_))))))));refine E0 itb λ J H A I N x=>Ab (KA ?_);have t:J∉h.I::h.X:=λ q=>Ey A (c.F.alive J q).2 rfl;obtain⟨St,st,W⟩:=ND.of (A:=h.A) (x t) Ac h.hA.handled;have n:A9 h.W w.heap H:=.ae N;have S:=c.qo (tk:=w.toks) n (Ah _)
 let M:=h.sub t (λ q=>t (c.F.zx _ (c.F.ba _ q))) (Gy c.le A) W
 have cM:CI M {w with heap:=H} 0 L ds {w with heap:=H}:=⟨c.F.fresh c.gd.al n A I,st,S.le,h.ak.be S.nz (λ b o e T d=>⟨e,λ q=>(Ae.mp q).elim (λ q=>by
  obtain⟨o',e',_,_,_,nd⟩:=W.mu _ _ st;have e:H.get? J=some o:=(show b=J from q)▸e;obtain rfl:=AF e' e;exact nd d) T⟩) λ _ e=>e,.refl,Ah _,S.t1,rfl⟩
 have z:∀{R':Result->Shared->Prop},(∀Z,CO M {w with heap:=H} L (ds++r) Z->R' (.ok .next) Z)->codeAny h.W.M h.A (.compLoop e 1 (.ref J) (.ref h.D) h.env) R' {w with heap:=H}:=λ U=>
  M.pj (by exact hL) B rfl rfl hg cM D U
 have p:∀Z,CO M {w with heap:=H} L (ds++r) Z->wpAny h.W.M h.A K Q E Z:=λ Z o=>by
  rw[o.eq];refine k _ (c.pc o.F o.le o.tk o.nz λ b ob T e h1 h2=>o.kb b ob (λ q=>q.elim (λ q=>Ey A ⟨ob,e⟩ q) T) (N _ _ e) h1 h2)
 rw[K5];exact Ju B rfl rfl (z p) (W.self 0 _ _ _ st (z p))
end
section
variable {C:A5}{β:Type}{P:AM->β->Prop}
theorem iY.of {b:Type}{l:List b}{g:b->PV}{q:b->Bool}{f:b->β}(H:(DM t).all (λ x=>(O.lookup x).isNone)=true)
 (o:∀a∈l,∃h,EN V t (g a) O=some h/\NA C V h c (q a)/\(q a=true->P h (f a))):iY C V P t c O (l.map g) ((l.filter q).map f):=by
 refine⟨H,l.map λ a=>if q a=true then[f a] else[],by rw[Af,Af],?_,λ i x s=>?_⟩
 ·clear o;induction l with
  |nil=>rfl
  |cons a r N=>
   simp only[A0,List.flatten_cons,EG,<-N];cases q a<;>rfl
 ·rw[Aw] at s;obtain⟨a,w,rfl⟩:=AY.mp s;obtain⟨h,Q,W,Z⟩:=o a (C4 w);refine⟨_,h,q a,by rw[Aw,w];rfl,Q,W,?_⟩;cases k:q a with
  |false=>simp only[k];rfl
  |true=>exact⟨_,Z k,if_pos k⟩
theorem pW.of {c e:Type}{l:List c}{g:c->PV}{g2:e->PV}{j:c->List e}{q:c->e->Bool}{f:c->e->β}(H:(DM t1).all (λ x=>(O.lookup x).isNone)=true)
 (N:∀a∈l,∃h,EN V t1 (g a) O=some h/\LJ C V h d ((j a).map g2)/\(DM m).all (λ x=>(h.lookup x).isNone)=true/\∀b∈j a,∃k,EN V m (g2 b) h=some k/\NA C V k n (q a b)/\(q a b=true->P k (f a b))):
 pW C V P t1 d m n O (l.map g) (l.flatMap λ a=>((j a).filter (q a)).map (f a)):=by
 refine⟨H,l.map λ a=>((j a).filter (q a)).map (f a),by rw[Af,Af],ZZq ..,λ i x s=>?_⟩;rw[Aw] at s;obtain⟨a,w,rfl⟩:=AY.mp s;obtain⟨o,Q,W,Z,p⟩:=N a (C4 w);exact⟨_,o,true,by rw[Aw,w];rfl,Q,.nil,_,W,.of Z p⟩
inductive Cu (C:A5)(sc:Scope)(ρ:AM)(e:Expr)(d:PV):Prop
 |mk (sem:Env->Option (Value->Sem Unit)->Sem Value) (h1:∀env,eval e env=sem env none) (h2:∀env u,evalThenUse e env u=do let _ <-sem env (some u)) (h3:∀line env x q,∃b,swapsWithSole [.Name x q] e line env=pure b)
  (h4:∀(c:Pt C sc ρ)(s:Shared),FI c.W sc c.env c.Z c.X s.heap ρ->Gd c.W s->∀(use:Option (Value->Sem Unit))(Q:B3)(E:B3),
   (∀(D V:Addr)(h':Heap)(tk:Nat)(m:Str->Option Value),s.heap.get? D=none->s.heap.get? V=none->A9 c.W s.heap h'->s.toks<=tk->h'.Ns V m->Rp c.W (V::c.X) h' (.ref D) d->compPost c.W.M c.A E use Q (.ref D) V (.ok .next) {s with heap:=h',toks:=tk})->
   wpAny c.W.M c.A (sem c.env use) Q E s)
theorem Cu.ev (h:Cu C V O e d):CE C V O e d:=λ c s F G Q E o=>by
 obtain⟨w,H,_,_,h⟩:=h;rw[H];exact h c s F G none Q E λ D Z a b m _ N k l W r=>Ud N k l W r o
end
section
variable {C:A5}
theorem Ql {i:List PV}(v:Dm V a=true)(w:LJ C V O f j)(x:i.length<=Bf)
 (run:∀(L:NG C a PV),L.Acc=Yl L.W L.D->L.xs=j->∀(s:Shared)(R:Result->Shared->Prop),CI L s 0 (BD a O) [] s->(∀u,CO L s (BD a O) i u->R (.ok .next) u)->codeAny L.W.M L.A (.compLoop (.ListComp b (⟨t,f,d,0⟩::g) a p) 0 (.ref L.I) (.ref L.D) L.env) R s):
 Cu C V O (.ListComp b (⟨t,f,d,0⟩::g) a p) (.list i):=
 ⟨λ k o=>comprehension (.ListComp b (⟨t,f,d,0⟩::g) a p) a k (firstIterPos (⟨t,f,d,0⟩::g) p) (newList []) false (eval f k) o,λ _=>rfl,λ _ _=>rfl,λ _ _ _ _=>⟨_,rfl⟩,λ c s F G o Q E y=>
  Nd c (GG b _ a p) rfl (Acc:=Yl) (λ W D=>oY D) (oN:=Fd #[] 0) rfl (λ M A s Q E z=>BJ z) (λ W D X h e=>⟨#[],0,e,.nil⟩) v w run F G λ D B I J m S T H N Z l U ⟨Y,n,e,r⟩=>
   y D B I J m S T Z l U (.list e (λ q=>(Ae.mp q).elim H N) (Aa (AG r.length) x) r)⟩
theorem SW (h:Dt W C k mg mb)(G:Gd W s)(w:s.heap.get? a=none):(a==sysModules)=false:=by
 cases q:a==sysModules with
 |false=>rfl
 |true=>obtain⟨o,H⟩:=Bc G.al h.uk;simp only[<-BB q,w] at H;contradiction
theorem XK {j:List (Str×PV)}(x:Dm V a=true)(w:LJ C V O d n)(y:j.length<=Bf)
 (run:∀(L:NG C a (Str×PV)),L.Acc=Vn L.W L.D->L.xs=n->∀(s:Shared)(R:Result->Shared->Prop),CI L s 0 (BD a O) [] s->(∀u,CO L s (BD a O) j u->R (.ok .next) u)->codeAny L.W.M L.A (.compLoop (.DictComp f g (⟨t,d,b,0⟩::i) a p) 0 (.ref L.I) (.ref L.D) L.env) R s):
 Cu C V O (.DictComp f g (⟨t,d,b,0⟩::i) a p) (.dict (Vt j)):=
 ⟨λ k o=>comprehension (.DictComp f g (⟨t,d,b,0⟩::i) a p) a k (firstIterPos (⟨t,d,b,0⟩::i) p) newDict false (eval d k) o,λ _=>rfl,λ _ _=>rfl,λ _ _ _ _=>⟨_,rfl⟩,λ c s F G o Q E z=>
  Nd c (Nf f g _ a p) rfl (Acc:=Vn) (λ W D=>oZ D) (oN:={cls:=.type "dict",data:=.dict #[]}) rfl (λ M A s Q E B=>BJ B) (λ W D X h e=>⟨[],⟨_,#[],0,e,⟨rfl,rfl,rfl⟩,rfl,λ _ I=>by simp at I,Pairs.nil,List.nodup_nil⟩,rfl,.nil⟩) x w run F G λ D J S T m v U H N Z l Y ⟨a0,e,q,r⟩=>
   z D J S T m v U Z l Y (.dict e (λ q=>(Ae.mp q).elim H N) (SW c.Gk G v) (Aa (AG (by simpa using congrArg List.length q)) (Aa (Na j) y)) q r)⟩
theorem Cu.T {i:Type}{l:List i}{g:i->PV}(q:i->Bool)(f:i->PV)(o:LJ C V O m (l.map g))(w:Dm V d=true)(H:(DM t).all (λ x=>((BD d O).lookup x).isNone)=true)
 (N:∀a∈l,∃h,EN d t (g a) (BD d O)=some h/\NA C d h ifs (q a)/\(q a=true->CE C d h j (f a))) (Q:l.length<=Bf):Cu C V O (.ListComp j [⟨t,m,ifs,0⟩] d p) (.list ((l.filter q).map f)):=
 have k:((l.filter q).map f).length<=Bf:=Af (as:=l.filter q) f▸Aa (BW q l) Q
 Ql w o k λ L W Z s R c n=>L.pj W (GG ..) rfl rfl (Z▸.of H λ a r=>by obtain⟨h,a,b,e⟩:=N a r;exact⟨h,a,b,λ q=>.list (e q)⟩) c (Aa (AG (EP _)) k) n
theorem Cu.M {c:Type}{l:List c}{g:c->PV}(f:c->PV)(k:LJ C V O e (l.map g))(o:Dm V b=true)(s:(DM t).all (λ x=>((BD b O).lookup x).isNone)=true)
 (w:∀a∈l,∃h,EN b t (g a) (BD b O)=some h/\CE C b h d (f a)) (H:l.length<=Bf):Cu C V O (.ListComp d [⟨t,e,[],0⟩] b p) (.list (l.map f)):=by
 have:=Cu.T (p:=p) (ifs:=[]) (λ _=>true) f k o s (λ a N=>by obtain⟨h,Q,W⟩:=w a N;exact⟨h,Q,.nil,λ _=>W⟩) H;rwa[Dk.mpr λ _ _=>rfl] at this
theorem Cu.D {f:Type}{l:List f}{g:f->PV}(k:f->Str)(o:f->PV)(H:LJ C V O m (l.map g))(N:Dm V d=true)(Q:(DM t).all (λ x=>((BD d O).lookup x).isNone)=true)
 (W:∀a∈l,∃h,EN d t (g a) (BD d O)=some h/\CE C d h i (.str (k a))/\CE C d h j (o a)) (Z:l.length<=Bf):Cu C V O (.DictComp i j [⟨t,m,[],0⟩] d p) (.dict (Vt (l.map λ a=>(k a,o a)))):=
 have w:(l.map λ a=>(k a,o a)).length<=Bf:=Af (as:=l) (λ a=>(k a,o a))▸Z
 XK N H w λ L n q s R c r=>L.pj n (Nf ..) rfl rfl (q▸by
  have:=iY.of (C:=C) (P:=Yi Vn C d (Ko i j)) (q:=λ _=>true) (f:=λ a=>(k a,o a)) Q λ a u=>by obtain⟨h,a,b,e⟩:=W a u;exact⟨h,a,.nil,λ _=>.dict b e⟩
  rwa[Dk.mpr λ _ _=>rfl] at this) c (Aa (AG (EP _)) w) r
theorem Cu.T2 {j r:Type}{l:List j}{g:j->PV}{g2:r->PV}(o:j->List r)(q:j->r->Bool)(f:j->r->PV)(w:LJ C V O m (l.map g))(N:Dm V i=true)(Q:(DM t1).all (λ x=>((BD i O).lookup x).isNone)=true)
 (W:∀a∈l,∃h,EN i t1 (g a) (BD i O)=some h/\LJ C i h n ((o a).map g2)/\(DM t).all (λ x=>(h.lookup x).isNone)=true/\∀b∈o a,∃k,EN i t (g2 b) h=some k/\NA C i k ifs (q a b)/\(q a b=true->CE C i k u (f a b)))
 (H:(l.flatMap λ a=>((o a).filter (q a)).map (f a)).length<=Bf):Cu C V O (.ListComp u [⟨t1,m,[],0⟩,⟨t,n,ifs,0⟩] i p) (.list (l.flatMap λ a=>((o a).filter (q a)).map (f a))):=
 Ql N w H λ L Z v s R c z=>L.tx Z (GG ..) (v▸.of Q λ a A=>by obtain⟨h,a,b,d,e⟩:=W a A;exact⟨h,a,b,d,λ y B=>by obtain⟨k,a,b,e⟩:=e y B;exact⟨k,a,b,λ q=>.list (e q)⟩⟩) c (Aa (AG (EP _)) H) z
end
structure D3 (W:Bl)(A:Around)(sc:Scope)(env:Env)(hb:Heap)(t:Sem Flow)(ρ:AM)(fl:Fl):Prop where
 go:∀(Z X:List Addr)(s:Shared)(Q:Flow->Shared->Prop)(E:B3),XS W sc env hb Z X s ρ->GT W sc env hb Z X s fl Q->wpAny W.M A t Q E s
section
variable {A:Around}{z:Env}{C:A5}{E:B3}
variable {q:Pos} in
structure ST (W:Bl)(sc:Scope)(env:Env)(hb:Heap)(Z X:List Addr)(ρ:AM)(fl:Fl)(Q:Flow->Shared->Prop)(s:Shared):Prop where
 S:XS W sc env hb Z X s ρ
 q:GT W sc env hb Z X s fl Q
theorem D3.mk' (h:∀Z X Q E s,ST W V z N Z X O a Q s->wpAny W.M A t Q E s):D3 W A V z N t O a:=⟨λ Z X s Q E S q=>h Z X Q E s ⟨S,q⟩⟩
theorem D3.run (h:D3 W A V z N t O b){a:Flow->Shared->Prop}(T:ST W V z N Z X O b a s):wpAny W.M A t a E s:=h.go _ _ _ _ _ T.S T.q
variable {Q:Flow->Shared->Prop}
theorem ST.aq (T:ST W V z N Z X O a Q s)(k:A9 W s.heap h)(l:s.toks<=tk):ST W V z N Z X O a Q {s with heap:=h,toks:=tk}:=⟨T.S.ac k l,T.q.aq k.aj l⟩
theorem ST.next (T:ST W V z N Z X O (.next O) Q s):Q .next s:=T.q s.heap s.toks T.S .refl (Ah _)
theorem ST.te {a:Type}{t:Sem a}{R:Pt C V O->a->Heap->Prop}(T:ST W V z N Z X O d Q s)(w:Dt W C k mg mb)(H:Cc k A)(B:XB W V z N)(j:∀c:Pt C V O,c.env=z->c.W=W->c.A=A->c.J (α:=a) t (R c)){b:a->Shared->Prop}
 (k:∀v o,ST W V z N Z X O d Q o->A9 W s.heap o.heap->R ⟨W,A,z,Z,X,k,mg,mb,w,H⟩ v o.heap->b v o):wpAny W.M A t b E s:=
 j ⟨W,A,z,Z,X,_,mg,mb,w,H⟩ rfl rfl rfl s T.S.F (T.S.gd B) b E λ v h f e l r=>k v _ (T.aq e l) e r
end
section
variable {A:Around}{z:Env}{C:A5}{E:B3}{Q:Flow->Shared->Prop}
theorem ST.ev (H:Dt W C k mg mb)(c:Cc k A)(B:XB W V z N)(T:ST W V z N Z X O b Q s)(o:CE C V O e d)(k:∀v h,ST W V z N Z X O b Q h->A9 W s.heap h.heap->Rp W X h.heap v d->a v h):wpAny W.M A (eval e z) a E s:=
 o ⟨W,A,z,Z,X,_,mg,mb,H,c⟩ s T.S.F (T.S.gd B) a E λ v o f w l r=>k v _ (T.aq w l) w r
theorem ST.ts {c:Fl}(w:Dt W C k mg mb)(H:Cc k A)(B:XB W V z N){e:Expr}{b:Bool}(T:ST W V z N Z X O c Q s)(h:I4 C V O e b){a:Bool->Shared->Prop}(j:∀o,ST W V z N Z X O c Q o->a b o):wpAny W.M A (isTrue e z (eval e z)) a E s:=
 h ⟨W,A,z,Z,X,_,mg,mb,w,H⟩ s T.S.F (T.S.gd B) a E λ v h f d l r=>r▸j _ (T.aq d l)
theorem Ru {c:Pos}(g:Dt W C k mg mb)(f:Cc k A)(B:XB W V z N)(i:CE C V O v d)(H:EO V t d O=some b)(j:Xc t=true)(hw:swapsWithSole [t] v c.line z=pure false)(e:swappedStores [t] v z=pure none):D3 W A V z N (exec (.Assign [t] v c) z) O (.next b):=.mk' λ Z X Q E s T=>
 BA j hw e (T.ev g f B i λ v s T k r=>EC f.handled B T.S H r λ o h w St l=>T.q o h w (St.aj λ a m=>T.S.F.bq m) l)
theorem A6 (h:Dt W C k mg mb)(o:Cc k A)(B:XB W V z N)(s:CE C V O v d)(w:AI V x=true)(hw:swapsWithSole [.Name x q] v pos.line z=pure false:=by rfl):D3 W A V z N (exec (.Assign [.Name x q] v pos) z) O (.next (AN O x (.aa d))):=
 Ru h o B s (if_pos w) rfl hw rfl
theorem Cy (H:Dt W C k mg mb)(o:Cc k A)(B:XB W V z N)(h:Cu C V O v d)(c:AI V x=true):D3 W A V z N (exec (.Assign [.Name x q] v a) z) O (.next (AN O x (.aa d))):=by
 have e:=h;obtain⟨f,u,g,i,j⟩:=e;obtain⟨b,hw⟩:=i a.line z x q;cases b with
 |false=>exact A6 H o B h.ev c hw
 |true=>
  refine .mk' λ Z X Q E s T=>?_;rw[arm_exec_Assign];refine Ab (AL (Ab (Dc hw (H6 (MR (Ab ?_))))));rw[g];exact Ab (C5 (j ⟨W,A,z,Z,X,_,mg,mb,H,o⟩ s T.S.F (T.S.gd B) _ (λ _ n=>Q .next n) E λ D y G I m _ p w l t r=>Mp (t:=.Name x q) (d:=d) B T.S o.handled (if_pos c) T.q p w l t r) (λ _ _ h=>Ag (Ag h)) λ _ _ x=>x)
theorem DY (h:Dt W C k mg mb)(o:Cc k A)(B:XB W V z N)(w:I4 C V O t c)(H:D3 W A V z N (execs (if c then b else a) z) O d):D3 W A V z N (exec (.If t b a e) z) O d:=.mk' λ Z X Q E s T=>
 J1 (T.ts h o B w λ s T=>by cases c<;>exact H.run T)
theorem Fn (g:Dt W C k mg mb)(i:Cc k A)(B:XB W V z N)(o:Vv C V O e d):D3 W A V z N (exec (.Return (some e) b) z) O (.ret d):=.mk' λ Z X Q E s T=>
 CR (T.te g i B (R:=λ c v o=>Q8 c.W c.Z c.X o v d) (λ c h _ _=>h▸o c) λ v s T k r=>T.q v s.heap s.toks T.S.le (Ah _) (by
  rcases r with r |⟨a,rfl,f,r⟩
  ·exact r.ag T.S.F.zx
  ·cases d with
   |list l=>obtain⟨m,n,h,w,H⟩:=r;exact .list h f w (H.ag T.S.F.zx)
   |dict p=>obtain⟨j,h,y,w,q,H⟩:=r;exact .dict h f y w q (H.ag T.S.F.zx)
   |_=>exact r.elim))
end
section
variable {A:Around}{z:Env}{C:A5}{E:B3}{Q:Flow->Shared->Prop}
noncomputable def Vj (a b:AM):Prop:=∀x h,a.lookup x=some h->b.lookup x=some h
theorem D3.pre (h:D3 W A V z N t O b)(k:Vj O a):D3 W A V z N t a b:=.mk λ Z X s Q E S o=>h.go Z X s Q E (S.au k) o
theorem D3.post (h:D3 W A V z N t O (.next a))(o:Vj b a):D3 W A V z N t O (.next b):=.mk λ Z X s Q E S w=>h.go Z X s Q E S λ C H c k l=>w C H (c.au o) k l
theorem D3.o7 (h:D3 W A V z N t O (.brk a))(o:Vj b a):D3 W A V z N t O (.brk b):=.mk λ Z X s Q E S w=>h.go Z X s Q E S λ C H c k l=>w C H (c.au o) k l
theorem CP:Vj (Ci a O) O:=λ x h=>Pc a x h O
theorem D3.keep (h:D3 W A V z N t O (.next b))(e:Ci c b=a):D3 W A V z N t O (.next a):=e▸h.post CP
theorem D3.pz (h:D3 W A V z N t O (.brk b))(e:Ci c b=a):D3 W A V z N t O (.brk a):=e▸h.o7 CP
theorem DN:D3 W A V z N (execs [] z) O (.next O):=.mk' λ Z X Q E s T=>Bd T.next
theorem Dl {r:List Stmt}{st:Stmt}{a:AM}{b:Fl}(C:D3 W A V z N (exec st z) O (.next a))(H:D3 W A V z N (execs r z) a b):D3 W A V z N (execs (st::r) z) O b:=.mk λ Z X s Q E S c=>
 Aj (C.go Z X s _ _ S λ k h o d w=>H.go Z X {s with heap:=k,toks:=h} _ _ o (c.aq d w))
theorem IR {r:List Stmt}{st:Stmt}{a:AM}(h:D3 W A V z N (exec st z) O (.brk a)):D3 W A V z N (execs (st::r) z) O (.brk a):=.mk λ Z X s Q E S k=>Aj (h.go Z X s _ _ S k)
theorem YI {r:List Stmt}{st:Stmt}{d:PV}(h:D3 W A V z N (exec st z) O (.ret d)):D3 W A V z N (execs (st::r) z) O (.ret d):=.mk λ Z X s Q E S k=>Aj (h.go Z X s _ _ S k)
theorem Cp {st:Stmt}{a:Fl}(h:D3 W A V z N (exec st z) O a):D3 W A V z N (execs [st] z) O a:=by
 cases a with
 |next k=>exact Dl h DN
 |brk k=>exact IR h
 |ret d=>exact YI h
theorem J6:D3 W A V z N (exec (.Break q) z) O (.brk O):=.mk' λ Z X Q E s T=>by exact Ab (AL (Ag (T.q s.heap s.toks T.S .refl (Ah _))))
class inductive iB (W:Bl) (A:Around) (C:A5) (sc:Scope) (env:Env) (hb:Heap) (t:Expr) (b o:List Stmt):Nat->AM->Fl->Prop
 |stop {n0 ρ0 fl0}:I4 C sc ρ0 t false->D3 W A sc env hb (execs o env) ρ0 fl0->iB W A C sc env hb t b o (n0+1) ρ0 fl0
 |next {n0 ρ0 ρ20 fl0}:I4 C sc ρ0 t true->D3 W A sc env hb (execs b env) ρ0 (.next ρ20)->iB W A C sc env hb t b o n0 ρ20 fl0->iB W A C sc env hb t b o (n0+1) ρ0 fl0
 |brk {n0 ρ0 ρb}:I4 C sc ρ0 t true->D3 W A sc env hb (execs b env) ρ0 (.brk ρb)->iB W A C sc env hb t b o (n0+1) ρ0 (.next ρb)
theorem VQ (l:Dt W C k mg mb)(m:Cc k A)(B:XB W V z N)(r:iB W A C V z N t b a n O c):D3 W A V z N (exec (.While t b a d) z) O c:=.mk' λ Z X Q E s T=>by
 refine wpAny_While (codeAny_whileLoop (λ n q=>∃g,iB W A C V z N t b a n g c/\ST W V z N Z X g c Q q) (λ n q u=>Jb λ y D p gE=>?_) n ⟨O,r,T⟩);obtain⟨g,e,T⟩:=u;cases e with
 |stop j v=>exact T.ts l m B j λ s T=>p _ _ (RV (v.run T))
 |next j i x=>exact T.ts l m B j λ s T=>p _ _ (MR (i.go Z X s _ _ T.S λ f o w h H=>⟨_,DV _,_,x,w,T.q.aq h H⟩))
 |brk j i=>exact T.ts l m B j λ s T=>p _ _ (MR (i.go Z X s _ _ T.S λ f o w h H=>T.q f o w h H))
end
section
variable {C:A5}
noncomputable def Yr (C:A5)(k:Scope)(o:AM)(e:Expr)(d:PV):Prop:=∀(c:Pt C k o)(s:Shared),FI c.W k c.env c.Z c.X s.heap o->Gd c.W s->∀(Q:B3)(E:B3),
 (∀a h w,s.heap.get? a=none->A9 c.W s.heap h->s.toks<=w->Bo c.W (a::c.X) h a d->Q (.ref a) {s with heap:=h,toks:=w})->wpAny c.W.M c.A (eval e c.env) Q E s
theorem Yr.list {b:List PV}(H:Q9 C V O a b)(Z:b.length<=Bf):Yr C V O (.List a p) (.list b):=λ c s F G Q E d=>by
 rw[arm_eval_List,A7 p c.env a H.1];refine Ab (AL (Ab (H.2 c s F G _ _ λ vs h w k o N=>?_)));have W:vs.toArray.size<=Bf:=(DH ..).symm▸N.length▸Z;exact BJ (d _ _ _ (Gy k (Bv h)) (k.trans (.push _ _)) o ⟨_,_,Ak _ rfl,W,(N.bc (Bv h)).ac (.push _ _)⟩) (Aa W DX)
theorem Yr.dict:Yr C V O (.Dict [] [] p) (.dict []):=λ c s F G Q E h=>
 wpAny_Dict_empty (h _ _ _ (Bv s.heap) (.push _ _) (Ah _) ⟨[],⟨_,#[],0,Ak _ rfl,⟨rfl,rfl,rfl⟩,rfl,λ _ k=>by simp at k,Pairs.nil,List.nodup_nil⟩,SW c.Gk G (Bv s.heap),AP _,rfl,.nil⟩)
theorem Yr.ai (n:CE C V O l (.list xs))(q:CE C V O r b)(t:FE a (.list xs) b=some d):Yr C V O (.BinOp l a r p) d:=λ c s F G Q E u=>
 Ja (n c s F G _ _ λ v e N h o x=>q c {s with heap:=e,toks:=N} (F.ac h) (G.step h o) _ _ λ w H W k f rw=>
  Nv (s:={s with heap:=H,toks:=W}) ⟨xs,rfl⟩ (x.ac k) rw t _ _ λ v3 g Z i j m=>m.1▸u _ g Z (Gy (h.trans k) (Bv H)) ((h.trans k).trans i) (Aa o (Aa f j)) m.2)
end
section
variable {A:Around}{z:Env}{C:A5}{E:B3}{Q:Flow->Shared->Prop}
theorem ST.own (T:ST W V z N Z X O b Q s)(k:O.lookup x=some (.own d)):∃a,DP V z s.heap x (.ref a)/\a∈X/\a∉Z/\Bo W X s.heap a d:=by
 obtain⟨v,h,a,rfl,o,w,r⟩:=T.S.F.at k;exact⟨a,h,o,w,r⟩
theorem ST.n8 (T:ST W V z N Z X O (.next (AN O x (.own b))) Q s)(A:O.lookup x=some (.own d))(h:DP V z s.heap x (.ref a))(k:a∈X)(o:a∉Z)(r:Bo W X s.heap a d)(w:Heap.SameBut a s.heap H)(C:Bo W X H a b)(l:s.toks<=c):
 Q .next {s with heap:=H,toks:=c}:=T.q H c (T.S.n8 A h w k o (G3 r) C l) (.pi w k o) l
theorem Jp:Value.type "list"≠Value.type "frame":=by decide
theorem He {b:List PV}{a:Array Value}(r:RpL W X h a.toList b):a.size=b.length:=r.length
theorem JH (t:Dt W C k mg mb)(u:Cc k A)(B:XB W V z N){c:Pos}{b:Pos}{xs:List PV}(hk:(B1 a&&(b.endLine==c.line))=true)(g:O.lookup x=some (.own (.list xs)))(y:CE C V O a d)(G:xs.length<Bf):
 D3 W A V z N (exec (.Expr (.Call (.Attribute (.Name x f) "append" b) [a] [] c) e) z) O (.next (AN O x (.own (.list (xs++[d]))))):=.mk' λ Z X Q E s T=>by
 have j:=Ai.mp hk;have o:[a].all B1=true:=by rw[Ct,j.1];rfl
 obtain⟨D,w,l,I,r⟩:=T.own g;obtain⟨J,n,m,L,p⟩:=id r;refine wpAny_Expr (wpAny_Call_append rfl (Kk [a] c o (show 1<20 by decide)) j.2 (A7 c z [a] o) (FI.ms T.S.F g w ⟨D,J,rfl,⟨_,n,m,rfl,rfl,rfl⟩,T.ev t u B y λ v s T k M=>?_⟩)) (by simp only[interactive];rw[T.S.F.kind];rfl) rfl;have i:=k.keep m Jp nofun
 refine HP i L λ q H h o=>T.n8 g (w.ac k) l I (r.ac k) o ⟨_,H,h,?_,?_⟩ (Ah _)
 ·rw[Array.size_push,He p];exact G
 ·have:=((p.ac k).append (RpL.bp M)).bb o l;simpa using this
theorem VR (y:Dt W C k mg mb)(G:Cc k A)(B:XB W V z N)(hk:(B1 a&&(c.endLine==d.line))=true)(g:O.lookup x=some (.own (.list xs)))(I:CE C V O a (.list ys))(p:xs.length+ys.length<=Bf):
 D3 W A V z N (exec (.Expr (.Call (.Attribute (.Name x f) "extend" c) [a] [] d) e) z) O (.next (AN O x (.own (.list (xs++ys))))):=.mk' λ Z X Q E s T=>by
 have q:=Ai.mp hk;have o:[a].all B1=true:=by rw[Ct,q.1];rfl
 obtain⟨D,w,t,J,r⟩:=T.own g;obtain⟨R,n,i,S,j⟩:=id r;refine wpAny_Expr (wpAny_Call_method (T:="list") (id:="list.extend") rfl (Kk [a] d o (show 1<20 by decide)) q.2 PySem.F.plainAttrs_list PySem.F.slot_list_extend PySem.F.type_list_extend (FI.ms T.S.F g w ⟨⟨_,i,rfl⟩,λ b N=>by cases N;exact⟨_,i,rfl⟩,?_⟩)) (by simp only[interactive];rw[T.S.F.kind];rfl) rfl;rw[A7 d z [a] o];refine Dn rfl (AV (Ap (T.ev y G B I λ v s T k L=>AR ?_)));obtain⟨b,U,m,rfl,M,_,_,l⟩:=L.ah;refine UZ (k.keep i Jp nofun) M (by rw[He j,He l];exact p) λ u H h o=>T.n8 g (w.ac k) t J (r.ac k) o ⟨_,H,h,?_,?_⟩ (Ah _)
 ·rw[Array.size_append,He j,He l];exact p
 ·have:=((j.ac k).append l).bb o t;simpa using this
theorem SL (Y:Dt W C k mg mb)(hA:Cc k A)(B:XB W V z N)(G:O.lookup x=some (.own d))(hv:CE C V O v f)(hi:CE C V O i e)(m:jK d e f=some g)(M:swapsWith v (some (.Subscript (.Name x q) i c)) b.line z=pure false:=by rfl):
 D3 W A V z N (exec (.Assign [.Subscript (.Name x q) i c] v b) z) O (.next (AN O x (.own g))):=.mk' λ Z X Q E s T=>by
 obtain⟨a,u,I,hZ,r⟩:=T.own G;refine wpAny_Assign_Subscript (T.ev Y hA B hv λ v' s T w rv=>FI.ms T.S.F G (u.ac w) (T.ev Y hA B hi λ kv s T H rk=>?_)) M;have h:=(u.ac w).ac H;have o:=(r.ac w).ac H;have j:=rv.ac H;cases d with
 |list xs=>
  obtain⟨p,R,m⟩:=Aq.mp m;obtain rfl:=Kh R;obtain⟨hk,rfl⟩:=IE m;obtain⟨t,rfl⟩:=rk.ah;obtain⟨vs,n,J,S,L⟩:=id o;have l:=He L;have a1:Bf=1048576:=rfl;have D:=Be s.heap a (Obj.mapSeq (·.setIfInBounds p.toNat v'))
  refine ki_setAt J hk.1 (Int.lt_trans hk.2 (Cf (ET.mpr (l▸S)) (show((Bf:Nat):Int)<2^63 by decide+kernel))) (by rw[l];exact hk.2) (T.n8 G h I hZ o D ⟨_,_,PySem.IsL.update J (·.setIfInBounds p.toNat v'),?_,?_⟩ (Ah _))
  ·simpa using S
  ·have:=(RpL.set j p.toNat L).bb D I;simpa using this
 |dict es=>
  obtain⟨p,R,m⟩:=Aq.mp m;obtain rfl:=VO R;obtain⟨hk,rfl⟩:=IE m;obtain⟨t,rfl,_⟩:=rk.ah;obtain⟨U,J,y,S,q,L⟩:=id o;refine wpAny_setItem_pairs (knd:=W.K) (k:=p) (by simp[Bl.K,_root_.PySem.strKind,Value.isStrOf]) J (λ a0 hm D=>?_) (Aa (AG (by simpa using congrArg List.length q)) (Aa (Cx hk) DX));obtain⟨q1,q2⟩:=KM (k:=p) q L j;have a2:U.length=es.length:=by simpa using congrArg List.length q
  exact T.n8 G h I hZ o D ⟨_,hm,y,(by simpa using congrArg List.length q1)▸Aa (Fu ..) hk,q1,q2.bb D I⟩ (A8 _)
 |_=>contradiction
end
set_option genInjectivity false
set_option genSizeOfSpec false
class inductive Fi (W:Bl) (A:Around) (sc:Scope) (env:Env) (hb:Heap) (t:Expr) (b o:List Stmt):List PV->AM->Fl->Prop
 |nil {ρ0 fl0}:D3 W A sc env hb (execs o env) ρ0 fl0->Fi W A sc env hb t b o [] ρ0 fl0
 |next {x xs0 ρ0 ρb ρ20 fl0}:EO sc t x ρ0=some ρb->D3 W A sc env hb (execs b env) ρb (.next ρ20)->Fi W A sc env hb t b o xs0 ρ20 fl0->Fi W A sc env hb t b o (x::xs0) ρ0 fl0
 |brk {x xs0 ρ0 ρb ρ20}:EO sc t x ρ0=some ρb->D3 W A sc env hb (execs b env) ρb (.brk ρ20)->Fi W A sc env hb t b o (x::xs0) ρ0 (.next ρ20)
 |ret {x xs0 ρ0 ρb d}:EO sc t x ρ0=some ρb->D3 W A sc env hb (execs b env) ρb (.ret d)->Fi W A sc env hb t b o (x::xs0) ρ0 (.ret d)
section
variable {A:Around}{z:Env}{C:A5}{E:B3}{Q:Flow->Shared->Prop}
theorem Fi.ah (o:Fi W A V z N t b g (x::i) O f):∃h k,EO V t x O=some h/\D3 W A V z N (execs b z) h k/\(match k with | .next e=>Fi W A V z N t b g i e f | .brk e=>f=.next e | .ret d=>f=.ret d):=by
 cases o with
 |next a b c=>exact⟨_,_,a,b,c⟩
 |brk a b=>exact⟨_,_,a,b,rfl⟩
 |ret a b=>exact⟨_,_,a,b,rfl⟩
theorem Fi.rm (h:Fi W A V z N t b a [] O c):D3 W A V z N (execs a z) O c:=by
 cases h;assumption
variable {it:Expr} in
structure LB (W:Bl)(A:Around)(sc:Scope)(env:Env)(hb:Heap)(Z X:List Addr)(I:Addr)(xs:List PV)(St:Nat->Heap->Prop):Prop where
 it:ND W A (I::X) I xs St
 IX:I∉X
 Ib:hb.get? I=none
 zx:∀a∈Z,a∈X
 zf:∀a∈Ay env,a∈Z
 fr:∀a∈X,a∉Z->hb.get? a=none
variable {q:Pos}{st:Stmt} in
structure LI (W:Bl)(sc:Scope)(env:Env)(hb:Heap)(Z X:List Addr)(I:Addr)(St:Nat->Heap->Prop)(ρ:AM)(i:Nat)(fl:Fl)(Q:Flow->Shared->Prop)(s:Shared):Prop where
 st:St i s.heap
 S:XS W sc env hb (I::Z) (I::X) s ρ
 q:GT W sc env hb Z X s fl Q
theorem LB.If {St:Nat->Heap->Prop}(B:LB W A V z N Z X I a St):I∉Ay z:=λ q=>B.IX (B.zx _ (B.zf _ q))
theorem LB.ne {St:Nat->Heap->Prop}(B:LB W A V z N Z X I a St)(st:St i h)(hc:(b∉X/\Dy o)\/(b∈Z/\¬C3 V z b/\o.cls≠.type "frame"/\o.cls≠.none))(s:h.get? b=some o):b≠I:=λ q=>by
 obtain⟨H,k,_,_,_,w⟩:=B.it.mu _ _ st;rcases hc with⟨_,C⟩ |⟨E,_⟩
 ·simp only[q,k] at s;cases s;exact w C
 ·exact B.IX (B.zx _ (q▸E))
theorem LB.ag {St:Nat->Heap->Prop}(B:LB W A V z N Z X I a St)(st:St i h)(s:C9 V z (I::Z) (I::X) h H):C9 V z Z X h H:=λ b o hc k=>
 s b o (hc.imp (λ c=>⟨λ q=>(Ae.mp q).elim (B.ne st hc k) c.1,c.2⟩) λ c=>⟨Ad _ c.1,c.2⟩) k
theorem LB.frame {St:Nat->Heap->Prop}(B:LB W A V z N Z X I a St)(st:St i h)(C:C9 V z (I::Z) (I::X) h H):St i H:=by
 obtain⟨Q,k,E,_,O,_⟩:=B.it.mu _ _ st;exact B.it.frame _ _ _ st (λ o s=>by obtain rfl:=AF k s;exact C I _ (.inr ⟨Ac,λ q=>B.If (Im q),O,E⟩) k) λ b o N s w=>C b o (.inl ⟨N,w⟩) s
theorem LB.drop {St:Nat->Heap->Prop}(B:LB W A V z N Z X I a St)(S:XS W V z N (I::Z) (I::X) s O):XS W V z N Z X s O:=⟨S.F.bk (λ _ _ _ e=>e) B.If B.IX B.zx,S.le,S.tk,B.fr,S.fc⟩
theorem LB.ext {St:Nat->Heap->Prop}(B:LB W A V z N Z X I d St)(L:LI W V z N Z X I St O i a Q s)(e:Heap.ExtBut I s.heap h)(l:s.toks<=c):GT W V z N Z X {s with heap:=h,toks:=c} a Q/\A9 W N h:=by
 obtain⟨o,k,C,E,_⟩:=B.it.mu _ _ L.st;exact⟨L.q.aq (λ b o hc k=>e b o (B.ne L.st hc k) k) l,L.S.le.ext B.Ib (λ H f w g=>by obtain rfl:=AF k w;exact⟨C,E⟩) e⟩
theorem LB.step {St:Nat->Heap->Prop}(B:LB W A V z N Z X I b St)(L:LI W V z N Z X I St O i a Q s)(e:Heap.ExtBut I s.heap h)(st:St j h)(l:s.toks<=tk):LI W V z N Z X I St O j a Q {s with heap:=h,toks:=tk}:=
 ⟨st,⟨L.S.F.ext e Ac B.If (by obtain⟨o,k,_⟩:=B.it.mu _ _ st;exact⟨o,k⟩),(B.ext L e l).2,Aa L.S.tk l,L.S.fr,L.S.fc.at λ o k=>e _ o (λ q=>B.If (q▸Ac)) k⟩,(B.ext L e l).1⟩
theorem LB.out {St:Nat->Heap->Prop}(B:LB W A V z N Z X I c St)(L:LI W V z N Z X I St O i a Q s)(e:Heap.ExtBut I s.heap h)(l:s.toks<=b):ST W V z N Z X O a Q {s with heap:=h,toks:=b}:=
 ⟨⟨L.S.F.bk e B.If B.IX B.zx,(B.ext L e l).2,Aa L.S.tk l,B.fr,L.S.fc.at λ o k=>e _ o (λ q=>B.If (q▸Ac)) k⟩,(B.ext L e l).1⟩
theorem LB.pe {St:Nat->Heap->Prop}(B:LB W A V z N Z X I d St)(L:LI W V z N Z X I St O i c Q s)(S:XS W V z N (I::Z) (I::X) {s with heap:=h,toks:=b} a)(k:C9 V z (I::Z) (I::X) s.heap h)(l:s.toks<=b):LI W V z N Z X I St a i c Q {s with heap:=h,toks:=b}:=
 ⟨B.frame L.st k,S,L.q.aq (B.ag L.st k) l⟩
end
section
variable {A:Around}{z:Env}{C:A5}{E:B3}{Q:Flow->Shared->Prop}
theorem LI.cast {St:Nat->Heap->Prop}(e:b=a)(L:LI W V z N Z X I St O i b Q s):LI W V z N Z X I St O i a Q s:=e▸L
theorem LI.s4 {St:Nat->Heap->Prop}(L:LI W V z N Z X I St a i (.next O) Q s)(S:XS W V z N Z X s O):Q .next s:=L.q _ _ S .refl (Ah _)
theorem LI.sy {St:Nat->Heap->Prop}(L:LI W V z N Z X I St c i (.ret d) Q s)(k:A9 W N h)(l:s.toks<=b)(r:Rp W (I::Z) h v d):Q (.ret v) {s with heap:=h,toks:=b}:=L.q v h b k l (r.ag λ a o=>Ad _ o)
structure LN (W:Bl)(A:Around)(sc:Scope)(env:Env)(hb:Heap)(Z X:List Addr)(I:Addr)(St:Nat->Heap->Prop)(t:Expr)(b o:List Stmt)(xs:List PV)(fl:Fl)(Q:Flow->Shared->Prop)(n:Nat)(s:Shared):Prop where
 ex:∃ρ i,i<=xs.length/\n=xs.length-i/\LI W sc env hb Z X I St ρ i fl Q s/\Fi W A sc env hb t b o (xs.drop i) ρ fl
theorem QG {R:Result->Shared->Prop}{c:List PV}{t:Expr}{j:Fl}{I:Addr}{St:Nat->Heap->Prop}(hh:A.handled=none)(Bx:XB W V z N)(B:LB W A V z N Z X I c St){b g:List Stmt}(L:LI W V z N Z X I St O 0 j (λ f l=>R (.ok f) l) s)(e:Fi W A V z N t b g c O j):codeAny W.M A (.forLoop t (.ref I) b g z) R s:=by
 refine HK (LN W A V z N Z X I St t b g c j λ f l=>R (.ok f) l) (λ n l hI=>Jb λ Q' E' U gE=>?_) c.length ⟨O,0,AP _,rfl,L,e⟩;obtain⟨a0,i,hi,hn,L,M⟩:=hI.ex;by_cases w:i<c.length
 ·rw[ES w] at M;obtain⟨a1,f1,h1,h2,p⟩:=M.ah;refine BG (n:=l.toks) (Ah _) (B.it.item i l _ _ c[i] L.st (AW w) λ v x q rv C E H=>U _ _ ?_);have L:=B.step L E C H;refine B.it.ou (i+1) _ _ _ t v C (EC hh Bx L.S h1 rv λ Y S y u D=>?_);have L:=B.pe L y (u.aj λ a ha=>L.S.F.bq ha) D;refine h2.go (I::Z) (I::X) _ _ _ L.S ?_;cases f1 with
  |next G=>exact λ m Q o k h=>⟨_,hn▸Nat.sub_succ_lt_self _ _ w,G,i+1,w,rfl,B.pe L o k h,p⟩
  |brk G=>exact λ m Q o k h=>((B.pe L o k h).cast p).s4 (B.drop o)
  |ret d=>exact λ v m Q T h r=>(L.cast p).sy T h r
 ·have J:i=c.length:=JX hi (BC.mp w);rw[J,List.drop_length] at M;exact BG (n:=l.toks) (Ah _) (B.it.done l _ _ (J▸L.st) λ x q E H=>U _ _ (M.rm.run (B.out L E H)))
end
set_option genInjectivity false
set_option genSizeOfSpec false
section
variable {A:Around}{z:Env}{C:A5}{E:B3}
theorem Hy (x:Dt W C k mg mb)(g:Cc k A)(B:XB W V z N)(r:LJ C V O f e)(i:Fi W A V z N t b d e O fl):D3 W A V z N (exec (.For t f b d pos) z) O fl:=.mk' λ Z X Q E s T=>by
 rw[arm_exec_For];refine Ab (AL (Ab (T.te x g B (R:=λ c v i=>dC c.W c.X i v e) (λ c y _ _=>y▸r.2 c) λ v s T k D=>Ab (Dc (IZ r.1 z v) (Ab (AL (Ab (Bk ?_))))))));refine E0 D λ I o j l hk m=>?_;have w:I∉X:=λ q=>Ey j (T.S.F.am I q) rfl;have h:A9 W s.heap o:=.ae hk;obtain⟨St,n,p⟩:=ND.of (A:=A) (m w) Ac g.handled;have H:XS W V z N (I::Z) (I::X) {s with heap:=o} O:=
  ⟨T.S.F.fresh (B.al.trans T.S.le) h j l,T.S.le.trans h,T.S.tk,λ a G u=>T.S.fr a ((Ae.mp G).resolve_left λ q=>u (q▸Ac)) λ q=>u (Ad _ q),T.S.fc.bd h⟩
 refine KA (h:=none) ?_;rw[K5];exact QG g.handled B ⟨p,w,Gy T.S.le j,T.S.F.zx,T.S.F.ba,T.S.fr⟩ ⟨n,H,T.q.aq h.aj (Ah _)⟩ i
structure Q2 (W:Bl)(A:Around)(sc:Scope)(env:Env)(hb:Heap)(sts:List Stmt)(ρ:AM)(d:PV):Prop where
 go:∀(Z X:List Addr)(s:Shared)(Q:Flow->Shared->Prop)(E:B3),XS W sc env hb Z X s ρ->(∀v h' tk,A9 W hb h'->s.toks<=tk->Rp W Z h' v d->Q (.ret v) {s with heap:=h',toks:=tk})->wpAny W.M A (execs sts env) Q E s
theorem Jl {r:List Stmt}{st:Stmt}{ρ1:AM}{d:PV}(c:D3 W A V z N (exec st z) O (.next ρ1))(e:Q2 W A V z N r ρ1 d):Q2 W A V z N (st::r) O d:=.mk λ Z X s Q E S f=>
 Aj (c.go Z X s _ _ S λ o h w i C=>e.go Z X {s with heap:=o,toks:=h} Q E w λ v H k b a g=>f v H k b (Aa C a) g)
theorem Hx {r:List Stmt}{st:Stmt}{d:PV}(h:D3 W A V z N (exec st z) O (.ret d)):Q2 W A V z N (st::r) O d:=.mk λ Z X s Q E S k=>Aj (h.go Z X s _ _ S k)
theorem Rk {b:Pos}(p:Dt W C k mg mb)(t:Cc k A)(B:XB W V z N)(u:Yr C V O v d')(j:(AI V x&&SR O x)=true)(y:Q2 W A V z N r (AN O x (.own d')) d)
 (hw:swapsWithSole [.Name x q] v b.line z=pure false:=by rfl):Q2 W A V z N (.Assign [.Name x q] v b::r) O d:=.mk λ Z X s Q E S D=>
 have j:=Ai.mp j
 Aj (BA rfl hw rfl (u ⟨W,A,z,Z,X,_,mg,mb,p,t⟩ s S.F (S.gd B) _ _ λ a n l G w H I=>
  Od B S j.1 (RH j.2) G w H I λ c h e f=>y.go Z (a::X) {s with heap:=c,toks:=h} Q _ e λ v g o m i J=>D v g o m (Aa f i) J))
theorem Lx (m:EH W a fd f c){g:List PV->Option PV}(V:∀args d,g args=some d->args.length=f.length/\∀A h H,Cc k A->XB W fd.scope h H->Q2 W A fd.scope h H c (f.zip (args.map CB.aa)) d):Fa W (k+1) a g:=
 λ A s X args Z d i G n r e Q E p=>
  EB m i G n (JW.rd r) ((Af _).trans (V args d e).1) λ h j N t B l w S=>
   ((V args d e).2 _ h _ (i.down h) B).go _ _ _ _ _ S λ v z o O C q=>p v z o O (Aa w C) (q.ag λ b H=>Ao.mpr (.inr H))
end
set_option genInjectivity false
set_option genSizeOfSpec false
section
variable {A:Around}{z:Env}{C:A5}{E:B3}{Q:Flow->Shared->Prop}
theorem Wi {Cl:Addr}{d:List Value}{c g:Pos}(y:Dt W C k mg mb)(D:Cc k A)(B:XB W V z N){x:Str}(I:El W mg x Cl d)(S:XS W V z N Z X s O){a:Expr}{b:Str}{f:Pos}(n:B1 a=true)(U:BU V x=true)(Y:CE C V O a (.str b))
 (hE:∀p J e t,A9 W s.heap p->s.toks<=J->PyData.strOk b=true->b.length<=Bf->Hu W s.heap p e (.ref Cl) (.str b t)->E (.ref e) {s with heap:=p,toks:=J}):
 wpAny W.M A (exec (.Raise (some (.Call (.Name x g) [a] [] c)) none f) z) Q E s:=by
 obtain⟨nm,q,a0,bs,H,sn,sub,ab,r,dd,k0,k1,k2,k3,k5,Bn,o,l,a1,mN,a2,L,hC,hN,u,M,_⟩:=I.cls;have R:[a].all B1=true:=by rw[Ct,n];rfl
 have G:=S.gd B;refine wpAny_Raise_call_subT (C:=Cl) (nm:=nm) (q:=q) (N:=a0) (bs:=bs) (bm:=d) (hdct:=H) (sn:=sn) (sub:=sub) (ab:=ab) (col:=r) (dd:=dd) (k0:=k0) (k1:=k1) (k2:=k2) (k3:=k3) (k5:=k5) (newId:=o) L (M.hasType L.hasBase) D.handled
  (by rw[A7 c z [a] R];rfl) u (BK y S.F G U (.inl I.na) ⟨rfl,?_⟩)
 simp only[A7 c z [a] R];refine AV (Ap (Y ⟨W,A,z,Z,X,_,mg,mb,y,D⟩ s S.F G _ _ λ v T w h i rv=>AR ⟨rfl,by show 1<=sizeLine;decide,(G.al.trans h).keep hC (by simp) (by simp),Co (G.al.trans h) hN,P6 (G.al.trans h) M,λ j e m=>?_⟩));obtain⟨t,rfl,o1,z1⟩:=rv.ah;exact hE j w e t (h.trans (.ae m.keeps)) i o1 z1 ((Hu.rh m).qr h)
structure NV (W:Bl)(A:Around)(sc:Scope)(env:Env)(hb:Heap)(Cl:Addr)(sts:List Stmt)(ρ:AM)(out:mO):Prop where
 go:∀(Z X:List Addr)(s:Shared)(Q:Flow->Shared->Prop)(E:B3),XS W sc env hb Z X s ρ->(∀d,out=.ret d->∀v h' tk,A9 W hb h'->s.toks<=tk->Rp W Z h' v d->Q (.ret v) {s with heap:=h',toks:=tk})->
  (∀x w,out=.ut x w->∀h' tk e t,CZ env h'->s.toks<=tk->PyData.strOk w=true->w.length<=Bf->Hu W hb h' e (.ref Cl) (.str w t)->E (.ref e) {s with heap:=h',toks:=tk})->wpAny W.M A (execs sts env) Q E s
theorem Hb {Cl:Addr}{r:List Stmt}{st:Stmt}{a:AM}{b:mO}(i:D3 W A V z N (exec st z) O (.next a))(j:NV W A V z N Cl r a b):NV W A V z N Cl (st::r) O b:=.mk λ Z X s Q E S l m=>
 Aj (i.go Z X s _ _ S λ c H f B C=>j.go Z X {s with heap:=c,toks:=H} Q E f (λ d n v k h g o p=>l d n v k h g (Aa C o) p) λ x w q k h e t u o y z1 F=>m x w q k h e t u (Aa C o) y z1 F)
theorem Rj {Cl:Addr}{r:List Stmt}{st:Stmt}{d:PV}(h:D3 W A V z N (exec st z) O (.ret d)):NV W A V z N Cl (st::r) O (.ret d):=.mk λ Z X s Q E S k o=>
 Aj (h.go Z X s _ _ S (k d rfl))
theorem Io {Cl:Addr}{r:List Stmt}{c:Pos}{t:Expr}{a:mO}(h:Dt W C k mg mb)(o:Cc k A)(B:XB W V z N){b:List Stmt}(s:I4 C V O t false)(w:NV W A V z N Cl r O a):NV W A V z N Cl (.If t b [] c::r) O a:=
 Hb (DY h o B s DN) w
theorem KJ {Cl:Addr}{f:List Value}{r:List Stmt}{i g d:Pos}{t:Expr}(p:Dt W C k mg mb)(q:Cc k A)(B:XB W V z N){a:Expr}{x b:Str}{c:Pos}(v:I4 C V O t true)(y:El W mg x Cl f)(D:BU V x=true)(G:B1 a=true)(I:CE C V O a (.str b)):
 NV W A V z N Cl (.If t [.Raise (some (.Call (.Name x g) [a] [] i)) none c] [] d::r) O (.ut x b):=.mk λ Z X s Q E S T J=>
 Aj (J1 (v ⟨W,A,z,Z,X,_,mg,mb,p,q⟩ s S.F (S.gd B) _ _ λ U u n H o e=>by
  subst e;have h:=S.ac H o;exact Aj (Wi p q B y h G D I λ j w L M l m R z1 F=>J x b rfl j w L M (h.fc.bd l) (Aa o m) R z1 (F.qr h.le))))
theorem Yy {Cl a:Addr}{args:List PV}{g:List Value}{c:List Stmt}{l:List Env}{i:List Str}{f:mO}(I:EH W a fd i c)(T:args.length=i.length)(U:∀A h p,Cc k A->XB W fd.scope h p->NV W A fd.scope h p Cl c (i.zip (args.map CB.aa)) f)
 (J:Cc (k+1) A) (q:A.frames=some l) (St:AQ W s.heap l) (G:Gd W s) (Y:∀b∈X,W.h0.get? b=none/\∃o,s.heap.get? b=some o) (r:RpL W X s.heap g args) {j:B3}
 (hQ:∀d,f=.ret d->∀v O V,A9 W s.heap O->s.toks<=V->Rp W X O v d->j v {s with heap:=O,toks:=V})
 (hE:∀x w,f=.ut x w->∀O V e t,s.toks<=V->PyData.strOk w=true->w.length<=Bf->Hu W s.heap O e (.ref Cl) (.str w t)->AQ W O l->E (.ref e) {s with heap:=O,toks:=V}):
 wpAny W.M A (call (.ref a) g) j E s:=
 EB I J G Y (JW.rd r) ((Af _).trans T) λ h L u M B R N S=>
  (U _ h _ (J.down h) B).go _ _ _ _ _ S (λ d hd v C z y H rv=>hQ d hd v C z y (Aa N H) (rv.ag λ b p=>Ao.mpr (.inr p))) λ x w hx C z e' t fc H o1 z1 F=>
by
 have Z:(A.deeper h).frames=some (h::l):=by show A.frames.map (h::·)=_;rw[q];rfl
 have D:AQ W C (h::l):=⟨by rw[M];rw[I.kind];nofun,by rw[M];rfl,(S.F.alive h.locals (S.F.zx _ (S.F.ba _ Ac))).1,fc,St.bd F.1⟩;exact Hu.bk (s:={s with heap:=C,toks:=z}) (by simp) Z D F λ m n Q=>hE x w hx m z e' t (Aa N H) o1 z1 n Q.2.2.2.2
theorem cB {Cl a:Addr}{c:List Stmt}{f:List Str}(n:EH W a fd f c){g:List PV->Option PV}(Z:∀args d,g args=some d->args.length=f.length/\∀A h N,Cc k A->XB W fd.scope h N->NV W A fd.scope h N Cl c (f.zip (args.map CB.aa)) (.ret d)):Fa W (k+1) a g:=
 λ A s X args i d j G p r e Q E q=>
  EB n j G p (JW.rd r) ((Af _).trans (Z args d e).1) λ h l O y B m z S=>
   ((Z args d e).2 _ h _ (j.down h) B).go _ _ _ _ _ S (λ D t v C o V H u=>q v C o V (Aa z H) (by cases t;exact u.ag λ b N=>Ao.mpr (.inr N))) λ x w I=>(by contradiction)
theorem VC {Cl a:Addr}{args:List PV}{f:List Value}{c:List Stmt}{l:List Env}{g:List Str}(H:EH W a fd g c){x i:Str}(N:args.length=g.length)(O:∀A h C,Cc k A->XB W fd.scope h C->NV W A fd.scope h C Cl c (g.zip (args.map CB.aa)) (.ut x i))
 (V:Cc (k+1) A) (w:A.frames=some l) (St:AQ W s.heap l) (G:Gd W s) (Z:∀b∈X,W.h0.get? b=none/\∃o,s.heap.get? b=some o) (r:RpL W X s.heap f args):Rz W A (call (.ref a) f) s l Cl i:=
 λ Q E j=>Yy H N O V w St G Z r (λ d u=>(by contradiction)) λ v y m n p e t l q z1 F z=>by cases m;exact j n p e t l q z1 F z
end
section
variable {A:Around}{E:B3}
end
structure DR (h:Heap)(c P:Addr)(ps:Array Value):Prop where
 hd:CodeHd h c P
 at_:h.get? P=some (tabObj ps)
 ok:TriplesOk ps.toList
theorem DR.keeps (T:DR h c P a)(k:∀b o,h.get? b=some o->H.get? b=some o):DR H c P a:=⟨T.hd.keeps k,k _ _ T.at_,T.ok⟩
theorem DR.ne (T:DR h c P a):c≠P:=
 by obtain⟨_,_,_,_,_,_,_,_,_,e⟩:=T.hd;exact e.2.2.2.2.2.2.2.2.2
theorem ZU (T:CodeHd h c P):∃o,h.get? c=some o/\o.cls=.type "code":=
 by obtain⟨o,_,_,_,_,_,_,_,_,e⟩:=T;exact⟨o,e.1,e.2.1⟩
theorem Td (T:CodeHd h c P)(k:∀o,h.get? c=some o->H.get? c=some o):CodeHd H c P:=
 by obtain⟨o,s,w,N,O,Q,V,W,Z,e⟩:=T;exact⟨o,s,w,N,O,Q,V,W,Z,k o e.1,e.2⟩
theorem DR.extBut (T:DR h c P b)(k:Heap.ExtBut a h H)(o:c≠a)(s:P≠a):DR H c P b:=
 ⟨Td T.hd λ _=>k _ _ o,k _ _ s T.at_,T.ok⟩
theorem DR.more (T:DR h c P d)(o:Heap.ExtBut P h H)(hP:H.get? P=some (tabObj (d++ #[rawInt a,rawInt b,v]))):DR H c P (d++ #[rawInt a,rawInt b,v]):=by
 have k:=T.ne;refine⟨Td T.hd λ _=>o _ _ k,hP,?_⟩;have:(d++ #[rawInt a,rawInt b,v]).toList=d.toList++[rawInt a,rawInt b,v]:=by simp
 rw[this];exact TriplesOk_snoc _ _ _ _ T.ok
section
variable {A:Around}{E:B3}
theorem Sl {a:Pos}{M:Model}{g:Env}{d:CodeContext->Sem Value}{f:Array Value}(n:g.code=.ref c)(T:DR s.heap c P f)
 (p:∀S(s:Shared)(Q:B3)(E:B3),(∀h N w v,(∀b o,s.heap.get? b=some o->w.get? b=some o)->s.heap.objs.size<=h->s.heap.objs.size<=N->w.IsCode h N #[]->w.TableAt h N #[]->w.CodeRec (.ref h) qual->Q (.ref h) {s with heap:=w,toks:=v})->wpAny M A (d S) Q E s)
 (x:∀R,codeAmong a f.toList=some R->Q R s)
 (q:codeAmong a f.toList=none->∀h N w v,Heap.ExtBut P s.heap w->s.heap.objs.size<=h->s.heap.objs.size<=N->h<w.objs.size->N<w.objs.size->DR w c P (f++ #[rawInt a.line,rawInt a.col,.ref h])->DR w h N #[]->w.CodeRec (.ref h) qual->s.toks<=v->Q (.ref h) {s with heap:=w,toks:=v}):
 wpAny M A (codeAt g a d) Q E s:=by
 refine C6 λ gg kk=>?_;obtain⟨o,H,a3,tf,U,tg,a6,a4,tt,op,ho,hd,Y,h2,h7,h9,a0,O,r,a1,a7⟩:=T.hd.code T.at_ T.ok;refine kk ?_;unfold codeAt;rw[n,if_neg (Ce)];refine Ab (wpAny_fieldsOf ho hd ?_);rw[Y];refine Ab (wpAny_fieldsOf O r ?_);cases V:codeAmong a f.toList with
 |some R=>exact Ag (x R V)
 |none=>
 rw[h2,h7,h9,a0];refine BG (n:=s.toks) (Ah _) (Ab (p _ _ _ _ λ h N w v hk y z k W t=>?_));have i:=hk _ _ O;refine Ab (wpAny_updateFieldsOfTheText i r ?_);have j:(Obj.mapFields (λ H=>if(codeAmong a H.toList).isSome=true then H else H++ #[rawInt a.line,rawInt a.col,.ref h]) op).data=
  .fields (f++ #[rawInt a.line,rawInt a.col,.ref h]):=by
  rw[CX r,V];rfl
 have m:=Br (h:=w) (λ o=>Obj.mapFields (λ H=>if(codeAmong a H.toList).isSome=true then H else
  H++ #[rawInt a.line,rawInt a.col,.ref h]) o) i (CU j)
 refine Ab (wpAny_fieldsOf m j ?_);have hl:(f++ #[rawInt a.line,rawInt a.col,Value.ref h]).toList=f.toList++[rawInt a.line,rawInt a.col,.ref h]:=by simp
 simp only[hl,codeAmong_snoc _ a1 V];have B:h≠P:=Cm (AJ (Az O) y);have a2:N≠P:=Cm (AJ (Az O) z);have Z:=(Be w P (λ o=>Obj.mapFields (λ H=>if(codeAmong a H.toList).isSome=true then H else H++ #[rawInt a.line,rawInt a.col,Value.ref h]) o)).extBut;refine Ag λ l=>q V h N _ _ (λ b C hb e=>Z b C hb (hk b C e)) y z (by rw[Heap.size_after_update];exact k.lt.1) (by rw[Heap.size_after_update];exact k.lt.2) ?_ ?_ ?_ l
 ·refine T.more (λ b C hb e=>Z b C hb (hk b C e)) ?_;rw[m,(Au (O.symm.trans T.at_))];rw[Obj.mapFields,V];rfl
 ·exact(⟨CodeHd.of k W,W.2,trivial⟩:DR w h N #[]).extBut Z B a2
 ·obtain⟨a5,D,u,G,I,J,L⟩:=t;cases I;exact⟨_,D,u,G,rfl,Z _ _ B J,L⟩
theorem Ng:∀(l m:List Value),TriplesOk l->codeAmong d l=some c->codeAmong d (l++m)=some c:=by
 intro l m
 fun_induction TriplesOk l with
 |case1=>intro _ h;contradiction
 |case2 a w b A v o s=>
  intro k h;dsimp only[Gf,codeAmong] at h ⊢;split at h
  ·rename_i q;rw[if_pos q];exact h
  ·rename_i q;rw[if_neg q];exact s k h
 |case3=>intro k;exact k.elim
noncomputable abbrev Sk (name h:Str)(params:Arguments)(k:List Stmt)(scope:Scope)(o:List (Str×Addr))(s w A:Value):FuncData:=
 {name,qualname:=h,params,body:=.stmts k,scope,globals:=mainGlobals,closure:=o,defaults:=.none,kwdefaults:=.none,pyModule:=s,code:=w,closureTuple:=A,builtins:=builtinsNs}
noncomputable abbrev Tq (name o:Str)(h:Arguments)(s:List Stmt)(k:Scope)(w:List (Str×Addr))(A E H:Value):Obj:=
 {cls:=.type "function",data:=.func (Sk name o h s k w A E H)}
noncomputable abbrev RT (name h:Str)(params:Arguments)(k:Expr)(scope:Scope)(o:List (Str×Addr))(s w A:Value):FuncData:=
 {name,qualname:=h,params,body:=.expr k,scope,globals:=mainGlobals,closure:=o,defaults:=.none,kwdefaults:=.none,pyModule:=s,code:=w,closureTuple:=A,builtins:=builtinsNs}
variable {vs:List Value}{c n:Nat}{t:Expr}{g:Array GenState} in
inductive Cd (h:Heap)(cd:Value)(q:Str):Prop
 |mk (c:Addr) (o:Obj) (vs:Array Value) (t:Tok) (e:cd=.ref c) (g:h.get? c=some o) (k:o.cls=.type "code") (d:o.data=.fields vs) (n:vs[1]? =some (.str q t))
theorem Cd.ol (x:Cd h f q):h.CodeRec f q:=by obtain⟨c,o,k,t,a,b,_,d,e⟩:=x;exact⟨c,o,k,t,a,b,d,e⟩
theorem Cd.at_ (x:Cd h f q)(k:∀b o,h.get? b=some o->o.cls=.type "code"->H.get? b=some o):Cd H f q:=by obtain⟨c,o,s,t,a,b,hc,d,e⟩:=x;exact⟨c,o,s,t,a,k _ _ b hc,hc,d,e⟩
theorem Cd.of (x:h.CodeRec (.ref c) q)(T:DR h c P a):Cd h (.ref c) q:=by
 refine C6 λ N s=>?_;obtain⟨O,o,w,t,e,k,A,E⟩:=x;refine s ?_;cases e;obtain⟨Q,H,hc⟩:=ZU T.hd;obtain rfl:=AF k H;exact⟨c,o,w,t,rfl,k,hc,A,E⟩
structure iG (h h':Heap)(P c:Addr)(ps ps':Array Value)(pos:Pos)(qual:Str)(f:Addr)(o:Obj)(cv:Value):Prop where
 ext:Heap.ExtBut P h h'
 new:h.get? f=none
 at_:h'.get? f=some o
 rz:DR h' c P ps'
 hit:codeAmong pos ps'.toList=some cv
 ol:Cd h' cv qual
 more:∀pos' cv',codeAmong pos' ps.toList=some cv'->codeAmong pos' ps'.toList=some cv'
 only:∀pos' cv',codeAmong pos' ps'.toList=some cv'->codeAmong pos' ps.toList=some cv'\/(cv'=cv/\codeAmong pos ps.toList=none/\pos'.line=pos.line/\pos'.col=pos.col)
 same:(codeAmong pos ps.toList).isSome=true->ps'=ps
 pre:∃more,ps'=ps++more
theorem JS {e:Pos}:∀(l:List Value),TriplesOk l->codeAmong d (l++[rawInt e.line,rawInt e.col,c])=some f->codeAmong d l=some f\/(f=c/\d.line=e.line/\d.col=e.col):=by
 intro l
 fun_induction TriplesOk l with
 |case1=>
  intro _ h;dsimp only[GL,codeAmong,rawInt] at h;split at h
  ·rename_i q;rw[As,beq_iff_eq] at q;cases h;exact .inr ⟨rfl,by have:=q.1;omega,by have:=q.2;omega⟩
  ·contradiction
 |case2 a w b A v o s=>
  intro k h;dsimp only[Gf,codeAmong] at h ⊢;split at h
  ·rename_i q;rw[if_pos q];exact .inl h
  ·rename_i q;rw[if_neg q];exact s k h
 |case3=>intro k;exact k.elim
theorem RL {M:Model}{n:Env}{p:Array Value}
 (a3:closureFor scope n=pure m) (a4:n.globals=mainGlobals) (hg:s.heap.Ns mainGlobals mg) (D:n.code=.ref c) (T:DR s.heap c P p) (a5:mainGlobals≠P) (L:s.heap.BuiltinsAt mg P)
 (a6:∀W,codeAmong j p.toList=some W->Cd s.heap W i)
 (b5:∀f W z Z x N,iG s.heap Z P c p N j i f {cls:=.type "function",data:=.func {name,qualname:=i,params,body:=.expr v,scope,globals:=mainGlobals,closure:=m,defaults:=.none,kwdefaults:=.none,pyModule:=(mg "__name__").getD .none,code:=W,closureTuple:=z,builtins:=builtinsNs}} W->s.toks<=x->s.heap.objs.size<=f->
  Q (.ref f) {s with heap:=Z,toks:=x}):
 wpAny M A (makeFunction name i params (.expr v) scope n [] [] [] j u) Q E s:=by
 rw[makeFunction_eq];simp;refine C6 λ gg kk=>?_;obtain⟨bm,ob,a7,R,_,S,a8,U,G,I⟩:=L;refine kk ?_;have B:∀(z:Value)(h:Heap)(w:Nat),(∀b o,s.heap.get? b=some o->h.get? b=some o)->s.heap.objs.size<=h.objs.size->s.toks<=w->
  wpAny M A (do
   let cd <-functionCode n j u name i params scope (.expr v)
   let Y <-builtinsFor mainGlobals n.builtins
   let nm <-nsGet mainGlobals "__name__"
   newObj (.type "function") (.func {name,qualname:=i,params,body:=.expr v,scope,globals:=mainGlobals,closure:=m,defaults:=.none,kwdefaults:=.none,annotations:=none,pyModule:=nm.getD .none,code:=cd,closureTuple:=z,builtins:=Y,doc:=.none})) Q E {s with heap:=h,toks:=w}:=λ z h w H O y=>by
  have C:=T.keeps H;have B:∀(W:Value)(Z:Heap)(x:Nat)(N:Array Value),Heap.ExtBut P h Z->h.objs.size<=Z.objs.size->DR Z c P N->codeAmong j N.toList=some W->Cd Z W i->(∀k V,codeAmong k p.toList=some V->codeAmong k N.toList=some V)->
   (∀k V,codeAmong k N.toList=some V->codeAmong k p.toList=some V\/(V=W/\codeAmong j p.toList=none/\k.line=j.line/\k.col=j.col))->((codeAmong j p.toList).isSome=true->N=p)->(∃a0,N=p++a0)->s.toks<=x->
   wpAny M A (do
    let Y <-builtinsFor mainGlobals n.builtins
    let nm <-nsGet mainGlobals "__name__"
    newObj (.type "function") (.func {name,qualname:=i,params,body:=.expr v,scope,globals:=mainGlobals,closure:=m,defaults:=.none,kwdefaults:=.none,annotations:=none,pyModule:=nm.getD .none,code:=W,closureTuple:=z,builtins:=Y,doc:=.none})) Q E {s with heap:=Z,toks:=x}:=λ W Z x N hx hz T' a9 rc a1 only same b0 l=>by
   have a2:=(hg.keeps H).extBut hx a5;refine Ab (wpAny_builtinsFor a2 a7 R (hx _ _ S (H _ _ a8)) U G I (Ab (wpAny_nsGet a2 ?_)));have b1:Heap.ExtBut P s.heap Z:=λ b o L e=>hx b o L (H b o e);exact BJ (b5 Z.objs.size W z _ x N ⟨λ b o L e=>Am _ (b1 b o L e),(II (Aa O hz)),Ak _ rfl,T'.keeps λ b o e=>Am _ e,a9,rc.at_ λ b o e _=>Am _ e,a1,only,same,b0⟩ l (Aa O hz)) (by size_fits)
  refine Ab (Sl (s:={s with heap:=h,toks:=w}) (qual:=i) D C (λ b6 s Q E hQ=>wpAny_newCodeX λ c' P' Z x a b d e f g=>hQ c' P' Z x a b d e f g) (λ W hc=>?_) λ J c' P' Z x hx b2 b7 b3 b8 T' b4 rc l=>?_)
  ·exact B W h w p (λ _ _ _ e=>e) (Ah _) C hc ((a6 W hc).at_ λ b o e _=>H b o e) (λ _ _ e=>e) (λ _ _ e=>.inl e) (λ _=>rfl) ⟨#[],by rfl⟩ y
  ·have hl:(p++ #[rawInt j.line,rawInt j.col,Value.ref c']).toList=p.toList++[rawInt j.line,rawInt j.col,.ref c']:=by simp
   refine B (.ref c') Z x _ hx (Cx (Av b2 b3)) T' ?_ (.of rc b4) (λ k V e=>?_) (λ k V e=>?_) (λ q=>by(first |exact BZ J q |obtain rfl:=AF J q |cases Eq.trans (Eq.symm J) q |(rw[J] at q;exact Bool.noConfusion q))) ⟨_,rfl⟩ (Aa y l)
   ·rw[hl];exact codeAmong_snoc _ T.ok J
   ·rw[hl];exact Ng _ _ T.ok e
   ·rw[hl] at e;exact(JS _ T.ok e).imp id λ q=>⟨q.1,J,q.2⟩
 dsimp only[makeTail];rw[a3,a4];refine Ab (Ag ?_);have go:∀(z:Value)(h:Heap),(∀b o,s.heap.get? b=some o->h.get? b=some o)->s.heap.objs.size<=h.objs.size->wpAny M A (do
  let cd <-functionCode n j u name i params scope (.expr v)
  let Y <-builtinsFor mainGlobals n.builtins
  let nm <-nsGet mainGlobals "__name__"
  let t <-pure .none
  newObj (.type "function") (.func {name,qualname:=i,params,body:=.expr v,scope,globals:=mainGlobals,closure:=m,defaults:=.none,kwdefaults:=.none,annotations:=none,pyModule:=nm.getD .none,code:=cd,closureTuple:=z,builtins:=Y,doc:=t})) Q E {s with heap:=h}:=λ z h H O=>by
  exact B z h s.toks H O (Ah _)
 cases m with
 |nil=>
  refine Ab (Ag ?_);exact go .none s.heap (λ _ _ e=>e) (Ah _)
 |cons q r=>
  refine Ab (wpAny_newTextTuple ?_);exact go (.ref s.heap.objs.size) _ (λ b o' e=>Am _ e) (by rw[BS];exact A8 _)
end
noncomputable abbrev XO (h:Array DictEntry)(k:Nat):Obj:={cls:=.type "dict",data:=.dict h k}
structure lW (h:Heap)(a:Addr)(m:Str->Option Value):Prop where
 obj:∃es ep,h.get? a=some (XO es ep)/\StrKeys es/\UniqKeys es/\∀name,nsFind es name=m name
theorem lW.t7 {m:Str->Option Value}(x:lW h a m):h.Ns1 a m:=by obtain⟨k,o,e,a,b,c⟩:=x.obj;exact⟨_,k,o,e,rfl,a,b,c⟩
theorem lW.ns {m:Str->Option Value}(x:lW h a m):h.Ns a m:=x.t7.ns
noncomputable def Vy (m:Str->Option Value)(name:Str)(v:Value):Str->Option Value:=λ x=>if x=name then some v else m x
noncomputable def gT (m:Str->Option Value)(name:Str):Str->Option Value:=λ x=>if x=name then none else m x
section
variable {A:Around}{E:B3}
end
variable {args:List PV}{pos:Pos} in
noncomputable abbrev L6 (x y:Str)(h k:Pos):Arguments:={posonlyargs:=[],args:=[{arg:=x,annotation:=none,pos:=h},{arg:=y,annotation:=none,pos:=k}],vararg:=none,kwonlyargs:=[],kw_defaults:=[],kwarg:=none,defaults:=[]}
section
variable {A:Around}{E:B3}
variable {body:List Stmt}{pos:Pos}{y:Str} in
structure Jg where
 name:Str
 x:Str
 y:Str
 px:Pos
 py:Pos
 body:List Stmt
 sc:Scope
 pos:Pos
 bi:List (Str×Addr)
noncomputable def JZ (k:Heap)(f:Addr)(h:Str)(s:Value)(r:Jg):Prop:=∃o w,k.get? f=some (Tq r.name h (L6 r.x r.y r.px r.py) r.body r.sc r.bi s o w)/\Cd k o h
end
section
variable {A:Around}{E:B3}
end
section
variable {A:Around}{E:B3}
noncomputable def Ni:List Str:=["__module__","__qualname__","__firstlineno__","__slots__","__hash__","__static_attributes__"]
end
noncomputable abbrev gv:List Value:=((some #[Value.type "object"]).getD #[]).toList
noncomputable abbrev gB:List Value:=if gv.isEmpty=true then[Value.type "object"] else gv
section
variable {A:Around}{E:B3}
end
theorem UO (e:h.get? a=some o):o.isFreed=false:=(Heap.get?_some_iff.mp e).2
section
variable {A:Around}{E:B3}
noncomputable def YT (h:Array (Option Value))(i:Nat)(v:Option Value):Array (Option Value):=(h++Array.replicate (i+1-h.size) none).setIfInBounds i v
theorem OR {M:Model}{b:Unit->Shared->Prop}(h:s.heap.get? a=some o)(O:i<1000)
 (w:∀k,k.get? a=some {o with slots:=YT o.slots i v}->Heap.SameBut a s.heap k->b () {s with heap:=k}):wpAny M A (setSlotAt a i v) b E s:=by
 unfold setSlotAt;rw[if_neg (by rw[EU];omega)];refine Ab (Ag (J0 h (w _ ?_ (Be ..))));refine Br (λ o=>{o with slots:=(o.slots++Array.replicate (i+1-o.slots.size) none).setIfInBounds i v}) h ?_;have H:o.isFreed=false:=UO h;obtain⟨c,d,N,Q⟩:=o;cases N<;>first |rfl |exact H
end
theorem Zk:mroOf (.type "object")=pure [.type "object"]:=by kernel_rfl
theorem Ut {m:Str->Option Value}{M:Model}(V:h.get? a=some o)(W:o.data=.cls b)(w:b.mro=[.ref a,.type "object"])(c:h.Ns b.ns m)
 (N:(match m name with |some v=>pure (some v) |none=>typeLookup (.type "object") name)=pure r):Looks M h (typeLookup (.ref a) name) r:=by
 intro A Q E s k q;rw[typeLookup_eq];refine Ab (Ab (Ab (wpAny_load (k _ _ V) ?_)));rw[W];refine Ag (Ag ?_);rw[w,lookupAlong_cons];refine Ab ?_;show wpAny M A (do return <-nsGet (<-classData a).ns name) _ _ _;refine Ab (Ab (wpAny_load (k _ _ V) ?_));rw[W];refine Ag ?_;refine wpAny_nsGet (c.keeps k) ?_;cases Z:m name with
 |some v=>rw[Z] at N;injection N with e;subst e;exact Ag q
 |none=>
  rw[Z] at N;have H:typeLookup (.type "object") name=pure r:=N;rw[typeLookup_eq,Zk] at H;have O:lookupAlong [.type "object"] name=pure r:=H;rw[O];exact Ag q
theorem NO {M:Model}(H:h.get? a=some o)(N:o.data=.cls c)(w:c.mro=[.ref a,.type "object"])(O:([Value.ref a,.type "object"]:List Value).contains b=r):Looks M h (isSubtype (.ref a) b) r:=by
 intro A Q E s k q;unfold isSubtype;refine Ab (Ab (Ab (wpAny_load (k _ _ H) ?_)));rw[N];refine Ag (Ag ?_);rw[w];dsimp only;rw[if_neg (by simp)];rw[O];exact Ag q
section
variable {A:Around}{E:B3}
noncomputable abbrev RN (h:Str)(k:Nat)(a:Addr):Obj:={cls:=.type "member_descriptor",data:=.fields #[.str h k,.ref a,.builtin "proto.slot",.builtin "proto.slot#set",rawInt 0]}
end
section
variable {A:Around}{E:B3}
end
noncomputable abbrev qF (a k:Addr)(name h:Str):ClassData:={name:=name,bases:=gB,mro:=[.ref a,.type "object"],ns:=k,qualname:=h,hasDel:=false}
variable {md:Addr}{c n:Nat}{g:Array GenState} in
inductive Vk (h:Heap)(a:Addr)(name qual sn:Str)(m:Str->Option Value):Prop
 |mk (o:Obj) (ns md:Addr) (mtk:Tok) (g:h.get? a=some o) (c:o.cls=.type "type") (d:o.dict=none) (k:o.data=.cls {qF a ns name qual with hasDict:=false,slotNames:=[sn]}) (s:(o.slots[4]?).join=some (.builtin "object.__new__"))
  (n:lW h ns (Vy (Vy (gT m "__qualname__") sn (.ref md)) "__doc__" .none)) (e:h.get? md=some (RN sn mtk a))
section
variable {A:Around}{E:B3}
end
section
variable {A:Around}{E:B3}
end
variable {a:Addr} in
noncomputable def Jn (h:Addr)(l:List Stmt):List Jg:=l.flatMap λ s=>if s.ctorIdx==0 then(match(Fz s).ar.args with
 |[a,b]=>[⟨(Fz s).nm,a.arg,b.arg,a.pos,b.pos,(Fz s).b 0,(Fz s).sc,(Fz s).p,if(Fz s).sc.names.lookup ("mycmp":Str)==some .free then[("mycmp",h)] else[]⟩]
 |_=>[]) else[]
variable {r:List Stmt}{n:Nat}{m:Str->Option Value} in
inductive Ys (h:Heap)(K:Addr)(qual slotn:Str)(pm:Value)(names:List Str)(rs:List Jg):Prop
 |mk (m:Str->Option Value) (k:Vk h K "K" qual slotn m) (r:∀r∈rs,∃f,m r.name=some (.ref f)/\JZ h f ((qual++".")++r.name) pm r) (n:∀x:Str,Ni.contains x=false->x∉names->m x=none)
section
variable {A:Around}{E:B3}{z:Env}
end
noncomputable def Kz (h k:Heap):Prop:=∀b o,h.get? b=some o->o.cls≠.type "frame"->o.cls≠.none->(∀s,o.data≠.cell s)->k.get? b=some o
theorem A9.ap (k:A9 W h H):Kz h H:=λ b o e s w _=>k.keep e s w
theorem I5.ap (S:I5 W (C3 V a) h H)(F:FI W V a Z X h O)(N:CZ a h):Kz h H:=λ b o e Q j d=>S.keep b o (λ q=>by
 rcases q with rfl |⟨x,f,s⟩
 ·obtain⟨g,l,m,k,hc,_⟩:=N;obtain rfl:=AF e k;exact Q hc
 ·obtain⟨c,n,i,⟨g,k,w⟩,_⟩:=F.cell x (.inl f);obtain rfl:=AF s i;obtain rfl:=AF e k;exact d _ w) e
theorem JZ.ap (x:JZ h f a b r)(o:Kz h H):JZ H f a b r:=by
 obtain⟨w,N,O,c,Q,V,t,W,Z,k,s,d⟩:=x;exact⟨w,N,o _ _ O (by simp) (by simp) (λ _ q=>by cases q),c,Q,V,t,W,o _ _ Z (by rw[k];simp) (by rw[k];simp) (λ _ q=>by cases Eq.trans (Eq.symm s) q),k,s,d⟩
theorem Vk.ap {m:Str->Option Value}(x:Vk h a name b c m)(k:Kz h H):Vk H a name b c m:=by
 obtain⟨o,O,Q,s,V,w,W,N,Z,d,f⟩:=x;refine⟨o,O,Q,s,k _ _ V (by rw[w];simp) (by rw[w];simp) (λ _ q=>by cases Eq.trans (Eq.symm N) q),w,W,N,Z,?_,k _ _ f (by simp) (by simp) (λ _ q=>by cases q)⟩;obtain⟨g,i,e,r⟩:=d.obj;exact⟨g,i,k _ _ e (by simp) (by simp) (λ _ q=>by cases q),r⟩
theorem Ys.ap {K:Addr}{g d:Str}{i:Value}{e:List Str}{j:List Jg}(x:Ys h K g d i e j)(k:Kz h H):Ys H K g d i e j:=by
 obtain⟨m,a,b,c⟩:=x;exact⟨m,a.ap k,λ r o=>by obtain⟨f,s,w⟩:=b r o;exact⟨f,s,w.ap k⟩,c⟩
section
variable {A:Around}{E:B3}{C:A5}
end
section
variable {A:Around}{E:B3}
noncomputable abbrev Ca (h:FuncData)(L f:Addr):Env:=newEnv h.scope L h.globals h.closure (h.qualname++".<locals>.") (some f) h.code none h.builtins
structure TI (W:Bl)(h:Heap)(X:List Addr)(f:Addr)(fd:FuncData)(ps:List Str)(φ:AM):Prop where
 obj:∃o,h.get? f=some o/\o.data=.func fd
 ol:h.CodeRec fd.code fd.qualname
 bind:∀vals:List Value,vals.length=ps.length->bindArgs fd ⟨vals,[]⟩=pure (ps.zip vals)
 co:fd.scope.isCoroutine=false
 be:fd.scope.isGenerator=false
 kind:fd.scope.kind=.function
 na:fd.globals=mainGlobals
 blt:fd.builtins=builtinsNs
 n5:∀x∈fd.scope.names,x.2≠.cell
 r9:∀x∈ps,CM x=true/\fd.scope.names.lookup x=some .local
 nd:ps.Nodup
 qs:∀x sl,φ.lookup x=some sl->fd.scope.names.lookup x=some .free/\CM x=true/\(∀d,sl≠.own d)
 free:∀x,fd.scope.names.lookup x=some .free->∃c ov,fd.closure.lookup x=some c/\h.IsCell c ov/\∀sl,φ.lookup x=some sl->∃v,ov=some v/\Bj W (fd.closure.map (·.2)++X) (fd.closure.map (·.2)++X) h v sl
 inj:∀x y c,fd.closure.lookup x=some c->fd.closure.lookup y=some c->x=y
 alive:∀a∈fd.closure.map (·.2),W.h0.get? a=none/\∃o,h.get? a=some o
theorem YW {h₀:Heap}{M:Model}{env:Env}(f:Str×Value->PUnit->Sem (ForInStep PUnit))(B:∀n v u,f (n,v) u=(do storeName env n v;pure (.yield ⟨⟩)))(hk:env.scope.kind=.function):
 ∀(k:List (Str×Value))(m:Str->Option Value)(s:Shared)(Q:PUnit->Shared->Prop),s.heap.Ns env.locals m->CZ env s.heap->(∀b o,b≠env.locals->h₀.get? b=some o->s.heap.get? b=some o)->(∀x∈k,env.kindOf x.1=some .local)->
  (∀H N,H.Ns env.locals (bindL env.kindOf k m)->CZ env H->(∀b o,b≠env.locals->h₀.get? b=some o->H.get? b=some o)->s.toks<=N->Q ⟨⟩ {s with heap:=H,toks:=N})->wpAny M A (forIn k ⟨⟩ f) Q E s:=by
 intro k;induction k with
 |nil=>
  intro m s Q O V w _ h;exact Ag (h s.heap s.toks O V w (Ah _))
 |cons W r Z=>
  intro m s Q O V w q h;rw[DD,B];have t:=q (W.1,W.2) Ac;refine Ab (Ab (B9 t O (λ H g i j=>Ag ?_) (by rw[hk];rfl)));refine Z _ {s with heap:=H,toks:=s.toks+1} Q g (V.bj j) (λ b o z e=>(i.2 b z).trans (w b o z e)) (λ y C=>q y (Ad _ C)) λ l N a b c d=>h l N ?_ b c (Aa (A8 _) d);rw[bindL];have p:env.kindOf W.1=some .local:=t;rw[if_pos p];exact a
theorem SX (D:TI W s.heap X f fd g i)(G:Gd W s)(hX:∀b∈X,W.h0.get? b=none/\∃o,s.heap.get? b=some o)
 (r:JW W (fd.closure.map (·.2)++X) s.heap a args) (M:args.length=g.length) {j:Env->Shared->Prop}
 (hQ:∀k H,XB W fd.scope (Ca fd s.heap.objs.size f) s.heap->s.toks<=H->XS W fd.scope (Ca fd s.heap.objs.size f) s.heap (Ay (Ca fd s.heap.objs.size f)++X) (Ay (Ca fd s.heap.objs.size f)++X) {s with heap:=k,toks:=H} (g.zip args++i)->j (Ca fd s.heap.objs.size f) {s with heap:=k,toks:=H}):
 wpAny W.M A (newFunctionEnv fd.scope fd.globals fd.closure (g.zip a) (fd.qualname++".<locals>.") (some f) fd.code none fd.builtins) j E s:=by
 simp only[newFunctionEnv,Option.isSome_none,A3,if_false];refine Ab (L5 ?_);rw[forIn_yield_id fd.closure (λ x S c=>by
    obtain⟨name,J⟩:=x;have:(J==NameKind.cell)=false:=by simpa using D.n5 _ S
    simp only[this,A3,if_false])]
 refine Ab (Ag (Ab ?_));have hk:∀b o,s.heap.get? b=some o->(s.heap.push {cls:=.type "frame",data:=.dict #[]}).get? b=some o:=λ b o e=>Am _ e;have T:∀x∈g.zip a,fd.scope.names.lookup x.1=some .local:=λ x S=>(D.r9 x.1 (OE (vs:=a) (Al.mpr ⟨x,S,rfl⟩))).2;refine YW (env:=Ca fd s.heap.objs.size f) (h₀:=s.heap) _ (λ _ _ _=>rfl) D.kind (g.zip a) (λ _=>none) {s with heap:=s.heap.push {cls:=.type "frame",data:=.dict #[]}} _ (Heap.Ns.new s.heap (.type "frame")) ⟨_,_,_,Ak _ rfl,rfl,rfl⟩ (λ b o V e=>hk b o e) T λ k H hn fc kp Z=>Ag ?_;have w:s.heap.get? s.heap.objs.size=none:=Bv s.heap;have p:∀b o,s.heap.get? b=some o->k.get? b=some o:=λ b o e=>kp b o (λ q=>by rw[q] at e;have e':s.heap.get? s.heap.objs.size=some o:=e;exact BZ w e') e;have t:A9 W s.heap k:=.ae p;have B:W.h0.get? s.heap.objs.size=none:=Dx G.al w;have U:∃o,k.get? s.heap.objs.size=some o:=by obtain⟨o,_,_,ho,_⟩:=hn;exact⟨o,ho⟩
 have l:∀b,b∈Ay (Ca fd s.heap.objs.size f)↔b=s.heap.objs.size\/b∈fd.closure.map (·.2):=λ b=>Ae
 have Y:∀{b o},s.heap.get? b=some o->b≠s.heap.objs.size:=λ e q=>by rw[q,w] at e;cases e
 have C:∀b o,s.heap.get? b=some o->b∉fd.closure.map (·.2)++X->(o.cls=.type "list"\/o.cls=.type "tuple"\/o.cls=.type "dict")->k.get? b=some o/\b∉Ay (Ca fd s.heap.objs.size f)++X:=λ b o e n _=>⟨p b o e,λ q=>by
  rcases Ao.mp q with q |q
  ·rcases(l b).mp q with q |q
   ·exact Y e q
   ·exact n (AO _ q)
  ·exact n (At _ q)⟩
 have rr:JW W (Ay (Ca fd s.heap.objs.size f)++X) k a args:=r.be C;have m:∀{y Q},(g.zip args).lookup y=some Q->fd.scope.names.lookup y=some .local:=λ N=>(D.r9 _ (Gs N)).2;have O:∀{y Q},(g.zip args++i).lookup y=some Q->(g.zip args).lookup y=some Q\/i.lookup y=some Q:=λ{y Q} N=>by
  rw[Jo] at N;cases q:(g.zip args).lookup y with
  |some z=>rw[q] at N;exact .inl N
  |none=>rw[q] at N;exact .inr N
 have L:∀{y d},(g.zip args++i).lookup y≠some (.own d):=λ{y d} N=>by
  rcases O N with q |q
  ·exact absurd q (JW.pv rr)
  ·exact(D.qs _ _ q).2.2 d rfl
 have F:FI W fd.scope (Ca fd s.heap.objs.size f) (Ay (Ca fd s.heap.objs.size f)++X) (Ay (Ca fd s.heap.objs.size f)++X) k (g.zip args++i):={
  ba:=λ b V=>Ao.mpr (.inl V)
  zx:=λ b V=>V
  kind:=D.kind
  na:=D.na
  blt:=D.blt
  pb:=λ y h=>h
  oj:=λ y h=>h
  ow:=λ y h=>.inl h
  o3:=λ y h=>h
  ns:=⟨_,hn,λ y Q M N=>by
   rcases O N with q |q
   ·exact(Pv _ _ rr D.nd q).1 M
   ·rw[(D.qs _ _ q).1] at M;cases M⟩
  cell:=λ y N=>by
   have I:fd.scope.names.lookup y=some .free:=N.resolve_left λ q=>D.n5 _ (mem_of_lookup q) rfl;obtain⟨c,ov,e1,⟨oc,a0,a1⟩,e3⟩:=D.free y I;refine⟨c,ov,e1,⟨oc,p _ _ a0,a1⟩,λ Q N=>?_⟩;rcases O N with q |q
   ·rw[m q] at I;cases I
   ·obtain⟨v,e4,R⟩:=e3 Q q;refine⟨v,e4,?_⟩;cases Q with
    |ao u=>exact R
    |nn u d=>exact⟨R.1,Rp.be C R.2⟩
    |aa d=>exact Rp.be C R
    |own d=>exact absurd rfl ((D.qs _ _ q).2.2 d)
  inj:=D.inj
  o6:=λ y Q N=>by
   rcases O N with q |q
   ·exact⟨.inl (m q),(D.r9 _ (Gs q)).1⟩
   ·exact⟨.inr (.inr (D.qs _ _ q).1),(D.qs _ _ q).2.1⟩
  alive:=λ b V=>by
   rcases Ao.mp V with q |q
   ·rcases(l b).mp q with q |q
    ·subst q;exact⟨B,U⟩
    ·exact⟨(D.alive b q).1,Bc t (D.alive b q).2⟩
   ·exact⟨(hX b q).1,Bc t (hX b q).2⟩
  nr:=λ y z d e h1 h2=>absurd h1 L}
 refine hQ k H ⟨G.al,G.oz,λ b V=>?_⟩ Z ⟨F,t,Aa G.toks Z,λ b V hz=>absurd V hz,fc⟩;rcases V with rfl |⟨y,N,_⟩
 ·exact w
 ·exact absurd rfl (D.n5 _ (mem_of_lookup N))
theorem QP {R:Result->Shared->Prop}(D:TI W s.heap X f fd c d)(O:fd.body=.stmts a)(E:W.h0.NoLimit)(Q:Cc (k+1) A)(G:Gd W s)(V:∀b∈X,W.h0.get? b=none/\∃o,s.heap.get? b=some o)
 (r:JW W (fd.closure.map (·.2)++X) s.heap vals args) (Z:args.length=c.length)
 (e:∀w h,XB W fd.scope (Ca fd s.heap.objs.size f) s.heap->s.toks<=h->XS W fd.scope (Ca fd s.heap.objs.size f) s.heap (Ay (Ca fd s.heap.objs.size f)++X) (Ay (Ca fd s.heap.objs.size f)++X) {s with heap:=w,toks:=h} (c.zip args++d)->
  wpAny W.M (A.deeper (Ca fd s.heap.objs.size f)) (execs a (Ca fd s.heap.objs.size f)) (λ g i=>R (.ok (.ret (match g with | .ret v=>v |_=>.none))) i) (λ _ _=>False) {s with heap:=w,toks:=h}):
 codeAny W.M A (.call (.ref f) ⟨vals,[]⟩) R s:=by
 refine C6 λ t j=>?_;obtain⟨o,l,m⟩:=D.obj;refine j ?_;have N:=r.length;refine LC (Cn (Av (Bq ..) Q.depth) (by decide+kernel)) l m D.co D.be O D.ol ?_;simp only[D.bind vals (by omega)];refine Ag (SX D G V r Z λ w h B H S=>⟨?_,codeAny_func ?_⟩)
 ·obtain⟨n,p,q⟩:=E;exact⟨n,Co (G.al.trans S.le) p,q⟩
 ·exact C5 (e w h B H S) (λ _ _ z=>z) λ _ _ z=>z.elim
theorem aM {R:Result->Shared->Prop}(D:TI W s.heap X f fd d e)(O:fd.body=.expr a)(E:W.h0.NoLimit)(Q:Cc (k+1) A)(G:Gd W s)(V:∀b∈X,W.h0.get? b=none/\∃o,s.heap.get? b=some o)
 (r:JW W (fd.closure.map (·.2)++X) s.heap c args) (Z:args.length=d.length)
 (g:∀w h,XB W fd.scope (Ca fd s.heap.objs.size f) s.heap->s.toks<=h->XS W fd.scope (Ca fd s.heap.objs.size f) s.heap (Ay (Ca fd s.heap.objs.size f)++X) (Ay (Ca fd s.heap.objs.size f)++X) {s with heap:=w,toks:=h} (d.zip args++e)->
  wpAny W.M (A.deeper (Ca fd s.heap.objs.size f)) (eval a (Ca fd s.heap.objs.size f)) (λ v i=>R (.ok (.ret v)) i) (λ _ _=>False) {s with heap:=w,toks:=h}):
 codeAny W.M A (.call (.ref f) ⟨c,[]⟩) R s:=by
 refine C6 λ t j=>?_;obtain⟨o,l,m⟩:=D.obj;refine j ?_;have N:=r.length;refine kla_callFunE (Cn (Av (Bq ..) Q.depth) (by decide+kernel)) l m D.co D.be O D.ol ?_;simp only[D.bind c (by omega)];refine Ag (SX D G V r Z λ w h B H S=>⟨?_,kla_codeExpr ?_⟩)
 ·obtain⟨n,p,q⟩:=E;exact⟨n,Co (G.al.trans S.le) p,q⟩
 ·exact C5 (g w h B H S) (λ _ _ z=>z) λ _ _ z=>z.elim
end
open PySem.Calls Builtin.ObjectAttr Builtin.Getset_descriptor
variable {a f:Addr}{c n:Nat}{g:Array GenState}{m:Str->Option Value} in
inductive pR (h:Heap)(K:Addr)(sn:Str):Prop
 |mk (o:Obj) (cd:ClassData) (g:h.get? K=some o) (c:o.cls=.type "type") (d:o.data=.cls cd) (m:cd.mro=[.ref K,.type "object"]) (s:cd.slotNames=[sn]) (e:cd.hasDel=false) (a:cd.abstract=false) (f:cd.hasDict=false) (n:(o.slots[4]?).join=some (.builtin "object.__new__"))
variable {v:Value} in
structure Ie (M:Model)(h:Heap)(K md:Addr)(sn:Str)(m:Str->Option Value):Prop where
 cls:pR h K sn
 mem:∃mtk,h.get? md=some (RN sn mtk K)
 qt:∀(name:Str) r,(match(if name=("__doc__":Str) then some Value.none else if name=sn then some (.ref md) else if name=("__qualname__":Str) then none else m name) with |some v=>pure (some v) |none=>typeLookup (.type "object") name)=(pure r:Sem (Option Value))->Looks M h (typeLookup (.ref K) name) r
theorem Vk.ask {m:Str->Option Value}{b:Str}{M:Model}{K:Addr}{name a:Str}(x:Vk h K name a b m):∃k,Ie M h K k b m:=by
 obtain⟨o,Z,k,s,w,N,c,H,O,Q,V⟩:=x;exact⟨k,⟨o,_,w,N,H,rfl,rfl,rfl,rfl,rfl,O⟩,⟨s,V⟩,λ nm r W=>Ut w H rfl Q.ns W⟩
section
theorem Ie.mro {a K:Addr}{m:Str->Option Value}{b:Str}{M:Model}(x:Ie M h K a b m):Looks M h (mroOf (.ref K)) [.ref K,.type "object"]:=by
 obtain⟨o,k,s,N,w,H,_⟩:=x.cls;rw[<-H];refine((Fv (part:=none) s).andThen (b:=k) ?_).andThen .now;rw[w];exact .now
theorem Ie.sub {a K:Addr}{m:Str->Option Value}{c:Str}{M:Model}(x:Ie M h K a c m){b:Value}{r:Bool}(k:([Value.ref K,.type "object"]:List Value).contains b=r):Looks M h (isSubtype (.ref K) b) r:=by
 obtain⟨o,N,s,O,w,H,_⟩:=x.cls;exact NO s w H k
theorem Ie.slots {b K:Addr}{m:Str->Option Value}{a:Str}{M:Model}(x:Ie M h K b a m):Looks M h (Slots.slotNamesOf (.ref K)) [a]:=by
 obtain⟨o,k,s,N,w,O,H,_⟩:=x.cls;rw[<-H];refine((Fv (part:=none) s).andThen (b:=k) ?_).andThen .now;rw[w];exact .now
theorem Zp:typeLookup (.type "member_descriptor") "__get__"=pure (some (.builtin "member_descriptor.__get__")):=by rw[typeLookup_type,builtinLookup_eq_fast];kernel_rfl
theorem O4:typeLookup (.type "member_descriptor") "__set__"=pure (some (.builtin "member_descriptor.__set__")):=by rw[typeLookup_type,builtinLookup_eq_fast];kernel_rfl
theorem Ie.oq {a K:Addr}{m:Str->Option Value}{b:Str}{M:Model}(x:Ie M h K a b m):Looks M h (typeOf (.ref a)) (.type "member_descriptor"):=by
 obtain⟨k,e⟩:=x.mem;exact(Fv e).andThen .now
theorem Ie.ry {b K:Addr}{m:Str->Option Value}{a:Str}{M:Model}(x:Ie M h K b a m)(k:a≠"__doc__"):Looks M h (typeLookup (.ref K) a) (some (.ref b)):=x.qt a _ (by rw[if_neg k,if_pos rfl])
noncomputable def Ev (h:Heap)(x K:Addr)(v:Value):Prop:=∃k,h.get? x=some {cls:=.ref K,dict:=some k,data:=.plain,slots:= #[some v]}
theorem Ev.ap {v:Value}{K:Addr}{x:Addr}(i:Ev h x K v)(k:Kz h H):Ev H x K v:=by obtain⟨o,e⟩:=i;exact⟨o,k _ _ e (by simp) (by simp) (λ _ q=>by contradiction)⟩
theorem Ev.ty {v:Value}{M:Model}{K:Addr}{x:Addr}(i:Ev h x K v):Looks M h (typeOf (.ref x)) (.ref K):=by obtain⟨k,e⟩:=i;exact(Fv e).andThen .now
end
section
variable {A:Around}{E:B3}
theorem UB {c K:Addr}{R:Result->Shared->Prop}{v:Value}{g:Array GenState}{m:Str->Option Value}{os:OsState}{a:Program}{e:Str}{d:Drawn}{t:Nat}{x:Addr}{b:Value}(X:Ie (model a w) h K c e m)(I:Ev h x K v)(s:R (.ok (.ret v)) ⟨h,g,d,t,os⟩):codeAny (model a w) A (.call (.builtin "member_descriptor.__get__") ⟨[.ref c,.ref x,b],[]⟩) R ⟨h,g,d,t,os⟩:=by
 refine C6 λ H E=>?_;obtain⟨o,k⟩:=X.mem;obtain⟨N,O⟩:=id I;refine E ?_;have Q:=I.ty (M:=model a w);have V:=X.sub (b:=.ref K) (r:=true) (by simp);have W:=X.slots;have Z:=FU (M:=model a w) k 0 (v:=.str e o) rfl;have f:=FU (M:=model a w) k 1 (v:=.ref K) rfl;have i:=FU (M:=model a w) k 2 (v:=.builtin "proto.slot") rfl;have j:=FU (M:=model a w) k 4 (v:=rawInt 0) rfl;refine G8 KF.slot_mem.plain KF.entry_mem (KF.slot_mem.check _ _ _ _ _ _ _ _ ⟨_,k,rfl⟩ (KF.args_mem _ _ _) ?_);unfold Builtin.«member_descriptor.__get__» descrGet;rw[dga_obj];refine Ab (Ag ?_);simp only[descrGetter,descrCheckInstance,descrNameAndClass,isInstance]
 repeat lk
 refine⟨Code.quiet_builtin _ (by decide+kernel),codeAny_builtin KF.entry_slot ?_⟩;unfold Builtin.«proto.slot» Slots.target
 repeat lk
 exact s
theorem Ol {c K:Addr}{v:Value}{g:Array GenState}{m:Str->Option Value}{os:OsState}{a:Program}{e:Str}{d:Drawn}{t:Nat}{x:Addr}{b:Bool}(X:Ie (model a w) h K c e m)(I:Ev h x K v)(k:e≠"__doc__")(o:m "__getattribute__"=none)(s:m "__getattr__"=none)(H:("__getattribute__":Str)≠e)(N:("__getattr__":Str)≠e)(V:handedIn v=true)(W:Q v ⟨h,g,d,t+1,os⟩):
 wpAny (model a w) A (getAttr (.ref x) e b) Q E ⟨h,g,d,t,os⟩:=by
 have O:=I.ty (M:=model a w);have Z:Looks (model a w) h (typeLookup (.ref K) "__getattribute__") (some (.builtin "object.__getattribute__")):=X.qt _ _ (by rw[if_neg (by decide+kernel),if_neg H,if_neg (by decide+kernel),o];show typeLookup (.type "object") "__getattribute__"=_;kernel_rfl);have f:Looks (model a w) h (typeLookup (.ref K) "__getattr__") none:=X.qt _ _ (by rw[if_neg (by decide+kernel),if_neg N,if_neg (by decide+kernel),s];show typeLookup (.type "object") "__getattr__"=_;kernel_rfl);have i:Looks (model a w) h (getOf (some (.ref c))) (some (.builtin "member_descriptor.__get__")):=X.oq.andThen (DI Zp);have j:Looks (model a w) h (takesStores (.ref c)) true:=(X.oq.andThen (DI O4)).andThen .now;have l:Looks (model a w) h (find (.ref x) (.ref K) e) (.bind (.builtin "member_descriptor.__get__") (.ref c)):=(X.ry k).andThen (i.andThen ((show Looks (model a w) h (dataDescriptor? (some (.ref c)) (some (.builtin "member_descriptor.__get__"))) (some (.builtin "member_descriptor.__get__",.ref c)) from j.andThen .now).andThen (Looks.tag .now)));refine Ab (wpAny_mkText (Bk (Ab (O.at (Ab (Z.at ?_))))));refine Ab (wpAny_onRaise (wpAny_runValue (codeAny_builtin F.plainObj_entry_getattr_hooked ?_)));refine Ab (Ag (Ab (O.at (Ab (l.at (Ab (f.at ?_)))))));refine Ab (Bk (FL (UB X I (Ag ?_))));show wpAny _ _ (handedOut v) _ _ _;rw[handedOut_of V];exact Ag W
end
section
variable {A:Around}{E:B3}
noncomputable abbrev On (K h:Addr)(k:Array (Option Value)):Obj:={cls:=.ref K,dict:=some h,data:=.plain,slots:=k}
theorem UA {b K:Addr}{R:Result->Shared->Prop}{v:Value}{g:Array GenState}{m:Str->Option Value}{os:OsState}{a:Program}{e:Str}{d:Drawn}{t:Nat}{x c:Addr}(X:Ie (model a w) h K b e m)(H:h.get? x=some (On K c #[]))(N:∀o,o.get? x=some (On K c #[some v])->Heap.SameBut x h o->R (.ok (.ret .none)) ⟨o,g,d,t,os⟩):
 codeAny (model a w) A (.call (.builtin "member_descriptor.__set__") ⟨[.ref b,.ref x,v],[]⟩) R ⟨h,g,d,t,os⟩:=by
 obtain⟨s,k⟩:=X.mem;have Q:Looks (model a w) h (typeOf (.ref x)) (.ref K):=(Fv H).andThen .now;have V:=X.sub (b:=.ref K) (r:=true) (by simp);have W:=X.slots;have Z:=FU (M:=model a w) k 0 (v:=.str e s) rfl;have f:=FU (M:=model a w) k 1 (v:=.ref K) rfl;have i:=FU (M:=model a w) k 3 (v:=.builtin "proto.slot#set") rfl;have j:=FU (M:=model a w) k 4 (v:=rawInt 0) rfl;refine G8 KF.slot_mset.plain KF.entry_mset (KF.slot_mset.check _ _ _ _ _ _ _ _ ⟨_,k,rfl⟩ (KF.args_mset _ _ _) ?_);unfold Builtin.«member_descriptor.__set__» descrSet descrStoreThrough descrCheckInstance descrNameAndClass isInstance;have l:Looks (model a w) h (descrItself (.ref b)) [.ref b]:=((Fv (part:=none) k).andThen .now).andThen (DI (by kernel_rfl))
 repeat lk
 refine⟨Code.quiet_builtin _ (by decide+kernel),codeAny_builtin KF.entry_slotset ?_⟩;unfold Builtin.«proto.slot#set» Slots.target
 repeat lk
 refine OR (s:=⟨h,g,d,t,os⟩) (i:=0) H (EQ _) λ o E O=>?_;exact Ag (N o E O)
theorem UD {c K:Addr}{v:Value}{g:Array GenState}{m:Str->Option Value}{os:OsState}{a:Program}{b:Str}{d:Drawn}{t:Nat}{x e:Addr}{f:Unit->Shared->Prop}(X:Ie (model a w) h K c b m)(V:h.get? x=some (On K e #[]))(H:b≠"__doc__")(N:m "__setattr__"=none)(O:("__setattr__":Str)≠b)
 (Z:∀o W,o.get? x=some (On K e #[some v])->Heap.SameBut x h o->t<=W->f () ⟨o,g,d,W,os⟩):wpAny (model a w) A (setAttr (.ref x) b v) f E ⟨h,g,d,t,os⟩:=by
 have k:=PySem.F.store_object;have s:Looks (model a w) h (typeOf (.ref x)) (.ref K):=(Fv V).andThen .now;have i:Looks (model a w) h (typeLookup (.ref K) "__setattr__") (some (.builtin "object.__setattr__")):=X.qt _ _ (by rw[if_neg (by decide+kernel),if_neg O,if_neg (by decide+kernel),N];exact k.slot.lookup);have j:=X.ry H;have l:Looks (model a w) h (storeTaker? (some (.ref c))) (some (.ref c)):=((X.oq.andThen (DI O4)).andThen .now:Looks (model a w) h (takesStores (.ref c)) true).andThen .now;have n:=X.mro;have p:Looks (model a w) h (isInstance (.ref x) (.type "object")) true:=s.andThen (X.sub (by rfl));unfold setAttr callSpecial? specialOf;refine Ab (wpAny_mkText ?_);refine Ab (Ab (Ab (s.at (i.at (Bk ?_)))));refine Ab (Ag ?_);show wpAny _ _ (call (.builtin "object.__setattr__") [.ref x,.str b t,v] >>=_) _ _ _;refine Ab (FL (G8 k.slot.plain k.entry (@check_slot (model a w) _ _ _ "object.__setattr__" "object" "__setattr__" (.ref x) [.str b _,v] [] _ k.kind k.split p (k.args (.ref x) (.str b _) v) ?_)));simp only[osa_eq,refuse_eq];refine Ab (Ab (s.at (Ab (n.at ?_))));refine Ag (Ab (s.at (Ab (j.at (Ab (l.at ?_))))));refine Ab (KB (Ab (Bk (Ab (Ab (X.oq.at ((DI O4).at (Bk ?_))))))));refine Ab (Ag (Ab (FL (UA X V λ o Q q=>?_))))
 repeat lk
 exact Z o _ Q q (A8 _)
end
theorem Ie.rg {a:Addr}{m:Str->Option Value}{b:Str}{M:Model}{K:Addr}(X:Ie M h K a b m):Makes M h K:=by
 obtain⟨o,V,H,Z,c,d,j,e,f,l,g⟩:=X.cls;obtain⟨n,p,i,r⟩:=o;have N:i=.cls V:=c;subst Z;subst N;have W:=X.mro;have w:Looks M h (Bind.madeBy (.ref K)) (some "object.__new__"):=by
  intro A Q E s k q;unfold Bind.madeBy;refine Ab (W A _ E s k ?_);rw[DD];refine Ab (Ab (Ab (Ab (Ab (wpAny_loadPart (k _ _ H) (Ag ?_))))));rw[g];exact Ag (Ag (Ag (Ag q)))
 refine⟨⟨_,_,V,_,H,f,e,by rw[d];rfl⟩,w,?_,X.sub (by simp),X.sub (by rfl),?_,?_⟩
 ·intro A Q E s k q;refine Ab (W A _ E s k ?_);rw[DD];exact Ab (Ab (Ab (w A _ E s k (Ag (Ag (Ag q))))))
 ·have O:Looks M h (typeOf (.ref K)) (.type "type"):=(Fv H).andThen .now;exact O.andThen (DI (by show typeLookup (.type "type") "__call__"=_;kernel_rfl))
 ·have O:Looks M h (typeOf (.ref K)) (.type "type"):=(Fv H).andThen .now;exact O.andThen (DI (by kernel_rfl))
theorem Ur {c:Addr}{R:Result->Shared->Prop}{a:List Value}{m:Str->Option Value}{A:Around}{K:Addr}{b:Addr}(X:Ie W.M s.heap K c "obj" m)(k:m "__init__"=some (.ref b))(w:∃o,s.heap.get? b=some o/\o.cls=.type "function")
 (H:codeAny W.M (A.under (.builtin "type.__call__" ⟨.ref K::a,[]⟩)) (.call (.ref b) ⟨.ref (s.heap.objs.size+1)::a,[]⟩) (InitBack (s.heap.objs.size+1) R) {s with heap:=(s.heap.push emptyDict).push (instObj K s.heap.objs.size)}):
 codeAny W.M A (.call (.ref K) ⟨a,[]⟩) R s:=by
 obtain⟨o,N,hc⟩:=w;refine make_core (init:=.ref b) X.rg (X.qt "__init__" _ (by rw[if_neg (by decide+kernel),if_neg (by decide+kernel),if_neg (by decide+kernel),k])) (λ h=>?_) (.inl rfl) H;have O:Looks W.M s.1 (typeOf (.ref b)) (.type "function"):=by rw[<-hc];exact(Fv N).andThen .now
 exact O.andThen (DI (by kernel_rfl))
theorem Re (K:Addr)(h:List Value):(Code.builtin "type.__call__" ⟨.ref K::h,[]⟩).weight=1:=rfl
theorem TP (K:Addr)(h:List Value):(Code.builtin "type.__call__" ⟨.ref K::h,[]⟩).cUnits=1:=rfl
theorem Cc.new {A:Around}(o:Cc (k+1) A)(K:Addr)(h:List Value):Cc k (A.under (.builtin "type.__call__" ⟨.ref K::h,[]⟩)) where
 handled:=o.handled
 depth:=by show A.depth+(Code.builtin "type.__call__" ⟨.ref K::h,[]⟩).weight+_<_;rw[Re];exact P8 o.depth (by decide)
 units:=by show A.units+(Code.builtin "type.__call__" ⟨.ref K::h,[]⟩).cUnits+_<_;rw[TP];exact P8 o.units (by decide)
structure Q4 (r:Jg):Prop where
 co:r.sc.isCoroutine=false
 be:r.sc.isGenerator=false
 kind:r.sc.kind=.function
 n5:∀x∈r.sc.names,x.2≠.cell
 r9:∀x∈[r.x,r.y],CM x=true/\r.sc.names.lookup x=some .local
 nd:[r.x,r.y].Nodup
 uz:∀(qual:Str)(bi:List (Str×Addr))(pm cd ct a b:Value),bindArgs (Sk r.name qual (L6 r.x r.y r.px r.py) r.body r.sc bi pm cd ct) ⟨[a,b],[]⟩=pure [(r.x,a),(r.y,b)]
theorem Q4.tm (T:Q4 r)(x:JZ h f e g r)
 (H:∀x k,φ.lookup x=some k->r.sc.names.lookup x=some .free/\CM x=true/\(∀d,k≠.own d))
 (s:∀x,r.sc.names.lookup x=some .free->∃c O,r.bi.lookup x=some c/\h.IsCell c O/\∀k,φ.lookup x=some k->∃v,O=some v/\Bj W (r.bi.map (·.2)++X) (r.bi.map (·.2)++X) h v k)
 (N:∀x y c,r.bi.lookup x=some c->r.bi.lookup y=some c->x=y) (alive:∀a∈r.bi.map (·.2),W.h0.get? a=none/\∃o,h.get? a=some o):
 ∃w,w.body=.stmts r.body/\w.scope=r.sc/\w.closure=r.bi/\TI W h X f w [r.x,r.y] φ:=by
 refine C6 λ m V=>?_;obtain⟨Z,i,j,hc⟩:=x;refine V ?_;refine⟨_,rfl,rfl,rfl,⟨_,j,rfl⟩,hc.ol,λ Q l=>?_,T.co,T.be,T.kind,rfl,rfl,T.n5,T.r9,T.nd,H,s,N,alive⟩;obtain⟨a,b,rfl⟩:=Qn l;exact T.uz e r.bi g Z i a b
section
variable {A:Around}{E:B3}
noncomputable def iE (h:List Str):Prop:=("__getattribute__":Str)∉h/\("__getattr__":Str)∉h/\("__setattr__":Str)∉h
theorem Zm {v l:Value}{n p u z:Pos}{K:Addr}{i:Str}{f:List Str}{j:List Jg}(KK:Ys s.heap K i "obj" l f j)(U:iE f){r:Jg}(hr:r∈j)(hn:r.name="__init__")(T:Q4 r)(h:r.bi=[])(w:∀x,r.sc.names.lookup x≠some .free)
 (hb:r.body=[.Assign [.Attribute (.Name r.x n) "obj" p] (.Name r.y u) z]) (Y:r.x≠r.y) (hA:Cc (k+2) A) (G:Gd W s) (O:W.h0.NoLimit)
 (hQ:∀h' tk x,A9 W s.heap h'->s.toks<=tk->s.heap.get? x=none->Ev h' x K v->Q (.ref x) {s with heap:=h',toks:=tk}):
 wpAny W.M A (call (.ref K) [v]) Q E s:=by
 obtain⟨m,kc,a0,V⟩:=KK;obtain⟨md,X⟩:=kc.ask (M:=W.M);obtain⟨fI,Z,im⟩:=a0 r hr;rw[hn] at Z;have a1:∃o,s.heap.get? fI=some o/\o.cls=.type "function":=by obtain⟨cd,ct,ho,_⟩:=im;exact⟨_,ho,rfl⟩
 refine FL (Ur X Z a1 ?_);have kp:∀b o,s.heap.get? b=some o->((s.heap.push emptyDict).push (instObj K s.heap.objs.size)).get? b=some o:=λ b o e=>Am _ (Am _ e);have H:A9 W s.heap ((s.heap.push emptyDict).push (instObj K s.heap.objs.size)):=.ae kp;have kk:Kz s.heap ((s.heap.push emptyDict).push (instObj K s.heap.objs.size)):=λ b o e _ _ _=>kp b o e;have hx:((s.heap.push emptyDict).push (instObj K s.heap.objs.size)).get? (s.heap.objs.size+1)=some (On K s.heap.objs.size #[]):=by
  refine Eq.trans (congrArg _ (show s.heap.objs.size+1=(s.heap.push emptyDict).objs.size from(BS _ _).symm)) ?_;exact Ak _ rfl
 have C:s.heap.get? (s.heap.objs.size+1)=none:=by
  cases e:s.heap.get? (s.heap.objs.size+1) with
  |none=>rfl
  |some o=>exact absurd (Az e) (BC.mpr (A8 _))
 obtain⟨fd,b1,b2,b3,D⟩:=T.tm (W:=W) (X:=[]) (φ:=[]) (im.ap kk) (λ x sl q=>by contradiction) (λ x q=>absurd q (w x)) (λ x y c q=>by(first |exact BZ h q |obtain rfl:=AF h q |cases Eq.trans (Eq.symm h) q |(rw[h] at q;contradiction))) (λ a q=>by(first |exact BZ h q |obtain rfl:=AF h q |cases Eq.trans (Eq.symm h) q |(replace q:=(h)▸q;contradiction)));have G':Gd W {s with heap:=(s.heap.push emptyDict).push (instObj K s.heap.objs.size)}:=⟨G.al.trans H,H.2 G.oz,G.toks⟩;have a5:fd.closure=[]:=by rw[b3,h]
 refine QP (k:=k) D b1 O (hA.new K [v]) G' (λ b q=>by contradiction) (vals:=[.ref (s.heap.objs.size+1),v]) (args:=[.ao (.ref (s.heap.objs.size+1)),.ao v]) (.ao (.ao .nil)) rfl λ I a2 B J S=>?_;rw[hb];refine Aj (plainObj_wpAny_Assign_Attribute (FI.ao S.F (v:=v) ?_ (FI.ao S.F (v:=.ref (s.heap.objs.size+1)) ?_ ?_)))
 ·rw[Ar Y.symm,An]
 ·exact An
 have k1:=S.le.ap;have L:I.get? (s.heap.objs.size+1)=some (On K s.heap.objs.size #[]):=S.le.keep hx (by simp) (by simp);obtain⟨a6,X'⟩:=((kc.ap kk).ap k1).ask (M:=W.M);have a3:m "__setattr__"=none:=V _ (by decide+kernel) U.2.2;obtain⟨hh,g,d,t,os⟩:=s;refine UD X' L (by decide+kernel) a3 (by decide+kernel) λ M N a4 sb R=>?_;refine Bd ⟨rfl,?_⟩;refine hQ M N _ ?_ (Aa J R) C ⟨_,a4⟩;exact(H.trans S.le).bb C (λ o vs e q=>by obtain rfl:=AF L e;contradiction) sb
end
section
variable {A:Around}{E:B3}
theorem JN {y:Str}{a:Type}{x:Str}{v:a}:List.lookup y [(x,v)]=if y=x then some v else none:=by
 by_cases h:y=x
 ·subst h;rw[if_pos rfl,An]
 ·rw[if_neg h,Ar h];rfl
noncomputable def LM (w:Bl)(E:Nat)(k:Heap)(f:Addr)(c:Value->Value->Option Int):Prop:=
 (∃H,∀h,A9 w k h->∃o,h.get? f=some o/\o.data=.func H)/\
 ∀A s u v n,Cc E A->A9 w k s.heap->Gd w s->c u v=some n->CC w A (call (.ref f) [u,v]) s (λ r _=>∃t,r=.int n t)
theorem LM.ac {c:Value->Value->Option Int}(x:LM W k g f c)(o:A9 W g d):LM W k d f c:=
 ⟨by obtain⟨w,e⟩:=x.1;exact⟨w,λ h E=>e h (o.trans E)⟩,λ A s u v n a b=>x.2 A s u v n a (o.trans b)⟩
theorem Mb {y:Str}{a:Type}{x:Str}{v u:a}(h:List.lookup y [(x,v)]=some u):y=x/\u=v:=by
 rw[JN] at h;by_cases q:y=x
 ·rw[if_pos q] at h;exact⟨q,(Au h).symm⟩
 ·rw[if_neg q] at h;cases h
theorem Wx {f K:Addr}{v l:Value}{kk:Nat}{Y L M R U p6:Pos}{m:Str->Option Value}{t:CmpOp}{g:Str}{e:List Str}{p:List Jg}(KK:Ys s.heap K g "obj" l e p)(a2:iE e){r:Jg}(hr:r∈p)(T:Q4 r){j:Addr}(N:r.bi=[(("mycmp":Str),j)])(Z:r.sc.names.lookup ("mycmp":Str)=some .free)(O:∀x,r.sc.names.lookup x=some .free->x="mycmp")
 {C I J:Pos} (hb:r.body=[.Return (some (.Compare (.Call (.Name "mycmp" Y) [.Attribute (.Name r.x L) "obj" M,.Attribute (.Name r.y R) "obj" U] [] p6) [t] [.Constant (.int 0) kk C] I)) J]) (b8:r.x≠r.y)
 (b9:r.x≠"mycmp") (c0:r.y≠"mycmp") (hA:Cc (k+2) A) (G:Gd W s) (a3:W.h0.NoLimit) {i:Addr} (a4:s.heap.IsCell j (some (.ref i))) (c1:W.h0.get? j=none) {c:Value->Value->Option Int} (hf:LM W k s.heap i c)
 {x y:Addr} {u:Value} {n:Int} {b:Bool} (ix:Ev s.heap x K u) (iy:Ev s.heap y K v) (hu:handedIn u=true) (hv:handedIn v=true) (hn:c u v=some n) (c2:H8 t (.int n) (.int 0)=some b) (d4:m r.name=some (.ref f)) (c3:JZ s.heap f ((g++".")++r.name) l r):
 CC W A (call (.ref f) [.ref x,.ref y]) s (λ v _=>v=.bool b):=λ Q E hQ=>by
 have c4:∃o,s.heap.get? j=some o:=by obtain⟨o,ho,_⟩:=a4;exact⟨o,ho⟩
 obtain⟨fd,b1,b2,b3,D⟩:=T.tm (W:=W) (X:=[]) (φ:=[(("mycmp":Str),.ao (.ref i))]) c3 (λ z sl q=>by
  obtain⟨rfl,rfl⟩:=Mb q;exact⟨Z,by decide+kernel,λ d q=>nomatch q⟩) (λ z q=>by
  obtain rfl:=O z q;exact⟨j,some (.ref i),by rw[N];exact An,a4,λ sl q=>(Mb q).2▸⟨_,rfl,rfl⟩⟩) (λ a b d q1 q2=>by
  rw[N] at q1 q2;exact(Mb q1).1.trans (Mb q2).1.symm) (λ a q=>by
  rw[N] at q;obtain rfl:=BI.mp q;exact⟨c1,c4⟩)
 refine FL (QP (k:=k+1) D b1 a3 hA G (λ b q=>by cases q) (vals:=[.ref x,.ref y]) (args:=[.ao (.ref x),.ao (.ref y)]) (.ao (.ao .nil)) rfl λ h w B a5 S=>?_);rw[hb];have lx:([r.x,r.y].zip [CB.ao (.ref x),CB.ao (.ref y)]++[(("mycmp":Str),CB.ao (.ref i))]).lookup r.x=some (.ao (.ref x)):=An;have ly:([r.x,r.y].zip [CB.ao (.ref x),CB.ao (.ref y)]++[(("mycmp":Str),CB.ao (.ref i))]).lookup r.y=some (.ao (.ref y)):=by
  show List.lookup r.y [(r.x,_),(r.y,_),_]=_;rw[Ar b8.symm,An]
 have lm:([r.x,r.y].zip [CB.ao (.ref x),CB.ao (.ref y)]++[(("mycmp":Str),CB.ao (.ref i))]).lookup ("mycmp":Str)=some (.ao (.ref i)):=by
  show List.lookup _ [(r.x,_),(r.y,_),_]=_;rw[Ar b9.symm,Ar c0.symm,An]
 have a6:Cc (k+1) (A.deeper (Ca fd s.heap.objs.size f)):=hA.down _;have c5:(A.deeper (Ca fd s.heap.objs.size f)).units<9000:=a6.u (b:=0) (Ah _);have K1:Ys h K g "obj" l e p:=KK.ap S.le.ap;obtain⟨m1,kc,_,V⟩:=K1;obtain⟨md,Xk⟩:=kc.ask (M:=W.M);have c6:=ix.ap S.le.ap;have c7:=iy.ap S.le.ap;have a7:m1 "__getattribute__"=none:=V _ (by decide+kernel) a2.1;have a8:m1 "__getattr__"=none:=V _ (by decide+kernel) a2.2.1;obtain⟨⟨c8,c9⟩,a0⟩:=hf.ac S.le;refine Aj (CR (wpAny_Compare1 (Bu (FI.ao S.F lm ?_)) (by rfl)));refine B2 (es:=[.Attribute (.Name r.x L) "obj" M,.Attribute (.Name r.y R) "obj" U]) rfl ?_;obtain⟨om,d0,d1⟩:=c9 h (.refl _);refine B5 (o:=om) (fd:=c8) (AV (Ap (Attribute_name (FI.ao S.F lx (Ol Xk c6 (by decide+kernel) a7 a8 (by decide+kernel) (by decide+kernel) hu ?_)))));refine Ap (Attribute_name (FI.ao (s:={s with heap:=h,toks:=w+1}) S.F ly (Ol Xk c7 (by decide+kernel) a7 a8 (by decide+kernel) (by decide+kernel) hv (AR ⟨⟨d0,d1⟩,?_⟩))));have G1:Gd W {s with heap:=h,toks:=w+1+1}:=⟨B.al.trans S.le,S.le.2 B.oz,Aa S.tk (Bp (A8 _))⟩;refine a0 _ {s with heap:=h,toks:=w+1+1} u v n (a6.ag (A8 _)) (.refl _) G1 hn _ _ λ rv a9 H b0 b4 d2=>?_;obtain⟨t',rfl⟩:=d2;refine wpAny_Constant_int ?_;have:=CC.of (W:=W) (A:=A.deeper (Ca fd s.heap.objs.size f)) (s:={s with heap:=a9,toks:=H+1}) (t:=compareOp t (.int n t') (.int 0 H)) (P:=λ v h'=>v=.bool b) λ Q E hQ=>HM (X:=[]) c5 (.int n t') (.inl (.int 0 H)) c2 λ tk=>hQ _ _ tk (.refl _) rfl;refine this _ _ λ v3 b5 a1 b6 b7 d3=>?_;subst d3;exact hQ _ b5 a1 (S.le.trans (b0.trans b6)) (Aa a5 (Aa (Bp (A8 _)) (Aa b4 (Aa (A8 _) b7)))) rfl
end
variable {body:List Stmt} in
structure bZ (r:Jg)(cc:Addr)(op:CmpOp):Prop where
 uw:Q4 r
 uv:r.bi=[(("mycmp":Str),cc)]
 fr:r.sc.names.lookup ("mycmp":Str)=some .free
 fr':∀x,r.sc.names.lookup x=some .free->x="mycmp"
 ne:r.x≠r.y/\r.x≠"mycmp"/\r.y≠"mycmp"
 body:∃p1 p2 p3 p4 p5 p6 p7 p8 p9,∃kk:Nat,r.body=[.Return (some (.Compare (.Call (.Name "mycmp" p1) [.Attribute (.Name r.x p2) "obj" p3,.Attribute (.Name r.y p4) "obj" p5] [] p6) [op] [.Constant (.int 0) kk p7] p8)) p9]
structure Yh (cb:List Stmt)(names:List Str):Prop where
 abs:iE names
 init:∀cc,∃r∈Jn cc cb,r.name="__init__"/\Q4 r/\r.bi=[]/\(∀x,r.sc.names.lookup x≠some .free)/\r.x≠r.y/\∃p1 p2 p3 p4,r.body=[.Assign [.Attribute (.Name r.x p1) "obj" p2] (.Name r.y p3) p4]
 lt:∀cc,∃r∈Jn cc cb,r.name="__lt__"/\bZ r cc .Lt
 gt:∀cc,∃r∈Jn cc cb,r.name="__gt__"/\bZ r cc .Gt
variable {f:Addr}{i kk:Nat}{st:Stmt} in
inductive GI (W:Bl)(k:Nat)(h:Heap)(K:Addr)(c:Value->Value->Option Int):Prop
 |mk (cb:_) (qual:_) (pm:_) (names:_) (cc fm:Addr) (st:Yh cb names) (kk:Ys h K qual "obj" pm names (Jn cc cb)) (i:h.IsCell cc (some (.ref fm))) (c0:W.h0.get? cc=none) (f:LM W k h fm c)
section
variable {A:Around}{E:B3}
theorem GI.ac {K:Addr}{c:Value->Value->Option Int}(L:GI W k h K c)(w:A9 W h H):GI W k H K c:=
 by obtain⟨A,s,E,o,N,O,a,b,d,e,f⟩:=L;exact⟨A,s,E,o,N,O,a,b.ap w.ap,EM w d,e,f.ac w⟩
theorem GI.sr {K:Addr}{c:Value->Value->Option Int}(L:GI W k s.heap K c)(V:Cc (k+2) A)(G:Gd W s)(h:W.h0.NoLimit)(v:Value):CC W A (call (.ref K) [v]) s (λ r o=>∃x,r=.ref x/\s.heap.get? x=none/\Ev o x K v):=λ Q E Z=>by
 obtain⟨n,O,p,w,a,q,st,b,_⟩:=L;obtain⟨r,d,e,T,hc,f,N,t,u,y,z,g⟩:=st.init a;exact Zm b st.abs d e T hc f g N V G h λ o j x H l m i=>Z _ o j H l ⟨x,rfl,m,i⟩
theorem bF {M:Model}{a:Option Value->Shared->Prop}(w:Looks M s.heap (typeOf (.ref x)) C)(H:Looks M s.heap (typeLookup C name) (some (.ref f)))(N:Looks M s.heap (typeOf (.ref f)) (.type "function"))
 (O:wpAny M A (call (.ref f) [.ref x,b]) (λ v=>a (some v)) E s):wpAny M A (callSpecialIfBound? (.ref x) name [b]) a E s:=by
 have o:Looks M s.heap (bindSpecial (.ref f) (.ref x)) (.ref f,[.ref x]):=by
  unfold bindSpecial;exact N.andThen (DI (by kernel_rfl))
 simp only[callSpecialIfBound?,bindSpecialIfBound?];refine Bk (Ab (Ab (Ab (w.here (H.here ?_)))));refine Ab (wpAny_askSetting (H6 ?_));have h:wpAny M A (call (.ref f) ([.ref x]++[b]) >>=λ v=>pure (some v)) a E s:=Ab (C5 O (λ v Q k=>Ag k) λ _ _ k=>k);split
 ·exact Ab (o.here (Ag (by exact h)))
 ·exact wpAny_tryCatch (Ab (o.here (Ag (by exact h))))
theorem GI.bn {v:Value}{op:CmpOp}{K:Addr}{c:Value->Value->Option Int}(L:GI W k s.heap K c){name:Str}(N:∀d h,Yh d h->∀g,∃r∈Jn g d,r.name=name/\bZ r g op)(o:name≠"__doc__"/\name≠"obj"/\name≠"__qualname__")(J:Cc (k+2) A)(G:Gd W s)(O:W.h0.NoLimit){x y:Addr}{u:Value}{n:Int}{b:Bool}
 (B:Ev s.heap x K u) (M:Ev s.heap y K v) (R:handedIn u=true) (S:handedIn v=true) (U:c u v=some n) (p:H8 op (.int n) (.int 0)=some b) {a:Option Value->Shared->Prop}
 (Y:∀i j,A9 W s.heap i->s.toks<=j->a (some (.bool b)) {s with heap:=i,toks:=j}):wpAny W.M A (callSpecialIfBound? (.ref x) name [.ref y]) a E s:=by
 obtain⟨d,C,pm,h,g,fm,st,D,w,q,hf⟩:=L;obtain⟨r,I,t,T⟩:=N d h st g;obtain⟨p1,p2,p3,p4,p5,p6,p7,p8,p9,kn,hb⟩:=T.body;obtain⟨m,kc,z,_⟩:=id D;obtain⟨md,X⟩:=kc.ask (M:=W.M);obtain⟨f,Q,V⟩:=z r I;have Z:=Q;rw[t] at Z;have L3:Looks W.M s.heap (typeOf (.ref f)) (.type "function"):=by obtain⟨cd,ct,ho,_⟩:=V;exact(Fv ho).andThen .now
 refine bF B.ty (X.qt name _ (by rw[if_neg o.1,if_neg o.2.1,if_neg o.2.2,Z])) L3 (Wx D st.abs I T.uw T.uv T.fr T.fr' hb T.ne.1 T.ne.2.1 T.ne.2.2 J G O w q hf B M R S U p Q V _ _ λ r' i j H l e=>?_);subst e;exact Y i j H l
theorem GI.lt {v:Value}{K:Addr}{c:Value->Value->Option Int}(L:GI W k s.heap K c)(w:Cc (k+2) A)(G:Gd W s)(h:W.h0.NoLimit){x y:Addr}{u:Value}{n:Int}
 (N:Ev s.heap x K u) (O:Ev s.heap y K v) (V:handedIn u=true) (Z:handedIn v=true) (a:c u v=some n):CC W A (keyLt' oneType' (.ref x) (.ref y)) s (λ b _=>b=decide (n<0)):=λ Q E d=>by
 rw[keyLt'_oneType,oneLt'_eq];dsimp only[if_true];refine Ab (wpAny_cRoomFor (w.u (b:=0) (AX rfl)) ?_);refine Ab (L.bn (op:=.Lt) (name:="__lt__") (b:=decide (n<0)) (λ i o st e=>st.lt e) ⟨by decide+kernel,by decide+kernel,by decide+kernel⟩ w G h N O V Z a (by rfl) λ f g H l=>?_);exact CQ (d _ f g H l rfl)
end
noncomputable def OC (i j:Nat)(h st:List Nat):List Nat×List Nat:=
 let k:=h.getD j 0
 let o:=st.getD j 0
 (h.map λ r=>if r.testBit i then r|||k else r,List.zipWith (λ r q=>q|||((if q.testBit i then k else 0)|||(if r.testBit i then o else 0))) h st)
noncomputable def OD (i j:Nat)(h st:List Nat):List Nat×List Nat:=
 let k:=h.getD j 0
 (h.map λ r=>if r.testBit i then r|||k else r,List.zipWith (λ r q=>q|||(if r.testBit i then k else 0)) h st)
variable {a:Addr}{r:List Stmt} in
noncomputable def OZ (h st:List Nat):List Nat->Bool
 |[]=>true
 |a::r=>r.all (λ b=>(st.getD a 0).testBit b||((h.getD a 0).testBit b&&decide (a<b)))&&OZ h st r
variable {i j:Nat}{p:Evs}{st:Stmt} in
noncomputable def iW (n:Nat):KasT (Array Nat)->List Nat->List Nat->Bool
 | .ret p,h,st=>(p.toList.length==n)&&(List.range n).all (λ x=>p.toList.contains x)&&OZ h st p.toList
 | .ask i j k,h,st=>decide (i<n)&&decide (j<n)&&
   (if(st.getD i 0).testBit j then iW n (k true) h st else if(h.getD j 0).testBit i then iW n (k false) h st
    else iW n (k true) (OD i j h st).1 (OD i j h st).2&&iW n (k false) (OC j i h st).1 (OC j i h st).2)
noncomputable def oS (n:Nat):Bool:=iW n (kas_sort n) ((List.range n).map λ i=>2^i) ((List.range n).map λ _=>0)
theorem aQ:∀n,n<7->2<=n->oS n=true:=by decide+kernel
structure Le (n:Nat)(lt:Nat->Nat->Bool):Prop where
 tn:∀i j,i<n->j<n->lt i j=true->lt j i=false
 trans:∀i j l,i<n->j<n->l<n->lt j i=false->lt l j=false->lt l i=false
structure NE (n:Nat)(lt:Nat->Nat->Bool)(le st:List Nat):Prop where
 w:∀x y,x<n->(le.getD x 0).testBit y=true->y<n/\lt y x=false
 s:∀x y,x<n->(st.getD x 0).testBit y=true->y<n/\lt x y=true
 ll:le.length=n
 ls:st.length=n
section
theorem Le.sw {c:Nat->Nat->Bool}(k:Le n c)(o:i<n)(s:j<n)(w:l<n)(a:c i j=true)(b:c l j=false):c i l=true:=by
 cases h:c i l with
 |true=>rfl
 |false=>have:=k.trans j l i s w o b h;cases Eq.trans (Eq.symm a) this
theorem Le.ws {c:Nat->Nat->Bool}(k:Le n c)(o:i<n)(s:j<n)(w:l<n)(a:c j i=false)(b:c j l=true):c i l=true:=by
 cases h:c i l with
 |true=>rfl
 |false=>have:=k.trans l i j w o s h a;cases Eq.trans (Eq.symm b) this
theorem Zr {a:List Nat}{f:Nat->Nat}(x:Nat)(h:x<a.length):(a.map f).getD x 0=f (a.getD x 0):=by
 simp[Ax,h]
theorem SD {a st:List Nat}{f:Nat->Nat->Nat}(x:Nat)(h:x<a.length)(k:x<st.length):(List.zipWith f a st).getD x 0=f (a.getD x 0) (st.getD x 0):=by
 simp[Ax,h,k,List.getElem?_zipWith]
theorem NE.ta {i j n:Nat}{a:Nat->Nat->Bool}{le st:List Nat}(o:Le n a)(F:NE n a le st)(w:i<n)(k:j<n)(H:a j i=false):∀x y,x<n->((le.map λ(r:Nat)=>if r.testBit i then r|||le.getD j 0 else r).getD x 0).testBit y=true->y<n/\a y x=false:=by
 intro x y h e;rw[Zr x (by rw[F.ll];exact h)] at e;split at e
 ·rename_i q;simp only[KG,Cg] at e;rcases e with e |e
  ·exact F.w x y h e
  ·obtain⟨s,b⟩:=F.w j y k e;exact⟨s,o.trans x j y h k s (o.trans x i j h w k (F.w x i h q).2 H) b⟩
 ·exact F.w x y h e
theorem NE.s7 {i j n:Nat}{d:Nat->Nat->Bool}{c st:List Nat}(s:Le n d)(F:NE n d c st)(H:i<n)(o:j<n)(N:d j i=false):NE n d (OC i j c st).1 (OC i j c st).2:=by
 refine⟨F.ta s H o N,λ x y k e=>?_,by simp[OC,F.ll],by simp[OC,F.ll,F.ls]⟩;have h:((List.zipWith (λ(r q:Nat)=>q|||((if q.testBit i then c.getD j 0 else 0)|||(if r.testBit i then st.getD j 0 else 0))) c st).getD x 0).testBit y=true:=e;simp only[SD x (by rw[F.ll];exact k) (by rw[F.ls];exact k),KG,KG,Cg,Cg] at h;rcases h with h |h |h
 ·exact F.s x y k h
 ·split at h
  ·rename_i q;obtain⟨_,a⟩:=F.s x i k q;obtain⟨w,b⟩:=F.w j y o h;exact⟨w,s.sw k o w (s.sw k H o a N) b⟩
  ·simp at h
 ·split at h
  ·rename_i q;obtain⟨w,b⟩:=F.s j y o h;exact⟨w,s.ws k o w (s.trans x i j k H o (F.w x i k q).2 N) b⟩
  ·simp at h
theorem NE.s8 {i j n:Nat}{c:Nat->Nat->Bool}{a st:List Nat}(s:Le n c)(F:NE n c a st)(w:i<n)(o:j<n)(H:c i j=true):NE n c (OD i j a st).1 (OD i j a st).2:=by
 refine⟨F.ta s w o (s.tn i j w o H),λ x y k e=>?_,by simp[OD,F.ll],by simp[OD,F.ll,F.ls]⟩;have h:((List.zipWith (λ(r q:Nat)=>q|||(if r.testBit i then a.getD j 0 else 0)) a st).getD x 0).testBit y=true:=e;simp only[SD x (by rw[F.ll];exact k) (by rw[F.ls];exact k),KG,Cg] at h;rcases h with h |h
 ·exact F.s x y k h
 ·split at h
  ·rename_i q;obtain⟨N,b⟩:=F.w j y o h;exact⟨N,s.sw k o N (s.ws k w o (F.w x i k q).2 H) b⟩
  ·simp at h
theorem P3:∀(a b:List Nat),a.Nodup->(∀x∈a,x∈b)->a.length=b.length->a.Perm b:=by
 intro a;induction a with
 |nil=>
  intro b _ _ h;have:b=[]:=B6.mp h.symm;rw[this]
 |cons x a k=>
  intro b o h H;have s:=h x Ac;rw[Db] at o;refine List.Perm.trans (List.Perm.cons x (k (b.erase x) o.2 (λ y w=>?_) ?_)) (List.perm_cons_erase s).symm
  ·exact(List.mem_erase_of_ne (λ q=>o.1 (q▸w):y≠x)).mpr (h y (Ad _ w))
  ·rw[E9 s];rw[<-H];rfl
noncomputable def TF (h:Nat->Nat->Bool)(p:List Nat):Prop:=p.Pairwise λ a b=>h b a=false/\(h a b=true\/a<b)
noncomputable def F3 (n:Nat)(h:Nat->Nat->Bool)(p:List Nat):Prop:=p.Perm (List.range n)/\TF h p
theorem NE.qy {n:Nat}{c:Nat->Nat->Bool}{d st:List Nat}(s:Le n c)(F:NE n c d st)(l:List Nat)(o:∀x∈l,x<n)(w:OZ d st l=true):TF c l:=by
 induction l with
 |nil=>exact List.Pairwise.nil
 |cons a r H=>
  obtain⟨N,O⟩:=Ai.mp w;refine List.Pairwise.cons (λ b Q=>?_) (H (λ x V=>o x (Ad _ V)) O);have:=AE.mp N b Q;have h:=o a Ac;simp only[Cg,As,decide_eq_true_eq] at this;rcases this with q |⟨q,W⟩
  ·obtain⟨k,e⟩:=F.s a b h q;exact⟨s.tn a b h k e,.inl e⟩
  ·exact⟨(F.w a b h q).2,.inr W⟩
theorem Va {n:Nat}{b:Nat->Nat->Bool}(W:Le n b){a:Nat->Nat->(Bool->Shared->Prop)->Shared->Prop}{I:Shared->Prop}(hc:∀i j C h,i<n->j<n->I h->(∀w,I w->C (b i j) w)->a i j C h){c:Array Nat->Shared->Prop}(l:∀p h,I h->F3 n b p.toList->c p h)(t:KasT (Array Nat))(N st:List Nat)(h:Shared)(F:NE n b N st)(s:iW n t N st=true)(d:I h):t.kasWp a c h:=by
 induction t generalizing N st h with
 |ret p=>
  obtain⟨H,m⟩:=Ai.mp s;obtain⟨r,u⟩:=Ai.mp H;have f:(List.range n).Perm p.toList:=P3 _ _ List.nodup_range (λ x Z=>Dw.mp (AE.mp u x Z)) (by rw[BB r,List.length_range]);exact l p h d ⟨f.symm,F.qy W _ (λ x Z=>AC.mp (f.symm.mem_iff.mp Z)) m⟩
 |ask i j k V=>
  obtain⟨H,s⟩:=Ai.mp s;obtain⟨O,Q⟩:=Ai.mp H;have O:=of_decide_eq_true O;have Q:=of_decide_eq_true Q;refine hc i j _ h O Q d λ w o=>?_;by_cases q:(st.getD i 0).testBit j=true
  ·exact(F.s i j O q).2▸V _ N st w F ((if_pos q).symm.trans s) o
  ·replace s:=(if_neg q).symm.trans s
   by_cases q:(N.getD j 0).testBit i=true
   ·exact(F.w j i Q q).2▸V _ N st w F ((if_pos q).symm.trans s) o
   ·have g:=Ai.mp ((if_neg q).symm.trans s);cases e:b i j with
    |true=>exact V _ _ _ w (F.s8 W O Q e) g.1 o
    |false=>exact V _ _ _ w (F.s7 W Q O e) g.2 o
theorem Rv {n:Nat}{b:Nat->Nat->Bool}(w:n<7)(H:2<=n)(k:Le n b){a:Nat->Nat->(Bool->Shared->Prop)->Shared->Prop}{I:Shared->Prop}(hc:∀i j C s,i<n->j<n->I s->(∀o,I o->C (b i j) o)->a i j C s){c:Array Nat->Shared->Prop}(N:∀p s,I s->F3 n b p.toList->c p s)(O:I s):
 (kas_sort n).kasWp a c s:=by
 refine Va k hc N _ _ _ s ⟨λ x y h e=>?_,λ x y h e=>?_,by simp,by simp⟩ (aQ n w H) O
 ·skip
  simp[h,Nat.testBit_two_pow] at e;subst e;refine⟨h,?_⟩;cases q:b x x with
  |false=>rfl
  |true=>have:=k.tn x x h h q;cases Eq.trans (Eq.symm q) this
 ·skip
  simp[h] at e
end
variable {c:List PV}{b:List Value} in
noncomputable def GH (h:Heap)(K:Addr):List Value->List Value->Prop
 |[],[]=>True
 |u::b,x::c=>(∃a,x=.ref a/\Ev h a K u)/\GH h K b c
 |_,_=>False
theorem GH.br {c:List Value}{K:Addr}{P:List Value->List Value->Prop}(k:P [] [])(o:∀u c x b,(∃a,x=.ref a/\Ev h a K u)->GH h K c b->P c b->P (u::c) (x::b)){b:List Value}(q:GH h K c b):P c b:=
 c.rec (motive:=λ c=>∀b,GH h K c b->P c b) (λ b=>b.casesOn (λ _=>k) λ _ _ q=>q.elim) (λ u c s b=>b.casesOn (λ q=>q.elim) λ x b q=>o _ _ _ _ q.1 q.2 (s b q.2)) b q
theorem GH.ap {c:List Value}{K:Addr}(k:Kz h H){b:List Value}(q:GH h K c b):GH H K c b:=
 q.br (P:=λ c b=>GH H K c b) trivial λ _ _ _ _ a _ i=>by obtain⟨x,e,m⟩:=a;exact⟨⟨x,e,m.ap k⟩,i⟩
theorem GH.len {b:List Value}{K:Addr}{a:List Value}(q:GH h K b a):b.length=a.length:=q.br (P:=λ b a=>b.length=a.length) rfl λ _ _ _ _ _ _ i=>congrArg (·+1) i
theorem GH.sa {a:Addr}{d:List Value}{K:Addr}{u:Value}(i:Ev h a K u){c:List Value}(q:GH h K d c):GH h K (d++[u]) (c++[.ref a]):=
 q.br (P:=λ d c=>GH h K (d++[u]) (c++[Value.ref a])) (show(∃b,Value.ref a=.ref b/\Ev h b K u)/\True from⟨⟨a,rfl,i⟩,trivial⟩) λ _ _ _ _ a _ i=>⟨a,i⟩
theorem GH.get {b:List Value}{i:Nat}{K:Addr}{c:List Value}(q:GH h K b c):i<b.length->∃a,c.getD i .none=.ref a/\Ev h a K (b.getD i .none):=
 q.br (P:=λ b c=>∀i,i<b.length->∃a,c.getD i .none=.ref a/\Ev h a K (b.getD i .none)) (λ _ h=>(by contradiction)) (λ _ _ _ _ a _ k i=>i.casesOn (λ _=>a) λ i h=>k i (Jz h)) i
theorem GH.tw {c:List Value}{K:Addr}{M:Model}{b:List Value}(q:GH h K c b):∀x∈b,Looks M h (typeOf x) (.ref K):=
 q.br (P:=λ _ b=>∀x∈b,Looks M h (typeOf x) (.ref K)) (λ _ h=>(by contradiction)) λ _ _ _ _ a _ k x o=>(Ae.mp o).elim (λ e=>by obtain⟨y,q,m⟩:=a;exact(e.trans q)▸m.ty) (k x)
variable {tk:Nat} in
structure SI (W:Bl)(s₀:Shared)(K a kS e1:Nat)(us ks:List Value)(e:Nat)(s:Shared):Prop where
 le:A9 W s₀.heap s.heap
 tk:s₀.toks<=s.toks
 same:s={s₀ with heap:=s.heap,toks:=s.toks}
 hk:s.heap.get? kS=some (seqObj "list" (List.toArray ks) e)
 ha:s.heap.get? a=some (seqObj "list" #[] e1)
 td:GH s.heap K us ks
section
variable {A:Around}{E:B3}
theorem SI.step {f g:List Value}{tk a c d e:Nat}{b:Shared}{K:Addr}(x:SI W b K a c d f g e s)(h:A9 W s.heap H)(l:s.toks<=tk):SI W b K a c d f g e {s with heap:=H,toks:=tk}:=
 ⟨x.le.trans h,Aa x.tk l,by rw[x.same],h.keep x.hk (by simp[seqObj]) (by simp[seqObj]),h.keep x.ha (by simp[seqObj]) (by simp[seqObj]),x.td.ap h.ap⟩
theorem V0 {g:List Value}{d:Shared}{K:Addr}{c:Value->Value->Option Int}{a f m e:Nat}{P:PySem.Fin->Shared->Prop}(hn:g.length<64)(L:GI W k d.heap K c)(D:Cc (k+2) A)(G:Gd W d)(V:W.h0.NoLimit)(n:f≠a)(p:d.heap.get? f=none)(I:SI W d K a f m [] [] e s)
 (J:∀h e O,SI W d K a f m g h e O->wpAny W.M A (ksk_end a false g.toArray m (.ref f) (List.toArray h)) P E O):wpAny W.M A (ksk_rest a (.ref K) false g.toArray m (.ref f)) P E s:=by
 refine Ab (KB ?_)
 first
  |rw[List.forIn_toArray]
  |(rw[<-Array.forIn_toList];simp only[List.toList_toArray])
  |rw[<-Array.forIn_toList]
 refine Ab (ksk_fold (λ i O=>∃h e,SI W d K a f m (g.take i) h e O) g 0 s ⟨[],e,by exact I⟩ (λ j x O C M=>?_) λ O R=>?_)
 ·obtain⟨h,e,S⟩:=M;rw[EP] at S ⊢;have T:j<g.length:=by
   obtain⟨q,_⟩:=CS.mp C;exact q
  have U:h.length=j:=by rw[<-S.td.len,ED];exact Fg (Cx T)
  refine Ab (wpAny_attempt ((L.ac S.le).sr D (⟨G.al.trans S.le,S.le.2 G.oz,Aa G.toks S.tk⟩) V x _ _ λ r Q tk H l Y=>?_));obtain⟨w,rfl,fr,i⟩:=Y;have N:=S.step H l;have t:=Be Q f (Obj.mapSeq (·.push (.ref w)))
  obtain⟨v,z⟩:∃v,(Q.update f (Obj.mapSeq (·.push (.ref w)))).get? f=some (seqObj "list" (List.toArray (h++[.ref w])) v):=⟨_,by rw[<-(by simp:(List.toArray h).push (.ref w)=List.toArray (h++[.ref w]))];exact get?_update_seq N.hk (·.push (.ref w))⟩
  try rfl
  refine Ab (listUpdate_at N.hk rfl ?_ (by rw[DH,EU];omega) (Aa (AG (Array.size_push ..)) (by rw[DH,EU];omega)));refine Ag ⟨rfl,h++[.ref w],v,?_⟩;have kk:Kz Q (Q.update f (Obj.mapSeq (·.push (.ref w))))\/True:=.inr trivial
  have B:∀{Z h},GH Q K Z h->GH (Q.update f (Obj.mapSeq (·.push (.ref w)))) K Z h:=by
   intro Z h q;induction Z generalizing h with
   |nil=>cases h<;>exact q
   |cons u Z ih=>
    cases h with
    |nil=>exact q
    |cons y h=>
     obtain⟨⟨b,e,dx,i⟩,r⟩:=q;refine⟨⟨b,e,dx,?_⟩,ih r⟩;rw[t.2 b (λ q=>by cases q;replace i:=Eq.trans (Eq.symm (N.hk)) i;cases i)];exact i
  refine⟨?_,N.tk,by rw[N.same],z,(t.2 a n.symm).trans N.ha,?_⟩
  ·exact N.le.bb p (λ o a0 m e2=>by replace m:=Eq.trans (Eq.symm (N.hk)) m;cases m;contradiction) t
  ·have:g.take (j+1)=g.take j++[x]:=by rw[List.take_add_one,C];rfl
   rw[this];exact B (GH.sa i N.td)
 ·obtain⟨h,e,S⟩:=R;rw[EP,List.take_length] at S
  try dsimp only
  exact Ab (listItems_at S.hk rfl (J h e O S))
end
section
variable {A:Around}{E:B3}
theorem PQ {g f:List Value}{b:Shared}{K:Addr}{a c d e:Nat}{st:SortSt}{out:List Value}{P:PySem.Fin->Shared->Prop}(N:c≠a)(O:b.heap.get? c=none)(Q:b.heap.get? a=none)(k:(arrOf st).map (·.2)=List.toArray out)(x:out.length<64)(n:f.length<64)(p:failedOf st=none)(S:SI W b K a c d g f e s)
 (q:∀V l w,A9 W b.heap V->b.toks<=l->V.get? a=some (seqObj "list" (List.toArray out) w)->P (.done (.ret .none)) {b with heap:=V,toks:=l}):wpAny W.M A (ksk_tail a false d (.ref c) st) P E s:=by
 have m:=Be s.heap c (Obj.mapSeq λ _=>(#[]:Array Value));have h:(s.heap.update c (Obj.mapSeq λ _=>(#[]:Array Value))).get? a=some (seqObj "list" #[] d):=(m.2 a N.symm).trans S.ha;have r:=Be (s.heap.update c (Obj.mapSeq λ _=>(#[]:Array Value))) a (Obj.mapSeq λ _=>List.toArray out);obtain⟨w,Z⟩:∃w,((s.heap.update c (Obj.mapSeq λ _=>(#[]:Array Value))).update a (Obj.mapSeq λ _=>List.toArray out)).get? a=some (seqObj "list" (List.toArray out) w):=⟨_,get?_update_seq h λ _=>List.toArray out⟩;have i:(List.toArray out).size=out.length:=by exact(DH)
 dsimp only[ksk_tail]
 try dsimp only
 rw[k];refine Ab (listUpdate_at S.hk rfl ?_ (by rw[DH,EU];omega) (AP _));refine Ab (wpAny_letGo ?_);refine Ab (seqEpoch_at h rfl ?_);refine Ab (listUpdate_at h rfl ?_ (AP _) (Aa (AG i) (by rw[EU];omega)));rw[p];simp;refine Ag ?_;have t:A9 W b.heap (s.heap.update c (Obj.mapSeq λ _=>(#[]:Array Value))):=S.le.bb O (λ o j H u=>by replace H:=Eq.trans (Eq.symm (S.hk)) H;cases H;contradiction) m;have v:=t.bb Q (λ o j H u=>by obtain rfl:=AF h H;contradiction) r;have:=q _ s.toks w v S.tk Z;rw[S.same];exact this
structure TK (c:Value->Value->Option Int)(vs:List Value)(lt:Nat->Nat->Bool):Prop where
 has:∀i j,i<vs.length->j<vs.length->∃m,c (vs.getD i .none) (vs.getD j .none)=some m/\lt i j=decide (m<0)
 ok:Le vs.length lt
 hand:∀v∈vs,handedIn v=true
theorem Ub (h:List Value):(List.range h.length).map (λ i=>h.getD i .none)=h:=by
 refine List.ext_getElem (by simp) λ i o k=>?_;simp[Ax,k]
theorem R6 {a:Nat->Nat->Bool}(h:n<2):F3 n a (List.range n):=by
 refine⟨.refl _,?_⟩;exact Mq (P:=λ n=>(List.range n).Pairwise _) (Mq Jj List.Pairwise.nil) (List.pairwise_singleton ..) n h
theorem YK {f q:List Value}{d:Shared}{K:Addr}{c:Value->Value->Option Int}{a n u e:Nat}{r:Nat->Nat->Bool}{P:PySem.Fin->Shared->Prop}(hn:f.length<7)(L:GI W k d.heap K c)(hA:Cc (k+2) A)(G:Gd W d)(v:W.h0.NoLimit)(y:n≠a)(z:d.heap.get? n=none)(B:d.heap.get? a=none)(C:TK c f r)(S:SI W d K a n u f q e s)
 (T:∀O Q D p,F3 f.length r p->A9 W d.heap O->d.toks<=Q->O.get? a=some (seqObj "list" (List.toArray (p.map λ i=>f.getD i .none)) D)->P (.done (.ret .none)) {d with heap:=O,toks:=Q}):
 wpAny W.M A (ksk_end a false f.toArray u (.ref n) (List.toArray q)) P E s:=by
 have U:=S.td.len;have step:∀t:Sem PySem.Fin,wpAny W.M A t P E s->wpAny W.M A (if false=true then(do let _ <-rule "list.sort.reverse";t) else t) P E s:=by
  intro t ht;exact ht
 dsimp only[ksk_end]
 try dsimp only
 refine step _ ?_;by_cases V:f.toArray.size<2
 ·rw[if_pos V,if_pos V];refine Ab (Ag ?_);refine Ab (Ag ?_);have o:f.length<2:=by exact V
  refine PQ (out:=f) y z B ?_ (by omega) (by omega) rfl S λ O Q D H l I=>T O Q D (List.range f.length) (R6 o) H l ?_
  ·skip
   apply Array.toList_inj.mp;rw[Array.toList_map,ksk_zip];exact(List.map_snd_zip (by omega))
  ·rw[Ub];exact I
 ·rw[if_neg V,if_neg V];have o:2<=f.length:=by
   have:¬f.length<2:=by exact V
   omega
  refine Ab (kas_kind (T:=.ref K) (by omega) S.td.tw (by rfl) (by exact beq_self_eq_true _) ?_);refine Ab (C5 (kat_run (w:=W.w) (prog:=W.prog) (κ:=oneType') (G:=λ p w=>SI W d K a n u f q e w/\F3 f.length r p.toList) (Q:=λ N w=>∃p:Array Nat,p.size=f.length/\arrOf N=p.map (kas_item ((List.toArray q).zip (List.toArray f)))/\failedOf N=none/\(SI W d K a n u f q e w/\F3 f.length r p.toList))
   U.symm o (by omega) (λ p' N w a1 a2 a3 a4=>⟨p',a1,a2,a3,a4⟩) ?_) ?_ λ _ _ x=>x)
  ·refine Rv hn o C.ok (I:=λ w=>SI W d K a n u f q e w) (λ i j C' w Z J h hC=>?_) (λ p w h g=>⟨h,g⟩) S;unfold kas_ask;refine C6 λ gg kk=>?_;obtain⟨xa,ex,ix⟩:=h.td.get Z;obtain⟨ya,ey,iy⟩:=h.td.get J;obtain⟨m,hm,M⟩:=C.has i j Z J;refine kk ?_;have Y:∀i,i<f.length->handedIn (f.getD i .none)=true:=λ i Z=>C.hand _ (by rw[Ax,AW Z];exact Ge Z);rw[ex,ey];refine(L.ac h.le).lt hA (⟨G.al.trans h.le,h.le.2 G.oz,Aa G.toks h.tk⟩) v ix iy (Y i Z) (Y j J) hm _ _ λ b O Q H l hb=>?_;rw[hb,<-M];exact hC _ (h.step H l)
  ·rintro⟨⟨⟩,N⟩ w ⟨p,hp,R,hf,h,g⟩
   try rfl
   exact PQ y z B (kat_snds U.symm R) (by rw[Af,CK,hp];omega) (by omega) hf h λ O Q D H l I=>T O Q D p.toList g H l I
theorem VZ {b:List Value}{n a:Nat}{s₀:Shared}{K:Addr}{c:Value->Value->Option Int}{d:Nat->Nat->Bool}{P:PySem.Fin->Shared->Prop}(v:b.length<7)(L:GI W k s₀.heap K c)(r:Cc (k+2) A)(G:Gd W s₀)(h:W.h0.NoLimit)(w:s₀.heap.get? a=none)(C:TK c b d)
 (V:A9 W s₀.heap s.heap) (Z:s₀.toks<=s.toks) (f:s={s₀ with heap:=s.heap,toks:=s.toks}) (H:s.heap.get? a=some (seqObj "list" b.toArray n))
 (x:∀g t y p,F3 b.length d p->A9 W s₀.heap g->s₀.toks<=t->g.get? a=some (seqObj "list" (List.toArray (p.map λ i=>b.getD i .none)) y)->P (.done (.ret .none)) {s₀ with heap:=g,toks:=t}):
 wpAny W.M A (ksk_tree a (.ref K) false) P E s:=by
 have R:a<s.heap.objs.size:=Az H;have z:=Be s.heap a (Obj.mapSeq λ _=>(#[]:Array Value));obtain⟨j,N⟩:∃j,(s.heap.update a (Obj.mapSeq λ _=>(#[]:Array Value))).get? a=some (seqObj "list" #[] j):=⟨_,get?_update_seq H λ _=> #[]⟩;have l:((s.heap.update a (Obj.mapSeq λ _=>(#[]:Array Value))).push (seqObj "tuple" b.toArray 0)).objs.size=s.heap.objs.size+1:=by rw[size_push',Heap.size_update]
 have u:A9 W s₀.heap (s.heap.update a (Obj.mapSeq λ _=>(#[]:Array Value))):=V.bb w (λ o B D I=>by obtain rfl:=AF H D;cases I) z;have J:=(u.trans (.push _ (seqObj "tuple" b.toArray 0))).trans (.push _ (seqObj "list" #[] 0));unfold ksk_tree;refine Ab (listItems_at H rfl ?_);refine Ab (listUpdate_at H rfl ?_ (by rw[DH,EU];omega) (AP _));refine Ab (seqEpoch_at N rfl ?_);refine Ab (wpAny_newTuple ?_ (by show b.length<=_;rw[EU];omega));refine Ab (wpAny_newList ?_ (AP _));refine Bk ?_;have O:((s.heap.update a (Obj.mapSeq λ _=>(#[]:Array Value))).push (seqObj "tuple" b.toArray 0)).objs.size≠a:=by rw[l];omega
 have Q:s₀.heap.get? ((s.heap.update a (Obj.mapSeq λ _=>(#[]:Array Value))).push (seqObj "tuple" b.toArray 0)).objs.size=none:=by
  cases q:s₀.heap.get? ((s.heap.update a (Obj.mapSeq λ _=>(#[]:Array Value))).push (seqObj "tuple" b.toArray 0)).objs.size with
  |none=>rfl
  |some o=>
   obtain⟨T,m⟩:=Bc (u.trans (.push _ (seqObj "tuple" b.toArray 0))) ⟨o,q⟩;exact absurd (Az m) (Fb _)
 have S:SI W s₀ K a ((s.heap.update a (Obj.mapSeq λ _=>(#[]:Array Value))).push (seqObj "tuple" b.toArray 0)).objs.size j [] [] 0 {s with heap:=((s.heap.update a (Obj.mapSeq λ _=>(#[]:Array Value))).push (seqObj "tuple" b.toArray 0)).push (seqObj "list" #[] 0)}:=
  ⟨J,Z,by rw[f],Ak _ rfl,Am _ (Am _ N),trivial⟩
 exact V0 (by omega) L r G h O Q S λ U e Y M=>YK v L r G h O Q w C M x
theorem VV {a:List Value}{K:Addr}{c:Value->Value->Option Int}{l:Addr}{d:Nat->Nat->Bool}(r:a.length<7)(L:GI W k s.heap K c)(f:Cc (k+3) A)(G:Gd W s)(N:W.h0.NoLimit)(C:TK c a d)(t:s.heap.IsList l a.toArray)
 (u:∀O e D j p,F3 a.length d p->A9 W s.heap O->s.toks<=e->s.heap.get? D=none->O.get? D=some (seqObj "list" (List.toArray (p.map λ i=>a.getD i .none)) j)->Q (.ref D) {s with heap:=O,toks:=e}):
 wpAny W.M A (call (.builtin "sorted") [.ref l] [(Str.ofString "key",.ref K)]) Q E s:=by
 refine call_function_entry_kw kind_sorted plain_sorted entry_sorted (ksk_s1 _ _) ?_;unfold Builtin.«sorted»;refine Ab (m:=checkCount "sorted" 1 1 _) (Ag ?_);refine Ab (collect_list t ?_ (by rw[EU];omega));refine Ab (wpAny_newList ?_ (by rw[EU];omega));have h:((s.heap.push (seqObj "list" #[] 0)).update s.heap.objs.size (Obj.mapSeq (·++a.toArray))).objs.size=s.heap.objs.size+1:=by
  rw[Heap.size_update,size_push']
 have V:(((s.heap.push (seqObj "list" #[] 0)).update s.heap.objs.size (Obj.mapSeq (·++a.toArray))).push (seqObj "list" a.toArray 0)).get? (s.heap.objs.size+1)=some (seqObj "list" a.toArray 0):=by
  rw[<-h];exact Ak _ rfl
 have Z:∀b o,s.heap.get? b=some o->(((s.heap.push (seqObj "list" #[] 0)).update s.heap.objs.size (Obj.mapSeq (·++a.toArray))).push (seqObj "list" a.toArray 0)).get? b=some o:=λ b o q=>by
  have w:b<s.heap.objs.size:=Az q;rw[Heap.get?_push_ne _ _ _ (by rw[h];exact BN (FN w)),Heap.get?_update_ne _ _ _ _ (BN w),Heap.get?_push_ne _ _ _ (BN w)];exact q
 have n:s.heap.get? (s.heap.objs.size+1)=none:=by
  cases q:s.heap.get? (s.heap.objs.size+1) with
  |none=>rfl
  |some o=>exact absurd (Az q) (BC.mpr (A8 _))
 rw[h];have m:Cc (k+2) A.in1.in1:=⟨f.handled,(f.ag (A8 _)).depth,P8 (b:=2) f.units (AX rfl)⟩;refine Ab (Bk (wpAny_call_entry_kw slot_list_sort ⟨_,V,rfl⟩ entry_list_sort ?body (ksk_l1 _ _)))
 case body=>
  have x:=ksk_t1 K (s.heap.objs.size+1);refine VZ (s₀:=s) (s:={s with heap:=((s.heap.push (seqObj "list" #[] 0)).update s.heap.objs.size (Obj.mapSeq (·++a.toArray))).push (seqObj "list" a.toArray 0)}) r L m G N n C (.ae Z) (Ah _) rfl V λ O e j p g H l v=>⟨_,rfl,Ag ⟨_,rfl,u O e _ j p g H l n v⟩⟩
end
section
variable {A:Around}{E:B3}{C:A5}
structure TJ (W:Bl)(mg mb:Str->Option Value)(C:A5)(k':Nat)(a:Addr):Prop where
 call':∀(A:Around)(s:Shared)(k n:Nat)(f:Addr)(c:Value->Value->Option Int),Cc (k+1) A->Gd W s->LM W n s.heap f c->CC W A (call (.ref a) [.ref f]) s (λ v h'=>∃K,v=.ref K/\s.heap.get? K=none/\GI W n h' K c)
theorem TJ.call (x:TJ W mg mb C b a)(h:Cc (k+1) A)(G:Gd W s){c:Value->Value->Option Int}(o:LM W n s.heap f c):
 CC W A (call (.ref a) [.ref f]) s (λ v w=>∃K,v=.ref K/\s.heap.get? K=none/\GI W n w K c):=x.call' A s k n f c h G o
end
noncomputable def Mm (k:Heap)(o:Array Value)(s:List (Pos×Str)):Prop:=∀r∈s,∀h,codeAmong r.1 o.toList=some h->Cd k h r.2
structure bX (W:Bl)(c P:Addr)(ls:List (Pos×Str)):Prop where
 mem:P∈W.TB
 get:∀h,W.ox h->∃ps,DR h c P ps/\Mm h ps ls
 pg:∀h h' ps more,W.ox h->h.get? P=some (tabObj ps)->(∀b o,b≠P->h.get? b=some o->h'.get? b=some o)->DR h' c P (ps++more)->Mm h' (ps++more) ls->W.ox h'
 u8:∀a∈ls,∀b∈ls,a.1.line=b.1.line->a.1.col=b.1.col->a=b
noncomputable abbrev WT (k:Str)(h:Arguments)(o:Expr)(w:Scope)(s:List (Str×Addr))(H N O:Value):Obj:={cls:=.type "function",data:=.func (RT "<lambda>" k h o w s H N O)}
section
variable {A:Around}{E:B3}{C:A5}
theorem Cd.ext (x:Cd h a q)(T:DR h c P d)(k:Heap.ExtBut P h H):Cd H a q:=x.at_ λ b o e hc=>k b o (λ q=>by subst q;replace e:=Eq.trans (Eq.symm (T.at_)) e;cases e;contradiction) e
theorem WS (Gk:Dt W C k mg mb)(LT:bX W c P n)(u:mainGlobals≠P)(v:W.h0.BuiltinsAt mg P){g:Env}(x:g.globals=mainGlobals)(N:g.code=.ref c)(w:(m,a)∈n)
 (hq:g.qual++"<lambda>"=a) (O:defaultsOf d g=([],[])) (y:closureFor V g=pure j) (G:Gd W s)
 (a0:∀h t f U z,A9 W s.heap h->s.toks<=t->s.heap.get? f=none->h.get? f=some (WT a d i V j ((mg "__name__").getD .none) U z)->Cd h U a->Q (.ref f) {s with heap:=h,toks:=t}):
 wpAny W.M A (eval (.Lambda d i V m) g) Q E s:=by
 refine C6 λ gg B=>?_;obtain⟨Y,T,LG⟩:=LT.get s.heap G.oz;refine B ?_;have D:s.heap.BuiltinsAt mg P:=by
  refine C6 λ gg B=>?_;obtain⟨bm,o,a1,a2,a3,a4,a5,I,a7,a8⟩:=v;refine B ?_;exact⟨bm,o,a1,a2,a3,a4,G.al.keep a5 (by rw[I];decide) (by rw[I];decide),I,a7,a8⟩
 refine kla_eval O ?_;rw[hq];refine RL y x (Co G.al Gk.g) N T u D (λ J hc=>LG (m,a) w J hc) λ f J z h t L M l hf=>?_;have Z:Mm h L n:=λ r hr p hc=>by
  rcases M.only r.1 p hc with q |⟨rfl,_,e1,e2⟩
  ·exact(LG r hr p q).ext T M.ext
  ·have:=LT.u8 r hr (m,a) w e1 e2;rw[this];exact M.ol
 have HL:A9 W s.heap h:=by
  obtain⟨H,R⟩:=M.pre;refine⟨λ b o e=>?_,λ S=>LT.pg s.heap h Y H S T.at_ (λ b o q e=>M.ext b o q e) (R▸M.rz) (R▸Z)⟩;by_cases qP:b=P
  ·subst qP
   replace e:=Eq.trans (Eq.symm (T.at_)) e
   cases e
   subst R;exact .inr (.inr ⟨LT.mem,Y,H,rfl,M.rz.at_⟩)
  ·exact .inl (M.ext b o qP e)
 exact a0 h t f J z HL l M.new M.at_ M.ol
structure Yg (params:Arguments)(body:Expr)(sc:Scope)(ps:List Str):Prop where
 co:sc.isCoroutine=false
 be:sc.isGenerator=false
 kind:sc.kind=.function
 n5:∀x∈sc.names,x.2≠.cell
 r9:∀x∈ps,CM x=true/\sc.names.lookup x=some .local
 nd:ps.Nodup
 uz:∀(qual:Str)(bi:List (Str×Addr))(pm cd ct:Value)(vals:List Value),vals.length=ps.length->bindArgs (RT "<lambda>" qual params body sc bi pm cd ct) ⟨vals,[]⟩=pure (ps.zip vals)
variable {c:Nat}{t:Expr}{g:Array GenState} in
inductive iD (h:Heap)(f:Addr)(body:Expr)(sc:Scope)(ps:List Str)(bi:List (Str×Addr)):Prop
 |mk (qual:Str) (params0:Arguments) (pm cd ct:Value) (g:h.get? f=some (WT qual params0 body sc bi pm cd ct)) (c:Cd h cd qual) (t:Yg params0 body sc ps)
structure NC (W:Bl)(h:Heap)(X:List Addr)(f:Addr)(body:Expr)(sc:Scope)(ps:List Str)(bi:List (Str×Addr))(φ:AM):Prop where
 obj:iD h f body sc ps bi
 qs:∀x sl,φ.lookup x=some sl->sc.names.lookup x=some .free/\CM x=true/\(∀d,sl≠.own d)
 free:∀x,sc.names.lookup x=some .free->∃c ov,bi.lookup x=some c/\h.IsCell c ov/\∀sl,φ.lookup x=some sl->∃v,ov=some v/\Bj W (bi.map (·.2)++X) (bi.map (·.2)++X) h v sl
 inj:∀x y c,bi.lookup x=some c->bi.lookup y=some c->x=y
 alive:∀a∈bi.map (·.2),W.h0.get? a=none/\∃o,h.get? a=some o
theorem NC.ac (L:NC W h X f g V l j m)(s:A9 W h H):NC W H X f g V l j m where
 obj:=by obtain⟨w,k,O,Q,Z,e,r,t⟩:=L.obj;exact⟨w,k,O,Q,Z,s.keep e (by simp) (by simp),r.at_ λ b o e hc=>s.keep e (by rw[hc];simp) (by rw[hc];simp),t⟩
 qs:=L.qs
 free:=λ x n=>by obtain⟨c,p,e,i,r⟩:=L.free x n;exact⟨c,p,e,EM s i,λ C E=>by obtain⟨v,q,A⟩:=r C E;exact⟨v,q,by
  cases C with
  |ao u=>exact A
  |nn u d=>exact⟨A.1,Rp.ac s A.2⟩
  |aa d=>exact Rp.ac s A
  |own d=>exact absurd rfl ((L.qs _ _ E).2.2 d)⟩⟩
 inj:=L.inj
 alive:=λ a N=>⟨(L.alive a N).1,Bc s (L.alive a N).2⟩
theorem Qq {i:List Str}(x:Dt W C k mg mb){a:List (Str×Addr)}(L:NC W s.heap X f c V i a j)(w:W.h0.NoLimit)(t:Cc (k+1) A)(G:Gd W s)(y:∀b∈X,W.h0.get? b=none/\∃o,s.heap.get? b=some o){args:List CB}
 (r:JW W (a.map (·.2)++X) s.heap g args) (z:args.length=i.length) (D:CE C V (i.zip args++j) c d):
 CC W A (call (.ref f) g) s (λ v I=>Rp W (a.map (·.2)++X) I v d):=λ Q E J=>by
 obtain⟨H,m,M,R,U,Y,hr,T⟩:=L.obj;refine FL (aM (k:=k) (⟨⟨_,Y,rfl⟩,hr.ol,T.uz H a M R U,T.co,T.be,T.kind,rfl,rfl,T.n5,T.r9,T.nd,L.qs,L.free,L.inj,L.alive⟩) rfl w t G y r z λ u p B N S=>?_);refine D ⟨W,_,_,_,_,_,mg,mb,x,t.down _⟩ _ S.F (S.gd B) _ _ λ v O h Z l rv=>?_;refine J v O h (S.le.trans Z) (Aa N l) ?_;refine Rp.be (λ b o e n _=>⟨e,λ q=>n ?_⟩) rv;rcases Ao.mp q with q |q
 ·exact AO _ (Ad _ q)
 ·exact At _ q
variable {a:Addr} in
noncomputable def VA:Value->Option Str
 | .str a _=>some a
 |_=>none
theorem NX (h:VA v=some a):∃t,v=.str a t:=by
 cases v with
 |str b t=>cases h;exact⟨t,rfl⟩
 |_=>contradiction
noncomputable def XX (h:List Str)(g:Str->Str->Int)(u v:Value):Option Int:=(VA u).bind λ a=>(VA v).bind λ b=>if a∈h/\b∈h then some (g a b) else none
theorem Sm {g:Str->Str->Int}(h:XX c g u v=some i):∃a k b o,u=.str a k/\v=.str b o/\a∈c/\b∈c/\g a b=i:=by
 refine C6 λ H s=>?_;obtain⟨a,w,h⟩:=Aq.mp h;obtain⟨b,A,h⟩:=Aq.mp h;obtain⟨k,C⟩:=NX w;obtain⟨o,E⟩:=NX A;obtain⟨q,e⟩:=IE h;refine s ?_;exact⟨a,k,b,o,C,E,q.1,q.2,e⟩
theorem ZE {f:Addr}{e:List Str}{j:AM}(l:Dt W C k mg mb){c:Expr}{d:List (Str×Addr)}(L:NC W h [] f c V e d j)(m:e.length=2)(o:W.h0.NoLimit){N:List Str}{g:Str->Str->Int}
 (hN:∀a∈N,PyData.strOk a=true/\a.length<=Bf) (n:∀a∈N,∀b∈N,CE C V (e.zip [.aa (.str a),.aa (.str b)]++j) c (.int (g a b))):LM W (k+1) h f (XX N g):=by
 refine⟨?_,λ A s u v i p H G t=>?_⟩
 ·obtain⟨Q,w,D,I,J,x,Z,T⟩:=L.obj;exact⟨_,λ y H=>⟨_,H.keep x (by simp) (by simp),rfl⟩⟩
 ·obtain⟨a,z,b,B,rfl,rfl,E,O,rfl⟩:=Sm t;exact(Qq l (L.ac H) o p G (λ b q=>(by contradiction)) (.aa (.str a z (hN a E).1 (hN a E).2) (.aa (.str b B (hN b O).1 (hN b O).2) .nil)) m.symm (n a E b O)).ac λ r y _ Z=>Z.ah
end
noncomputable def Fm (h:Heap):Option Addr->Heap
 |none=>h
 |some B=>E2 h B
theorem Hg (k:∀B,ob=some B->b≠B):(Fm h ob).get? b=h.get? b:=by
 cases ob with
 |none=>rfl
 |some B=>exact Es (k B rfl)
theorem MH (k:A9 W a h)(s:∀B,ob=some B->a.get? B=none)(w:∀B,ob=some B->∀o H,h.get? B=some o->o.data≠.fields H):A9 W a (Fm h ob):=by
 cases ob with
 |none=>exact k
 |some B=>
  refine⟨λ b o e=>?_,λ t=>Ke (k.2 t) (w B rfl)⟩;have q:b≠B:=λ q=>by rw[q,s B rfl] at e;contradiction
  rw[show(Fm h (some B)).get? b=h.get? b from Es q];exact k.1 b o e
variable {v:Value}{i:Nat} in
structure NB (W:Bl)(k:Nat)(ob:Option Addr)(X:List Addr)(f:Value)(xs:List PV)(hb:Heap)(J:Nat->Value->Heap->Prop):Prop where
 od:∀i v h h',(∀b o,h.get? b=some o->Dy o->h'.get? b=some o)->J i v h->J i v h'
 uy:∀i v h,J i v h->∀B,ob=some B->∀o vs,h.get? B=some o->o.data≠.fields vs
 fn:∃fa fd,f=.ref fa/\∀h,A9 W hb h->∃o,h.get? fa=some o/\o.data=.func fd
 step:∀A s i v e x l,Cc k A->A.frames=some l->AQ W s.heap l->Gd W s->A9 W hb s.heap->xs[i]? =some x->J i v s.heap->Rp W X s.heap e x->∀(Q:B3)(E:B3),
  (∀v' h' tk,A9 W (Fm s.heap ob) h'->s.toks<=tk->J (i+1) v' h'->Q v' {s with heap:=h',toks:=tk})->wpAny W.M A (call f [v,e]) Q E s
variable {j:Nat}{st:Stmt} in
structure Yf (W:Bl)(hb:Heap)(env:Env)(f:Value)(J:Nat->Value->Heap->Prop)(St:Nat->Heap->Prop)(i:Nat)(v:Value)(h:Heap):Prop where
 st:St i h
 ns:∃m,h.Ns env.locals m/\m "function"=some f/\m "value"=some v
 fc:CZ env h
 le:A9 W hb h
 j:J i v h
section
variable {A:Around}{E:B3}{z:Env}
theorem MY (A:CZ z h)(w:h.get? L=some o)(k:Dy o):L≠z.locals:=λ q=>by
 obtain⟨E,H,N,s,hc,_⟩:=A;simp only[q,s] at w;cases w;unfold Dy at k;replace k:=(hc)▸k;contradiction
variable {v:Value}{i n tk:Nat}{l:List Env} in
inductive qL (W:Bl)(hb:Heap)(env:Env)(f:Value)(J:Nat->Value->Heap->Prop)(St:Nat->Heap->Prop)(m:Nat)(s:Shared):Nat->Shared->Prop
 |mk {n:Nat} {H:Heap} {tk:Nat} {v:Value} {i:Nat} (hi:i<=m) (hn:n=m-i) (x:Yf W hb env f J St i v H) (l:s.toks<=tk):qL W hb env f J St m s n {s with heap:=H,toks:=tk}
theorem Wa {R:Result->Shared->Prop}{a:List PV}{u g y p t C:Pos}{outer:List Env}{ob:Option Addr}{f:Value}{J:Nat->Value->Heap->Prop}{St:Nat->Heap->Prop}{I:Addr}(S:NB W k ob X f a N J)(D:ND W A X I a St)(hA:Cc k A)(a2:z.scope.kind=.function)(k1:z.kindOf "function"=some .local)(k2:z.kindOf "value"=some .local)(k3:z.kindOf "element"=some .local)
 (hI:I≠z.locals) (f4:I∈X) (d9:N.get? I=none) (c4:N.get? z.locals=none) (hL:z.locals∈X) (b3:A9 W W.h0 N) (c5:W.ox N) (e0:1<=s.toks) (a7:∀B,ob=some B->B∈X/\N.get? B=none/\B≠I/\B≠z.locals) (e1:A.frames=some (z::outer)) (c6:z.frame=some z.locals) (e3:W.h0.get? z.locals=none) (c7:AQ W N outer)
 {d:Pos} {v0:Value} (hv:Yf W N z f J St 0 v0 s.heap)
 (hR:∀h' tk v,Yf W N z f J (λ _ _=>True) a.length v h'->s.toks<=tk->R (.ok .next) {s with heap:=h',toks:=tk}):
 codeAny W.M A (.forLoop (.Name "element" u) (.ref I) [.Assign [.Name "value" g] (.Call (.Name "function" y) [.Name "value" p,.Name "element" t] [] C) d] [] z) R s:=by
 have hp:(z.scope.kind== .class||(z.scope.kind== .module&&z.locals !=z.globals))=false:=by rw[a2];rfl
 refine HK (qL W N z f J St a.length s) (λ n s' e4=>Jb λ Q' E' gQ gE=>?_) a.length (.mk (AP _) rfl hv (Ah _));induction e4 with |@mk h' tk v i hi hn x l=>
 obtain⟨oI,c8,e5,e6,f5,e7⟩:=D.mu _ _ x.st;have ext:∀{j:Nat}{h:Heap},Heap.ExtBut I h' h->A9 W N h/\CZ z h/\J i v h/\(∃m,h.Ns z.locals m/\m "function"=some f/\m "value"=some v):=λ{j h} O=>by
  refine⟨x.le.ext d9 (λ o vs Z hd=>by obtain rfl:=AF c8 Z;exact⟨e5,e6⟩) O,x.fc.at λ o Z=>O _ o (Ne.symm hI) Z,S.od i v h' h (λ b o e hd=>O b o (λ q=>?_) e) x.j,?_⟩
  ·cases q;obtain rfl:=AF c8 e;exact e7 hd
  ·obtain⟨m,⟨o,es,ep,Z,r⟩,hm⟩:=x.ns;exact⟨m,⟨o,es,ep,O _ _ (Ne.symm hI) Z,r⟩,hm⟩
 by_cases a8:i<a.length
 ·have hx:a[i]? =some a[i]:=AW a8;refine BG (n:=tk) (Ah _) (D.item i {s with heap:=h',toks:=tk} _ _ a[i] x.st hx λ e h w rv T O a1=>gQ _ _ ?_);clear gQ gE Q' E';refine Jb λ Q' E' gQ gE=>?_;have U:tk<=w:=a1;obtain⟨b4,Y,c9,m,hm,m1,m2⟩:=ext (j:=0) O;refine D.ou (i+1) {s with heap:=h,toks:=w} _ _ _ e T (gQ _ _ ?_);clear gQ gE Q' E';refine Jb λ Q' E' gQ gE=>?_;refine Gi (B9 (s:={s with heap:=h,toks:=w}) k3 hm (λ E G Q b5=>gQ _ _ ?_) hp);clear gQ gE Q' E';refine Jb λ Q' E' gQ gE=>?_;have d8:=D.mu _ _ T;have a3:St (i+1) E:=D.frame _ _ _ T (λ o Z=>(Q.2 I hI).trans Z) λ b o a4 Z _=>(Q.2 b λ q=>a4 (q▸hL)).trans Z;have a5:=Y.bj b5;have H:A9 W N E:=b4.bb c4 (λ o vs e' q=>by obtain⟨o',es,ep,b6,e8,b7⟩:=Y;have e2:h.get? z.locals=some o:=e';obtain rfl:=AF b6 e2;cases Eq.trans (Eq.symm b7) q) Q;have a9:J i v E:=S.od i v h E (λ b o e' hd=>(Q.2 b (MY Y e' hd)).trans e') c9;have b8:Rp W X E e a[i]:=Rp.be (λ b o e' n hd=>⟨(Q.2 b (λ q=>n (q▸hL))).trans e',n⟩) rv;refine C6 λ gg kk=>?_;obtain⟨fa,fd,rfl,e9⟩:=S.fn;obtain⟨of,f0,f1⟩:=e9 E H;refine kk ?_;refine Aj (BA (t:=.Name "value" g) rfl rfl rfl (Bu (KC (DQ a2 k1 G (by exact m1) ?_))));refine B2 (es:=[.Name "value" p,.Name "element" t]) rfl ?_;refine B5 (o:=of) (fd:=fd) (AV (Ap (KC (DQ a2 k2 G (by exact m2) ?_))));refine Ap (KC (DQ a2 k3 G (by exact(if_pos rfl)) (AR ⟨⟨f0,f1⟩,?_⟩)));have d0:Gd W {s with heap:=E,toks:=w+1}:=⟨b3.trans H,H.2 c5,Bp (Aa e0 (Aa l U))⟩;refine S.step A {s with heap:=E,toks:=w+1} i v e a[i] _ hA e1 ⟨by rw[a2];decide,c6,e3,a5,c7.bd H⟩ d0 H hx a9 b8 _ _ λ v' V a6 M b0 d5=>?_;have f2:w+1<=a6:=b0;have b9:A9 W N V:=(MH H (λ B q=>(a7 B q).2.1) (S.uy i v E a9)).trans M;have b1:∀B,ob=some B->z.locals≠B:=λ B q=>(a7 B q).2.2.2.symm;obtain⟨oJ,d6,d1,d2,d3,d4⟩:=D.mu _ _ a3;have c0:St (i+1) V:=D.frame _ _ _ a3 (λ o Z=>by obtain rfl:=AF d6 Z;exact M.keep (by rw[Hg (λ B q=>(a7 B q).2.2.1.symm)];exact d6) d3 d1) λ b o a4 Z hd=>by
   have nB:∀B,ob=some B->b≠B:=λ B q q'=>a4 (by rw[q'];exact(a7 B q).1);exact CG M ((Hg nB).trans Z) hd
  have a0:CZ z V:=by
   obtain⟨o,es,ep,Z,c,r⟩:=a5;exact CZ.bd (h:=Fm E ob) ⟨o,es,ep,by refine Eq.trans (Hg b1) ?_;exact Z,c,r⟩ M
  have c1:V.Ns z.locals (λ x=>if x="element" then some e else m x):=by
   obtain⟨o,es,ep,Z,r⟩:=G;exact Co M ⟨o,es,ep,by refine Eq.trans (Hg b1) ?_;exact Z,r⟩
  refine Gi (B9 (s:={s with heap:=V,toks:=a6}) k2 c1 (λ b2 c2 L c3=>?_) hp);refine Bd ?_;have d7:Yf W N z (.ref fa) J St (i+1) v' b2:=by
   refine⟨?_,⟨_,c2,by exact m1,by exact(if_pos rfl)⟩,a0.bj c3,?_,?_⟩
   ·exact D.frame _ _ _ c0 (λ o Z=>(L.2 I hI).trans Z) λ b o a4 Z _=>(L.2 b λ q=>a4 (q▸hL)).trans Z
   ·exact b9.bb c4 (λ o vs e' q=>by obtain⟨o',es,ep,b6,e8,b7⟩:=a0;have e2:V.get? z.locals=some o:=e';obtain rfl:=AF b6 e2;cases Eq.trans (Eq.symm b7) q) L
   ·exact S.od _ _ V b2 (λ b o e' hd=>(L.2 b (MY a0 e' hd)).trans e') d5
  exact gQ _ _ ⟨n-1,nK hn a8,.mk a8 (eL hn) d7 (Bp (Aa l (Aa a1 (FO b0))))⟩
 ·have f3:i=a.length:=eO hi a8;subst f3;refine BG (n:=tk) (Ah _) (D.done {s with heap:=h',toks:=tk} _ _ x.st λ h w O a1=>?_);have U:tk<=w:=a1;have hq:=ext (j:=0) O;exact gQ _ _ (Bd (hR h w v ⟨trivial,hq.2.2.2,hq.2.1,hq.1,hq.2.2.1⟩ (Aa l U)))
end
section
variable {A:Around}{E:B3}{C:A5}
theorem NB.more {J:Nat->Value->Heap->Prop}(S:NB W k ob X f g N J)(h:∀b∈X,b∈Y):NB W k ob Y f g N J:=
 ⟨S.od,S.uy,S.fn,λ A s i v e x l a o w b c d j r=>S.step A s i v e x l a o w b c d j (r.ag h)⟩
theorem Xa {M:Model}(h:x≠y)(o:s.heap.get? x=some b)(w:s.heap.get? y=some a)(k:a.cls≠.type "tuple")(C:Q (.bool false) s):wpAny M A (compareOp .Is (.ref x) (.ref y)) Q E s:=by
 show wpAny M A (do return .bool (<-isSame (.ref x) (.ref y))) Q E s;exact Ab (SeqAt.wpAny_isSame_ref_other' h o w k (Ag C))
theorem UF (k:wpAny W.M A.in1 (pyIter (.ref a)) (λ v h=>∃b,v=.ref b/\c v h) (λ _ _=>False) s):wpAny W.M A (call (.builtin "iter") [.ref a]) c E s:=by
 refine call_function_entry (by decide+kernel) (by decide+kernel) kdk_entry_iter (kdk_args_iter _) ?_;unfold Builtin.«iter»;refine Ab (m:=someArgs "iter" 1 2 _) (Dc (a:=[Value.ref a]) (by first |rfl |kernel_rfl!) ?_);refine Ab (C5 k (λ v h o=>?_) λ _ _ x=>x.elim);obtain⟨b,rfl,q⟩:=o;exact Ag ⟨_,rfl,q⟩
end
noncomputable def rM (P:Nat->Pos)(h:List Stmt):Stmt:=.If (.Compare (.Name "initial" (P 5)) [.Is] [.Name "_initial_missing" (P 6)] (P 7)) h [.Assign [.Name "value" (P 8)] (.Name "initial" (P 9)) (P 10)] (P 11)
noncomputable def pY (P:Nat->Pos):Stmt:=.For (.Name "element" (P 16)) (.Name "it" (P 12)) [.Assign [.Name "value" (P 17)] (.Call (.Name "function" (P 18)) [.Name "value" (P 19),.Name "element" (P 20)] [] (P 21)) (P 22)] [] (P 13)
noncomputable def rL (P:Nat->Pos):Stmt:=.Return (some (.Name "value" (P 14))) (P 15)
noncomputable def TE (P:Nat->Pos)(h:List Stmt):List Stmt:=[.Assign [.Name "it" (P 0)] (.Call (.Name "iter" (P 1)) [.Name "sequence" (P 2)] [] (P 3)) (P 4),rM P h,pY P,rL P]
inductive TD (W:Bl)(mg mb:Str->Option Value)(a:Addr):Prop
 |mk (fd:FuncData) (P0:Nat->Pos) (bTry:List Stmt) (fo:EH W a fd ["function","sequence","initial"] (TE P0 bTry))
  (n1:fd.scope.names.lookup ("it":Str)=some .local) (n2:fd.scope.names.lookup ("value":Str)=some .local) (n3:fd.scope.names.lookup ("element":Str)=some .local) (n4:fd.scope.names.lookup ("function":Str)=some .local) (g1:BU fd.scope "iter"=true) (g2:BU fd.scope "_initial_missing"=true)
  (i1:mg "iter"=none) (i2:mb "iter"=some (.builtin "iter")) (mi:Addr) (o:Obj) (m1:mg "_initial_missing"=some (.ref mi)) (m2:W.h0.get? mi=some o) (m3:o.cls≠.type "tuple") (m4:o.cls≠.type "frame") (m5:o.cls≠.none)
section
variable {A:Around}{E:B3}{C:A5}
theorem EY (h:V.names.lookup x=some .local)(k:CM x=true):AI V x=true:=by unfold AI;rw[h];simp[k]
theorem Uq (t:W.ox h)(k:∀B,ob=some B->∀o s,h.get? B=some o->o.data≠.fields s):W.ox (Fm h ob):=by
 cases ob with
 |none=>exact t
 |some B=>exact Ke t (k B rfl)
theorem MG (e:h.get? b=none):(Fm h ob).get? b=none:=by
 cases ob with
 |none=>exact e
 |some B=>exact JM e
theorem WC:A9 W (Fm h ob) h:=by
 cases ob with
 |none=>exact .refl _
 |some B=>exact O6
theorem Qg (k:∀B,ob=some B->∀o,h.get? B=some o->o.cls≠.type "frame")(A:AQ W h l):AQ W (Fm h ob) l:=A.imp λ s C=>by
 obtain⟨o,E,H,w,hc,N⟩:=C;exact⟨o,E,H,(Hg λ B q O=>k B q o (O▸w) hc).trans w,hc,N⟩
theorem eM {c:Env}(F:FI W V c Z X h O)(o:V.names.lookup x=some .local)(s:V.names.lookup y=some .local)(w:O.lookup x=some (.ao u))(A:O.lookup y=some (.ao v)):∃m,h.Ns c.locals m/\m x=some u/\m y=some v:=by
 refine C6 λ e C=>?_;obtain⟨m,E,k⟩:=F.ns;obtain⟨a,H,N⟩:=k x _ o w;obtain⟨b,Q,d⟩:=k y _ s A;refine C ?_;exact⟨m,E,(N)▸H,(d)▸Q⟩
theorem O1 (h:a∉Ay b):¬C3 V b a:=λ q=>h (q.elim (λ q=>q▸Ac) λ⟨_,_,q⟩=>BP q)
theorem Ln {J:Nat->Value->Heap->Prop}(Gk:Dt W C l mg mb)(R:TD W mg mb a)(hA:Cc (k+1) A)(G:Gd W s)(hX:∀b∈X,W.h0.get? b=none/\∃o,s.heap.get? b=some o)(hs:Rp W X s.heap j (.list g))(V:∀B,ob=some B->B∈X/\∀o,s.heap.get? B=some o->(∀vs,o.data≠.fields vs)/\o.cls≠.type "frame")(b9:A.frames=some c)(a1:AQ W s.heap c)
 (ht:W.h0.get? t=none/\∃o,s.heap.get? t=some o) (S:NB W k ob X f g (Fm s.heap ob) J) (hJ:J 0 (.ref t) s.heap)
 (hQ:∀u tk v,A9 W (Fm s.heap ob) u->s.toks<=tk->J g.length v u->Q v {s with heap:=u,toks:=tk}):wpAny W.M A (call (.ref a) [f,j,.ref t]) Q E s:=by
 obtain⟨fd,P,c9,fo,n1,n2,n3,n4,g1,g2,i1,i2,mi,om,c0,a2,c1,c2,c3⟩:=R;refine EB fo hA G hX (args:=[.ao f,.aa (.list g),.ao (.ref t)]) (.ao (.aa hs (.ao .nil))) rfl λ H y Z he B d0 a3 w=>?_;have r:∀x,H.kindOf x=fd.scope.names.lookup x:=λ x=>by rw[he];rfl
 have a4:=hA.down H;have D:A9 W W.h0 (Fm s.heap ob):=MH G.al (λ B q=>(hX B (V B q).1).1) λ B q o vs e=>((V B q).2 o e).1 vs;have a5:W.ox (Fm s.heap ob):=Uq G.oz λ B q o vs e=>((V B q).2 o e).1 vs;have L:AQ W (Fm s.heap ob) c:=Qg (λ B q o e=>((V B q).2 o e).2) a1;have d1:=w.F;refine Aj (BA (t:=.Name "it" (P 0)) rfl rfl rfl (Bu (BK Gk w.F (w.gd B) g1 (.inr ⟨i1,i2⟩) ?_)));refine B2 (es:=[.Name "sequence" (P 2)]) rfl ?_;refine Dn rfl (AV (Ap (w.F.name (x:="sequence") (sl:=.aa (.list g)) ((λ h=>h) (by kernel_rfl)) λ d2 a6=>AR ?_)));obtain⟨la,_,_,e1,_⟩:=a6.ah;subst e1;refine UF (E0 (s:={s with heap:=y,toks:=Z}) (.list a6) λ I z hI d3 hk c4=>⟨I,rfl,?_⟩);have M:I∉Ay H++X:=λ q=>by obtain⟨o,ho⟩:=w.F.am I q;exact BZ hI ho
 refine C6 λ gg kk=>?_;obtain⟨St,c5,T⟩:=ND.of (A:=A.deeper H) (c4 M) Ac a4.handled;refine kk ?_;have a7:A9 W y z:=.ae hk;have a8:XS W fd.scope H s.heap (Ay H++X) (Ay H++X) {s with heap:=z,toks:=Z} _:=w.ac (tk:=Z) a7 (Ah _);refine XS.pg B a8 (x:="it") (sl:=.ao (.ref I)) (EY n1 (by decide+kernel)) rfl (λ d q=>nomatch q) λ a9 c6 O U b0=>?_;obtain⟨ot,c7⟩:=Bc O.le ht.2;have b1:a9.get? mi=some om:=(B.al.trans O.le).keep a2 c2 c3;have c8:t≠mi:=λ q=>by have:=ht.1;simp only[q,a2] at this;contradiction
 refine Aj (J1 (Lg (FI.ao O.F (v:=.ref t) (by kernel_rfl) (BK Gk O.F (O.gd B) g2 (.inl c0) (Xa c8 c7 b1 c1 (CQ ?_)))) (by rfl)));refine Aj (BA (t:=.Name "value" (P 8)) rfl rfl rfl (FI.ao O.F (v:=.ref t) (by kernel_rfl) ?_));refine XS.pg B O (x:="value") (sl:=.ao (.ref t)) (EY n2 (by decide+kernel)) rfl (λ d q=>(by contradiction)) λ p n N Y b2=>Bd ?_;have mv:∀{i:Nat}{h u:Heap},St i h->I5 W (C3 fd.scope H) h u->St i u:=λ{i h u} st P=>T.frame i h u st (λ o e=>P.keep I o (O1 (λ q=>M (AO _ q))) e) λ b o hb e _=>P.keep b o (O1 λ q=>hb (Ad _ (AO _ q))) e;have b3:=mv (mv c5 U) Y;refine Aj ?_;simp only[pY];refine Ab (AL (Ab (FI.ao (s:={s with heap:=p,toks:=n}) N.F (v:=.ref I) (by kernel_rfl) (Ab (Dc (IZ (e:=.Name "it" (P 12)) rfl H _) (Ab (AL (Ab (Bk (T.self 0 {s with heap:=p,toks:=n} _ _ b3 ?_))))))))));refine KA (h:=none) ?_;have b4:s.heap.get? H.locals=none:=B.wr _ (.inl rfl);have b5:s.heap.get? I=none:=by
  exact A9.bf w.le hI
 have b6:I≠H.locals:=λ q=>M (AO _ (q▸Ac));refine Wa (s:={s with heap:=p,toks:=n}) (S.more (Y:=I::(Ay H++X)) λ b hb=>Ad _ (At _ hb)) T a4 N.F.kind (by rw[r];exact n4) (by rw[r];exact n2) (by rw[r];exact n3) b6 Ac (MG b5) (MG b4) (Ad _ (AO _ Ac)) D a5 N.tk (λ B' q=>⟨Ad _ (At _ (V B' q).1),?_,?_,?_⟩) (outer:=c) (by show A.frames.map (H::·)=_;rw[b9];rfl) (by rw[he];rfl) (w.F.alive H.locals (w.F.zx _ (w.F.ba _ Ac))).1 L (⟨b3,eM N.F n4 n2 (by kernel_rfl) (by kernel_rfl),N.fc,WC.trans N.le,S.od _ _ _ _ (λ b o e hd=>CG N.le e hd) hJ⟩:Yf W (Fm s.heap ob) H f J St 0 (.ref t) p) λ b7 a0 v x b8=>?_
 ·subst q;exact Gz
 ·intro q';obtain⟨o,ho⟩:=(hX B' (V B' q).1).2;rw[q',b5] at ho;contradiction
 ·intro q';obtain⟨o,ho⟩:=(hX B' (V B' q).1).2;rw[q',b4] at ho;contradiction
 refine C6 λ gg kk=>?_;obtain⟨m,hn,m1,m2⟩:=x.ns;refine kk ?_;refine Aj (CR (KC (DQ N.F.kind (by rw[r];exact n2) hn m2 ?_)));exact hQ b7 a0 v x.le (Aa a3 (Aa b0 (Aa b2 b8))) x.j
end
section
variable {A:Around}{E:B3}{z:Env}{C:A5}
theorem Bo.aj (K:C9 V z Z X h H)(k:a∈Z)(hw:¬C3 V z a)(r:Bo W X h a d):Bo W X H a d:=
 r.map (λ o e c=>K _ _ (.inr ⟨k,hw,by rcases c with c |c |c<;>rw[c]<;>nofun,by rcases c with c |c |c<;>rw[c]<;>nofun⟩) e) λ _ _ r=>r.be λ b o e n s=>⟨K b o (.inl ⟨n,s⟩) e,n⟩
structure Vl (W:Bl)(A:Around)(env:Env)(hb:Heap)(outer:List Env):Prop where
 fr:A.frames=some (env::outer)
 kind:env.scope.kind≠.module
 at_:env.frame=some env.locals
 out:AQ W hb outer
 hh:A.handled=none
theorem Vl.stack (h:Vl W A z N a)(S:XS W V z N Z X s O):AQ W s.heap (z::a):=
 ⟨h.kind,h.at_,(S.F.alive z.locals (S.F.zx _ (S.F.ba _ Ac))).1,S.fc,h.out.bd S.le⟩
theorem Qz {Cl D:Addr}{m:List Value}{c:List Stmt}{p j r u v y G l:Pos}{i:List (Str×PV)}{b:List Env}(Gk:Dt W C k mg mb)(B:XB W V z N)(b5:Vl W A z N b)(hu:A.units+2<cLine)(I:HS W V z N Z X D i (z::b) s O){x:Str}(xo:El W mg x Cl m){f:Str}
 (R:Rz W A (execs c z) s (z::b) Cl f) (b0:BU V x=true) (b1:BU V "str"=true) {n wds:Str} (hn:V.names.lookup n=some .local) (Y:CM n=true) (hw:AI V wds=true) (b6:n≠wds) {g:Flow->Shared->Prop}
 (hQ:∀h' tk e,HS W V z N Z X D i (z::b) {s with heap:=h',toks:=tk} (Kq (AN (AN O n (.ao (.ref e))) wds (.aa (.str f))) n)->C9 V z Z X s.heap h'->s.toks<=tk->g .next {s with heap:=h',toks:=tk}):
 wpAny W.M A (exec (.Try c [.ExceptHandler (some (.Name x p)) (some n) [.Assign [.Name wds j] (.Call (.Name "str" r) [.Name n u] [] v) y] G] [] [] l) z) g E s:=by
 refine GN (R _ _ λ a0 o e t w o1 z1 F St=>OH (s:={s with heap:=a0,toks:=o}) (by simp) b5.fr St F λ a1 a2 J=>?_);refine HE (s:={s with heap:=a1,toks:=o}) Gk B xo xo (b:=true) (by simp) (tk0:=s.toks) I.S w a2 J b0 (n:=n) (by unfold AI;rw[hn,Y];rfl) (λ _ H L h M a3 b2 a4=>?_) λ q=>(Bool.noConfusion q);refine Aj (BA (t:=.Name wds j) rfl rfl rfl (Kl (A:=A.mark (some (.ref e))) (s:={s with heap:=H,toks:=L}) Gk h.F (h.gd B) (n:=n) (by rw[Ba,if_pos rfl]) b1 xo (hu) a3 ?_));refine XS.pg B h (x:=wds) (sl:=.aa (.str f)) hw (.str f t o1 z1) (λ d q=>(by contradiction)) λ a5 b3 a6 S a7=>Bd ?_;refine XS.qp B a6 hn Y λ a8 T Q U a9=>?_;have b4:C9 V z Z X H a5:=S.aj λ a ha=>h.F.bq ha;have kd:=(M.trans b4).trans U;exact hQ a8 T e ⟨Q,I.dD.aj kd I.zD I.pa,b5.stack Q,I.zD,I.fD,I.bD⟩ kd (Aa w (Aa a4 (Aa a7 a9)))
end
section
variable {A:Around}{E:B3}{z:Env}{C:A5}
noncomputable def LK (k:Bl)(w:Heap)(X:List Addr)(D:Addr)(z:List (Str×PV))(A C:PV)(o:Shared)(E:B3):Prop:=
 ∀h s t n v2 v3,A9 k w h->o.toks<=s->h.get? t=some (Jk #[.ref D,v2,v3] n)->Rp k X h v2 A->Rp k X h v3 C->Bo k X h D (.dict z)->t∉X->E (.ref t) {o with heap:=h,toks:=s}
theorem LK.aq (x:LK W N X D j m i s Q)(l:s.toks<=tk):LK W N X D j m i {s with heap:=H,toks:=tk} Q:=
 λ H h t n v2 v3 a b c d e f g=>x H h t n v2 v3 a (Aa l b) c d e f g
theorem MX (F:FI W V z Z X h O)(k:h.get? t=none):t∉X:=λ q=>by
 obtain⟨o,s⟩:=F.am t q;exact BZ k s
theorem Oq (w:HS W V z N Z X D g l s O)(C:O.lookup c=some (.ao (.ref D)))(H:B1 e=true)(Q:B1 b=true)(q:CC W A (eval e z) s (λ v o=>Rp W X o v i))
 (r:∀k h,A9 W s.heap k->s.toks<=h->CC W A (eval b z) {s with heap:=k,toks:=h} (λ v o=>Rp W X o v d)) {f:Flow->Shared->Prop} (u:LK W N X D g i d s λ v x=>f (.ret v) x):
 wpAny W.M A (exec (.Return (some (.Tuple [.Name c m,e,b] p j)) a) z) f E s:=
 CR (PH w.S.F C H Q q r λ o y t n v2 v3 K B G I J L=>u o y t n v2 v3 (w.S.le.trans K) B I J L (w.dD.ac K) (MX w.S.F G))
theorem Nj {m:List PV}{R:Nat}{G I J L M S y:Pos}{p:PV}{r:List (Str×PV)}{j:List Env}{l:Str}{D:Addr}(B:XB W V z N)(b0:HS W V z N Z X D r (z::j) s O){e:Addr}{n g i:Str}{d:Heap}{c:Nat}(k:XS W V z N Z X {s with heap:=d,toks:=c} (AN O n (.ao (.ref e))))(U:C9 V z Z X s.heap d)(a3:s.toks<=c)
 (hn:V.names.lookup n=some .local) (b1:CM n=true) {u:Str} (b2:O.lookup g=some (.ao (.ref D))) (b3:O.lookup i=some (.aa p)) (b4:O.lookup l=some (.aa (.list m))) (Y:g≠n/\i≠n/\l≠n) (hz:m.length+1<=Bf)
 {a:Expr} (b5:B1 a=true) (he:∀h tk,A9 W d h->c<=tk->CC W (A.mark (some (.ref e))) (eval a z) {s with heap:=h,toks:=tk} (λ v h'=>Rp W X h' v (.str u))) {x:Pos} {q:Flow->Shared->Prop}
 (hQ:LK W N X D r p (.list (m++[.str u])) s λ v s'=>q (.ret v) s'):
 wpAny W.M (A.mark (some (.ref e))) (execs [.Return (some (.Tuple [.Name g G,.Name i I,.BinOp (.Name l J) .Add (.List [a] L) M] R S)) x] z) (λ f a4=>wpAny W.M A (do bindName z n .none;unbindBehindTheSuite z n y) (λ _ a5=>q f a5) E a4) (λ _ _=>False) {s with heap:=d,toks:=c}:=by
 have y1:(AN O n (.ao (.ref e))).lookup g=some (.ao (.ref D)):=by rw[Ba,if_neg Y.1];exact b2
 have y2:(AN O n (.ao (.ref e))).lookup i=some (.aa p):=by rw[Ba,if_neg Y.2.1];exact b3
 have y3:(AN O n (.ao (.ref e))).lookup l=some (.aa (.list m)):=by rw[Ba,if_neg Y.2.2];exact b4
 refine Aj (CR (PH k.F y1 rfl rfl (IU k.F y2) (λ H C Q a0=>QT (s:={s with heap:=H,toks:=C}) (k.F.ac Q) y3 b5 (he H C Q a0) hz) λ a6 a1 t n' v2 v3 K lt fr ht r2 r3=>?_));refine XS.qp B (k.ac (tk:=a1) K lt) hn b1 λ T a2 a7 w a8=>?_;have tX:t∉X:=MX k.F fr;have a9:∀b o,a6.get? b=some o->b∉X->(o.cls=.type "list"\/o.cls=.type "tuple"\/o.cls=.type "dict")->T.get? b=some o/\b∉X:=λ b o e nx hd=>⟨w b o (.inl ⟨nx,hd⟩) e,nx⟩;refine hQ T a2 t n' v2 v3 a7.le (Aa a3 (Aa lt a8)) (w t _ (.inl ⟨tX,.inr (.inl rfl)⟩) ht) (Rp.be a9 r2) (Rp.be a9 r3) (b0.dD.aj ((U.trans (A9.aj K)).trans w) b0.zD b0.pa) tX
end
section
variable {A:Around}{E:B3}{z:Env}{C:A5}
theorem VN {Cl:Addr}{c:List Value}{f d:Pos}(h:Dt W C k mg mb)(F:FI W V z Z X s.heap O)(G:Gd W s){n x:Str}{b:Pos}{e:Addr}{a:Str}{t:Tok}(o:O.lookup n=some (.ao (.ref e)))(w:BU V "str"=true)(H:El W mg x Cl c)(N:A.units+2<cLine)
 (I:F4 s.heap e (.ref Cl) (.str a t)) (g:PyData.strOk a=true) (z1:a.length<=Bf):CC W A (eval (.Call (.Name "str" d) [.Name n b] [] f) z) s (λ v i=>Rp W X i v (.str a)):=λ Q E j=>
 Kl h F G o w H N I (j _ s.heap s.toks (.refl _) (Ah _) (.str a t g z1))
theorem Wj (F:FI W V z Z X s.heap O)(hc:PyData.strOk c=true/\c.length<=Bf)(m:∀l,s.toks<=l->CC W A (eval e z) {s with toks:=l} (λ v i=>Rp W X i v (.str a)))(n:FE .Add (.str c) (.str a)=some (.str u)):
 CC W A (eval (.BinOp (.Constant (.str c) b d) .Add e f) z) s (λ v i=>Rp W X i v (.str u)):=λ Q E p=>by
 refine Ja (FM (m _ (A8 _) _ _ λ v w k h C q=>?_));exact JU (s:={s with heap:=w,toks:=k}) (F.ac h).am (.str c s.toks hc.1 hc.2) q n _ _ λ v3 H o N g j=>p v3 H o (h.trans N) (Aa (Aa (A8 _) C) g) j
theorem MT {Cl D:Addr}{L:List PV}{J:List Value}{g:List Stmt}{p1 p2 p3 p4 p5 p6 a0 q1 q2 q3 q4 q6 q7 q8:Pos}{T:PV}{S:List (Str×PV)}{d:List Env}{y:Str}(Gk:Dt W C k mg mb)(B:XB W V z N)(c7:Vl W A z N d)(hu:A.units+2<cLine)(b8:HS W V z N Z X D S (z::d) s O){x l m:Str}{C1 G:Addr}{p r:List Value}(xo:El W mg x Cl J)(b9:El W mg l C1 p)(c0:El W mg m G r)
 {b1:Bool} (c1:(Value.ref Cl::J).contains (.ref C1)=b1) (c2:b1=false->(Value.ref Cl::J).contains (.ref G)=true) {f u:Str} (R:Rz W A (execs g z) s (z::d) Cl f) (c3:BU V l=true) (c4:BU V m=true) (c5:BU V "str"=true)
 (hw:if b1=true then FE .Add (.str "no ") (.str f)=some (.str u) else u=f) {n i j:Str} (hn:V.names.lookup n=some .local) (a9:CM n=true) (b2:O.lookup i=some (.ao (.ref D))) (b3:O.lookup j=some (.aa T)) (b4:O.lookup y=some (.aa (.list L))) (b5:i≠n/\j≠n/\y≠n) (hz:L.length+1<=Bf)
 {U Y p9 q5 q9 r1 r2 r3 r4 r5 r6 r7 r8:Pos} {k1 k2 k3:Nat} {M:Flow->Shared->Prop} (hQ:LK W N X D S T (.list (L++[.str u])) s λ v s'=>M (.ret v) s'):
 wpAny W.M A (exec (.Try g [.ExceptHandler (some (.Name l r1)) (some n) [.Return (some (.Tuple [.Name i p1,.Name j p2,.BinOp (.Name y p3) .Add (.List [.BinOp (.Constant (.str "no ") k3 r2) .Add (.Call (.Name "str" r3) [.Name n r4] [] r5) r6] p4) p5] k1 p6)) U] Y,
  .ExceptHandler (some (.Name m r7)) (some n) [.Return (some (.Tuple [.Name i q1,.Name j q2,.BinOp (.Name y q3) .Add (.List [.Call (.Name "str" q8) [.Name n q9] [] p9] q4) q5] k2 q6)) q7] r8] [] [] a0) z) M E s:=by
 have b6:AI V n=true:=by unfold AI;rw[hn,a9];rfl
 refine GN (R _ _ λ b7 Q e t a2 o1 z1 F St=>OH (s:={s with heap:=b7,toks:=Q}) (by simp) c7.fr St F λ a6 a7 a3=>?_);have a8:∀{w:Heap}{H:Nat},XS W V z N Z X {s with heap:=w,toks:=H} (AN O n (.ao (.ref e)))->F4 w e (.ref Cl) (.str f t)->∀h tk,1<=tk->A9 W w h->∀{a b c:Pos},CC W (A.mark (some (.ref e))) (eval (.Call (.Name "str" a) [.Name n b] [] c) z) {s with heap:=h,toks:=tk} (λ v h'=>Rp W X h' v (.str f)):=
  λ{w H} o I h tk ht K{a b c}=>VN (s:={s with heap:=h,toks:=tk}) Gk (o.F.ac K) ⟨(o.gd B).al.trans K,K.2 (o.gd B).oz,ht⟩ (by rw[Ba,if_pos rfl]) c5 xo (hu) (I.bd (by simp) K) o1 z1
 refine HE (s:={s with heap:=a6,toks:=Q}) Gk B xo b9 (b:=b1) c1 (tk0:=s.toks) b8.S a2 a7 a3 c3 (n:=n) b6 (λ q w H o a1 a4 b0 a5=>?_) λ q=>?_
 ·subst q;refine Nj (s:=s) B b8 o a1 (Aa a2 a5) hn a9 b2 b3 b4 b5 hz rfl (λ h tk K lt=>Wj (s:={s with heap:=h,toks:=tk}) (o.F.ac K) ⟨by decide+kernel,by decide+kernel⟩ (λ c6 lt'=>a8 o a4 h c6 (Aa o.tk (Aa lt lt')) K) hw) hQ
 ·subst q;cases hw;refine HE (s:={s with heap:=a6,toks:=Q}) Gk B xo c0 (b:=true) (c2 rfl) (tk0:=s.toks) b8.S a2 a7 a3 c4 (n:=n) b6 (λ q w H o a1 a4 b0 a5=>?_) λ q=>(Bool.noConfusion q);exact Nj (s:=s) B b8 o a1 (Aa a2 a5) hn a9 b2 b3 b4 b5 hz rfl (λ h tk K lt=>a8 o a4 h tk (Aa o.tk lt) K) hQ
end
section
variable {A:Around}{E:B3}{z:Env}{C:A5}
theorem FI.sameBut (F:FI W V z Z X h O)(k:Heap.SameBut D h H)(A:D∈X)(C:D∉Ay z)(s:∀y d,O.lookup y≠some (.own d))(w:∃o,H.get? D=some o):FI W V z Z X H O:=
 F.same F.ba F.zx (λ _ n=>n.sameBut k λ q=>C (q▸Ac)) (λ _ _ _ e i=>i.sameBut k λ q=>C (q▸BP e)) (λ y _ N Q r=>by
   cases N with
   |aa e=>exact Rp.bb k A r
   |ao u=>exact r
   |nn u d=>exact⟨r.1,Rp.bb k A r.2⟩
   |own e=>exact absurd Q (s y e)) λ b E=>⟨(F.alive b E).1,Ep k w (F.alive b E).2⟩
theorem QC (L:Dt W C k mg mb)(M:Cc k A)(B:XB W V z N)(y:HS W V z N Z X D g l s O)(R:CE C V O (.Call (.Name f i) args [] j) d)(S:AI V a=true){e:Flow->Shared->Prop}
 (T:∀I G,HS W V z N Z X D g l {s with heap:=I,toks:=G} (AN O a (.aa d))->s.toks<=G->e .next {s with heap:=I,toks:=G}):
 wpAny W.M A (exec (.Try [.Assign [.Name a m] (.Call (.Name f i) args [] j) p] (b::c) [] [] n) z) e E s:=by
 refine GN (Aj (BA (t:=.Name a m) rfl rfl rfl (R.at L M y.S.F (y.S.gd B) _ _ λ v J w r h U=>?_)));have o:=y.ac (tk:=w) r h;refine XS.pg B o.S (x:=a) (sl:=.aa d) S U (λ d q=>nomatch q) λ t H u Q x=>Bd (Bd ?_);exact T t H (o.bg u Q) (Aa h x)
theorem QA {c:List (Str×PV)}(Gk:Dt W C k mg mb)(hA:Cc k A)(B:XB W V z N)(p:HS W V z N Z X D c (z::b) s O)(a4:Vl W A z N b)(h1:O.lookup e=some (.aa d))(h2:O.lookup f=some (.ao (.ref D)))(hi:CE C V O i (.str a))
 (T:∀y d,O.lookup y≠some (.own d)) (hz:c.length+1<=Bf) {g:Flow->Shared->Prop} (hQ:∀h' Y,HS W V z N Z X D (D8 c a d) (z::b) {s with heap:=h',toks:=Y} O->s.toks<=Y->g .next {s with heap:=h',toks:=Y}):
 wpAny W.M A (exec (.Assign [.Subscript (.Name f l) i m] (.Name e n) j) z) g E s:=by
 refine wpAny_Assign_Subscript (IU p.S.F h1 _ _ λ v G w U I rv=>?_) (by rfl);have Q:=p.ac (tk:=w) U I;refine FI.ao (s:={s with heap:=G,toks:=w}) Q.S.F h2 ?_;refine hi.at (s:={s with heap:=G,toks:=w}) Gk hA Q.S.F (Q.S.gd B) _ _ λ kv a3 H J L rk=>?_;have h:=Q.ac (tk:=H) J L;have R:=rv.ac J;obtain⟨t,rfl,o1,z1⟩:=rk.ah;obtain⟨S,e1,y,a5,q,rl⟩:=h.dD;have a0:S.length=c.length:=by simpa using congrArg List.length q
 have a1:=DX;refine wpAny_setItem_pairs (knd:=W.K) (k:=a) (by exact beq_self_eq_true _) e1 (λ r hm x=>?_) (Aa (AG a0) (Aa (FO hz) a1));obtain⟨r1,r2⟩:=KM (k:=a) q rl R;have a2:(stored S a v).length=(D8 c a d).length:=by simpa using congrArg List.length r1
 have hX:D∈X:=p.S.F.zx _ p.zD;have u:Bo W X r D (.dict (D8 c a d)):=⟨_,hm,y,Aa (a2▸(Fu c a d)) hz,r1,r2.bb x hX⟩;have M:XS W V z N Z X {s with heap:=r,toks:=H+1} O:=
  ⟨h.S.F.sameBut x hX p.fD T u.alive,h.S.le.bb p.bD (G3 (W:=W) (X:=X) (d:=.dict c) ⟨S,e1,y,a5,q,rl⟩) x,Bp h.S.tk,p.S.fr,h.S.fc.at λ o ho=>(x.2 _ (λ q=>p.fD (q▸Ac))).trans ho⟩
 exact hQ r (H+1) ⟨M,u,a4.stack M,p.zD,p.fD,p.bD⟩ (Aa I (Bp L))
end
noncomputable def qD (k:Str)(h:Expr)(P:Nat->Pos)(K:Nat->Nat):Stmt:=.Try [.Return (some (.Tuple [.Name "book" (P 6),.BinOp (.Name "heard" (P 7)) .Add (.List [h] (P 8)) (P 9),.Name k (P 10)] (K 1) (P 11))) (P 12)] [.ExceptHandler (some (.Name "error_reply" (P 13))) (some "error") [.Assign [.Name "words" (P 14)] (.Call (.Name "str" (P 15)) [.Name "error" (P 16)] [] (P 17)) (P 18)] (P 19)] [] [] (P 20)
noncomputable def rX (h:Str)(P:Nat->Pos)(K:Nat->Nat):Stmt:=.Try [.Assign [.Name "found" (P 21)] (.Call (.Name "parse229" (P 22)) [.Name "words" (P 23),.Tuple [.Constant (.str "peer") (K 2) (P 24),.Constant (.int 21) (K 3) (P 25)] (K 4) (P 26)] [] (P 27)) (P 28)] [.ExceptHandler (some (.Name "error_reply" (P 29))) (some "error") [.Return (some (.Tuple [.Name "book" (P 30),.Name "heard" (P 31),.BinOp (.Name h (P 32)) .Add (.List [.BinOp (.Constant (.str "no ") (K 5) (P 33)) .Add (.Call (.Name "str" (P 34)) [.Name "error" (P 35)] [] (P 36)) (P 37)] (P 38)) (P 39)] (K 6) (P 40))) (P 41)] (P 42),.ExceptHandler (some (.Name "error_proto" (P 43))) (some "error") [.Return (some (.Tuple [.Name "book" (P 44),.Name "heard" (P 45),.BinOp (.Name h (P 46)) .Add (.List [.Call (.Name "str" (P 47)) [.Name "error" (P 48)] [] (P 49)] (P 50)) (P 51)] (K 7) (P 52))) (P 53)] (P 54)] [] [] (P 63)
noncomputable def rW (h:Expr)(P:Nat->Pos):Stmt:=.Assign [.Subscript (.Name "book" (P 55)) h (P 56)] (.Name "found" (P 57)) (P 58)
noncomputable def rV (k:Str)(h:Expr)(P:Nat->Pos)(K:Nat->Nat):Stmt:=.Return (some (.Tuple [.Name "book" (P 59),h,.Name k (P 60)] (K 8) (P 61))) (P 62)
noncomputable def Gn (o:Str)(h k s:Expr)(P:Nat->Pos)(K:Nat->Nat):List Stmt:=[.Assign [.Tuple [.Name "book" (P 0),.Name "heard" (P 1),.Name o (P 2)] (K 0) (P 3)] (.Name "state" (P 4)) (P 5),qD o h P K,rX o P K,rW s P,rV o k P K]
noncomputable def Kv (P:Nat->Pos)(K:Nat->Nat):Expr:=.Call (.Name "parse229" (P 22)) [.Name "words" (P 23),.Tuple [.Constant (.str "peer") (K 2) (P 24),.Constant (.int 21) (K 3) (P 25)] (K 4) (P 26)] [] (P 27)
noncomputable def FF (k:Bl)(N:Nat)(w:Scope)(x:Str)(v:Str)(e:Expr)(f:Str)(Cl:Addr)(O:Str):Prop:=
 ∀(A:Around)(h:Env)(H:Heap)(Z X:List Addr)(s:Shared)(o:AM)(l:List Env),Cc N A->A.frames=some l->AQ k s.heap l->XB k w h H->XS k w h H Z X s o->o.lookup x=some (.aa (.str v))->o.lookup f=none->Rz k A (eval e h) s l Cl O
noncomputable def Mo (C:A5)(k:Scope)(x:Str)(v:Str)(e:Expr)(f:Str)(d:PV):Prop:=∀h:AM,h.lookup x=some (.aa (.str v))->h.lookup f=none->CE C k h e d
inductive Q5 (W:Bl)(C:A5)(k:Nat)(sc:Scope)(P:Nat->Pos)(K:Nat->Nat)(inner last idx:Expr)(C1 C2:Addr)(r:Str)(es:List (Str×PV))(hs ss:List PV):List (Str×PV)->List PV->List PV->Prop
 |nk (d):Mo C sc "reply" r inner "parse257" d->hs.length+1<=Bf->Q5 W C k sc P K inner last idx C1 C2 r es hs ss es (hs++[d]) ss
 |sf (w0 w' u):FF W k sc "reply" r inner "parse257" C1 w0->FF W k sc "words" w0 (Kv P K) "parse229" C1 w'->FE .Add (.str "no ") (.str w')=some (.str u)->ss.length+1<=Bf->Q5 W C k sc P K inner last idx C1 C2 r es hs ss es hs (ss++[.str u])
 |si (w0 w'):FF W k sc "reply" r inner "parse257" C1 w0->FF W k sc "words" w0 (Kv P K) "parse229" C2 w'->ss.length+1<=Bf->Q5 W C k sc P K inner last idx C1 C2 r es hs ss es hs (ss++[.str w'])
 |sv (w0 d key hs'):FF W k sc "reply" r inner "parse257" C1 w0->Mo C sc "words" w0 (Kv P K) "parse229" d->(∀ρ:AM,ρ.lookup ("heard":Str)=some (.aa (.list hs))->CE C sc ρ idx (.str key))->(∀ρ:AM,ρ.lookup ("heard":Str)=some (.aa (.list hs))->CE C sc ρ last (.list hs'))->es.length+1<=Bf->
  Q5 W C k sc P K inner last idx C1 C2 r es hs ss (D8 es key d) hs' ss
variable {st:Stmt} in
structure IP (sc:Scope)(x3:Str)(inner last:Expr):Prop where
 st:(AI sc "book"&&AI sc "heard"&&AI sc x3)=true
 uu:sc.names.lookup ("error":Str)=some .local
 wds:AI sc "words"=true
 u7:AI sc "found"=true
 g1:BU sc "error_reply"=true
 g2:BU sc "error_proto"=true
 gs:BU sc "str"=true
 ni:B1 inner=true
 nl:B1 last=true
 x3:x3="spoiled"\/x3="refused"
section
variable {A:Around}{E:B3}{C:A5}
theorem Ps:∀(h:List (Str×NameKind))(n m:Nat)(k:List (Str×Addr)),m<=n->(∀p∈k,m<=p.2)->∀p∈cellsFrom n h k,m<=p.2:=by
 intro h;induction h with
 |nil=>
  intro n m k w A p o;exact A p o
 |cons E r s=>
  intro n m k w A p o;obtain⟨x,H⟩:=E;unfold cellsFrom at o;split at o
  ·exact s (n+1) m _ (Bp w) (λ q C=>by
    rcases Ae.mp C with rfl |C
    ·exact w
    ·exact A q C) p o
  ·exact s n m k w A p o
theorem Lw:∀b∈Ay (callEnvC fd h.objs.size a),h.get? b=none:=λ b k=>by
 rcases Ae.mp k with q |q
 ·rw[q];exact Bv h
 ·obtain⟨⟨n,c⟩,o,rfl⟩:=Al.mp q;exact II (FO (Ps fd.scope.names _ (h.objs.size+1) [] (Ah _) (λ p s=>by cases s) (n,c) o))
structure HL (D:Addr)(hs ss:List PV)(x3:Str)(ρ:AM):Prop where
 pn:ρ.lookup ("book":Str)=some (.ao (.ref D))
 nk:ρ.lookup ("heard":Str)=some (.aa (.list hs))
 x3:ρ.lookup x3=some (.aa (.list ss))
 qz:ρ.lookup ("parse229":Str)=none
 own:∀y d,ρ.lookup y≠some (.own d)
noncomputable def Ld (h n:Str):Prop:=n≠"book"/\n≠"heard"/\n≠h/\n≠"parse229"
theorem SQ {a:Str}(h:a="spoiled"\/a="refused"):Ld a "error"/\Ld a "words"/\Ld a "found":=by
 unfold Ld;rcases h with q |q<;>(rw[q];decide+kernel)
theorem HL.set (k:HL D b c a O)(o:Ld a n)(s:∀d,sl≠.own d):HL D b c a (AN O n sl):=by
 have g:∀{y:Str},n≠y->(AN O n sl).lookup y=O.lookup y:=λ h=>(Ba ..).trans (if_neg h.symm);refine⟨(g o.1).trans k.pn,(g o.2.1).trans k.nk,(g o.2.2.1).trans k.x3,(g o.2.2.2).trans k.qz,λ y d q=>?_⟩;by_cases e:n=y
 ·rw[Ba,if_pos e.symm] at q;injection q with q;exact s d q
 ·exact k.own y d ((g e).symm.trans q)
theorem HL.drop (k:HL D b c a O)(o:Ld a n):HL D b c a (Kq O n):=by
 have g:∀{y:Str},n≠y->(Kq O n).lookup y=O.lookup y:=λ h=>(F9 ..).trans (if_neg h.symm);refine⟨(g o.1).trans k.pn,(g o.2.1).trans k.nk,(g o.2.2.1).trans k.x3,(g o.2.2.2).trans k.qz,λ y d q=>?_⟩;by_cases e:n=y
 ·rw[F9,if_pos e.symm] at q;cases q
 ·exact k.own y d ((g e).symm.trans q)
noncomputable def cP:CB->Bool
 | .own _=>true
 |_=>false
theorem eN {l:AM}(h:l.all (λ p=>!cP p.2)=true):∀y d,l.lookup y≠some (.own d):=λ y d e=>nomatch (show false=true from AE.mp h _ (mem_of_lookup e))
theorem ZS {ss hs:List PV}{a:Str}{D:Addr}{t:Nat}{r:Str}(k:a="spoiled"\/a="refused"):∃h:AM,h=AN (AN (AN ((["state","reply"]:List Str).zip [CB.ao (.ref t),CB.aa (.str r)]) "book" (.ao (.ref D))) "heard" (.aa (.list hs))) a (.aa (.list ss))/\
 HL D hs ss a h/\h.lookup ("reply":Str)=some (.aa (.str r))/\h.lookup ("parse257":Str)=none:=by
 rcases k with rfl |rfl<;>exact⟨_,rfl,⟨by kernel_rfl,by kernel_rfl,by kernel_rfl,by kernel_rfl,eN (by kernel_rfl)⟩,by kernel_rfl,by kernel_rfl⟩
theorem IG {c:AM}(x:Dt W C k mg mb){P:Nat->Pos}{K:Nat->Nat}(T:IP V g b f)(y:Cc k A)(B:XB W V a N)(t:Vl W A a N l)(z:A.units+2<cLine)
 (G:El W mg "error_reply" C1 i) (w:HS W V a N Z X D n (a::l) s c) (L:HL D p q g c) (I:c.lookup ("reply":Str)=some (.aa (.str r))) (J:c.lookup ("parse257":Str)=none)
 (M:FF W k V "reply" r b "parse257" C1 j) {m:Flow->Shared->Prop} (hc:∀u Q h,HS W V a N Z X D n (a::l) {s with heap:=u,toks:=Q} h->s.toks<=Q->HL D p q g h->h.lookup ("words":Str)=some (.aa (.str j))->wpAny W.M A (execs d a) m E {s with heap:=u,toks:=Q}):
 wpAny W.M A (execs (qD g b P K::d) a) m E s:=by
 obtain⟨v,R,_⟩:=SQ T.x3;refine Aj (Qz x B t z w G (M5 (dT (dJ w.S.F L.pn rfl rfl (hO w.S.F L.nk (ZA T.ni (M A a _ _ _ _ c (a::l) y t.fr w.St B w.S I J)))))) T.g1 T.gs (n:="error") (wds:="words") T.uu (by decide+kernel) T.wds (by decide+kernel) λ H o e S _ O=>hc H o _ S O (((L.set (sl:=.ao (.ref e)) v λ _=>nofun).set (sl:=.aa (.str j)) R λ _=>nofun).drop v) ?_);rw[F9,if_neg (by decide+kernel),Ba,if_pos rfl]
theorem P5 (d:Bo W X h D (.dict a)):∃o,h.get? D=some o/\o.cls=.type "dict"/\∀k,o.data≠.fields k:=by
 obtain⟨s,⟨o,a,C,w,hc,A,_⟩,_⟩:=d;exact⟨o,w,hc.1,λ k q=>by cases A.symm.trans q⟩
theorem KZ (d:Bo W X h D (.dict a)):∀o,h.get? D=some o->(∀s,o.data≠.fields s)/\o.cls≠.type "frame":=λ o w=>by
 obtain⟨C,k,hc,A⟩:=P5 d;obtain rfl:=AF k w;exact⟨A,by rw[hc];decide⟩
theorem R3 (Gk:Dt W C k mg mb){P:Nat->Pos}{K:Nat->Nat}(fo:EH W a fd ["state","reply"] (Gn x3 i j m P K))(T:IP fd.scope x3 i j)(hA:Cc (k+1) A)(b9:A.frames=some l)(St:AQ W s.heap l)(G:Gd W s)
 (hX:∀b∈X,W.h0.get? b=none/\∃o,s.heap.get? b=some o) (hD:D∈X) (x1:El W mg "error_reply" C1 U) (x2:El W mg "error_proto" S p) (c0:(Value.ref S::p).contains (.ref C1)=false)
  (hT:s.heap.get? t=some (Jk #[.ref D,v1,v2] nt)) (dD:Bo W X s.heap D (.dict L)) (r1:Rp W X s.heap v1 (.list hs)) (r2:Rp W X s.heap v2 (.list ss)) (re:Rp W X s.heap e (.str r))
 (R:Q5 W C k fd.scope P K i j m C1 S r L hs ss x I J) (hQ:LK W (E2 s.heap D) X D x (.list I) (.list J) s Q):wpAny W.M A (call (.ref a) [.ref t,e]) Q E s:=by
 have a9:=KZ dD;refine EB fo hA G hX (args:=[.ao (.ref t),.aa (.str r)]) (.ao (.aa re .nil)) rfl λ N a3 a4 he B0 b0 b1 S0=>?_;have Z:=hA.down N;obtain⟨B,S1⟩:=XS.qm B0 S0 (λ o vs e=>(a9 o e).1 vs) (hX D hD).1;have fresh:∀b∈Ay N,s.heap.get? b=none:=by rw[he];exact Lw
 have c1:AQ W (E2 s.heap D) l:=St.imp λ c6 fc=>by
  obtain⟨o,L,ep,ho,hc,hd⟩:=fc;refine⟨o,L,ep,?_,hc,hd⟩;rw[Es (λ q=>(a9 o ((congrArg s.heap.get? q).symm.trans ho)).2 hc)];exact ho
 have O:Vl W (A.deeper N) N (E2 s.heap D) l:=⟨by show A.frames.map (N::·)=_;rw[b9];rfl,by rw[S0.F.kind];simp,by rw[he];rfl,c1,Z.handled⟩
 have H0:HS W fd.scope N (E2 s.heap D) (Ay N++X) (Ay N++X) D L (N::l) {s with heap:=a3,toks:=a4} _:=
  ⟨S1,(dD.az fresh).ac S0.le,O.stack S1,At _ hD,b0 D hD,Gz⟩
 have hu:(A.deeper N).units+2<cLine:=Z.u (by decide);have HQ:LK W (E2 s.heap D) (Ay N++X) D x (.list I) (.list J) s (λ v s'=>Q v s'):=λ h' tk t n v2 v3 a b c d e f g=>
  hQ h' tk t n v2 v3 a b c (d.ag λ b hb=>At _ hb) (e.ag λ b hb=>At _ hb) (by
   obtain⟨c2,e1,y,z,q,rl⟩:=f;exact⟨c2,e1,y,z,q,rl.ag λ b hb=>At _ hb⟩) λ q=>g (At _ q)
 unfold Gn;have c3:a3.get? t=some (Jk #[.ref D,v1,v2] nt):=S0.le.keep hT (by simp) (by simp);refine Aj (RZ (n:=nt) (s:={s with heap:=a3,toks:=a4}) Z.handled B H0 (y:="state") (T:=t) (d1:=.list hs) (d2:=.list ss) (by kernel_rfl) c3 ((Rp.az fresh r1).ac S0.le) ((Rp.az fresh r2).ac S0.le) T.st λ a2 a1 H2 b2=>?_);obtain⟨c4,b3,L1,k4,k5⟩:=ZS (D:=D) (hs:=hs) (ss:=ss) (t:=t) (r:=r) T.x3;rw[<-b3] at H2;have a6:=Aa b1 b2;obtain⟨n1,_,n3⟩:=SQ T.x3;induction R with
 |nk d g hz=>
  refine Aj (GN (Aj (Oq (s:={s with heap:=a2,toks:=a1}) H2 L1.pn rfl rfl (QT H2.S.F L1.nk T.ni ((g c4 k4 k5).at Gk Z H2.S.F (H2.S.gd B)) hz) (λ h tk K _=>IU (s:={s with heap:=h,toks:=tk}) (H2.S.F.ac K) L1.x3) (HQ.aq a6))))
 |sf w w' u g1 g2 b4 hz=>
  refine IG (s:={s with heap:=a2,toks:=a1}) Gk T Z B O hu x1 H2 L1 k4 k5 g1 λ a0 H a5 H3 V M m4=>?_;have V:s.toks<=H:=Aa a6 V;have R2:=g2 (A.deeper N) N _ _ _ {s with heap:=a0,toks:=H} a5 (N::l) Z O.fr H3.St B H3.S m4 M.qz;refine Aj (MT (s:={s with heap:=a0,toks:=H}) Gk B O hu H3 x1 x1 x2 (b1:=true) (by simp) (λ q=>nomatch q) (M5 (λ Q E hE=>BA (t:=.Name "found" (P 21)) rfl rfl rfl (R2 _ _ hE))) T.g1 T.g2 T.gs (by rw[if_pos rfl];exact b4) (n:="error") T.uu (by decide+kernel) M.pn M.nk M.x3 ⟨n1.1.symm,n1.2.1.symm,n1.2.2.1.symm⟩ hz (HQ.aq V))
 |si w w' g1 g2 hz=>
  refine IG (s:={s with heap:=a2,toks:=a1}) Gk T Z B O hu x1 H2 L1 k4 k5 g1 λ a0 H a5 H3 V M m4=>?_;have V:s.toks<=H:=Aa a6 V;have R2:=g2 (A.deeper N) N _ _ _ {s with heap:=a0,toks:=H} a5 (N::l) Z O.fr H3.St B H3.S m4 M.qz;refine Aj (MT (s:={s with heap:=a0,toks:=H}) Gk B O hu H3 x2 x1 x2 (b1:=false) c0 (λ _=>by simp) (M5 (λ Q E hE=>BA (t:=.Name "found" (P 21)) rfl rfl rfl (R2 _ _ hE))) T.g1 T.g2 T.gs (by rw[if_neg (by decide)]) (n:="error") T.uu (by decide+kernel) M.pn M.nk M.x3 ⟨n1.1.symm,n1.2.1.symm,n1.2.2.1.symm⟩ hz (HQ.aq V))
 |sv w d c7 c5 g1 g2 g3 g4 hz=>
  refine IG (s:={s with heap:=a2,toks:=a1}) Gk T Z B O hu x1 H2 L1 k4 k5 g1 λ a0 H a5 H3 V M m4=>?_;have V:s.toks<=H:=Aa a6 V;refine Aj (QC (s:={s with heap:=a0,toks:=H}) Gk Z B H3 (g2 a5 m4 M.qz) T.u7 λ b5 a7 H4 b6=>?_);have Y:=M.set (n:="found") (sl:=.aa d) n3 λ _=>nofun
  refine Aj (QA (s:={s with heap:=b5,toks:=a7}) Gk Z B H4 O (d:=d) (by rw[Ba,if_pos rfl]) Y.pn (g3 _ Y.nk) Y.own hz λ b7 a8 H5 b8=>?_);refine Aj (Oq (s:={s with heap:=b7,toks:=a8}) H5 Y.pn T.nl rfl ((g4 _ Y.nk).at Gk Z H5.S.F (H5.S.gd B)) (λ h tk K _=>IU (s:={s with heap:=h,toks:=tk}) (H5.S.F.ac K) Y.x3) (HQ.aq (Aa V (Aa b6 b8))))
end
variable {n:Nat}{t:Expr}{g:Array GenState} in
inductive HJ (W:Bl)(X:List Addr)(D:Addr)(es:Nat->List (Str×PV))(hs ss:Nat->List PV)(i:Nat)(v:Value)(h:Heap):Prop
 |mk (t n:Nat) (v1 v2:Value) (e:v=.ref t) (g:h.get? t=some (Jk #[.ref D,v1,v2] n)) (r1:Rp W X h v1 (.list (hs i))) (r2:Rp W X h v2 (.list (ss i))) (d:Bo W X h D (.dict (es i)))
section
variable {A:Around}{E:B3}{C:A5}
theorem QB (Gk:Dt W C k mg mb){P:Nat->Pos}{K:Nat->Nat}(fo:EH W a fd ["state","reply"] (Gn M c f g P K))(T:IP fd.scope M c f)
 (x1:El W mg "error_reply" C1 p) (x2:El W mg "error_proto" m j) (a0:(Value.ref m::j).contains (.ref C1)=false) (hD:D∈X) (w:A9 W W.h0 N) (hX:∀b∈X,W.h0.get? b=none/\(b=D\/∃o,N.get? b=some o))
 {u:Nat->List (Str×PV)} {I L:Nat->List PV} (hR:∀i x,S[i]? =some x->∃r,x=.str r/\Q5 W C k fd.scope P K c f g C1 m r (u i) (I i) (L i) (u (i+1)) (I (i+1)) (L (i+1))):
 NB W (k+1) (some D) X (.ref a) S N (HJ W X D u I L) where
 od:=λ i v h h' hk J=>by
  obtain⟨t,n,v1,v2,e,Z,U,Y,d⟩:=J;have O:∀b o,h.get? b=some o->b∉X->(o.cls=.type "list"\/o.cls=.type "tuple"\/o.cls=.type "dict")->h'.get? b=some o/\b∉X:=λ b o e nx hd=>⟨hk b o e hd,nx⟩;refine⟨t,n,v1,v2,e,hk _ _ Z (.inr (.inl rfl)),Rp.be O U,Rp.be O Y,?_⟩;refine C6 λ gg kk=>?_;obtain⟨a1,⟨o,a2,ep,V,hc,r⟩,y,z,q,rl⟩:=d;refine kk ?_;exact⟨a1,⟨o,a2,ep,hk _ _ V (.inr (.inr hc.1)),hc,r⟩,y,z,q,RpL.be O rl⟩
 uy:=λ i v h J B hB o vs V q=>by
  obtain⟨t,n,v1,v2,e,Z,U,Y,d⟩:=J;cases hB;exact(KZ d o V).1 vs q
 fn:=by
  obtain⟨o,V,hd,c1,c2⟩:=fo.obj;exact⟨a,fd,rfl,λ h H=>⟨o,(w.trans H).keep V c1 c2,hd⟩⟩
 step:=λ A s i v e x l hA a3 St G H hx hJ re Q E hQ=>by
  obtain⟨t,nt,v1,v2,rfl,Z,U,Y,d⟩:=hJ;obtain⟨r,rfl,R⟩:=hR i x hx;refine R3 Gk fo T hA a3 St G (λ b N=>⟨(hX b N).1,?_⟩) hD x1 x2 a0 Z d U Y re R λ h' tk t' n' w1 w2 K l' ht q1 q2 q3 q4=>?_
  ·rcases(hX b N).2 with q |q
   ·rw[q];exact d.alive
   ·exact Bc H q
  ·exact hQ (.ref t') h' tk K l' ⟨t',n',w1,w2,rfl,ht,q1,q2,q3⟩
end
variable {r:List Stmt} in
noncomputable def Kj (h:List (Str×PV)):List (Str×PV)->Option Bool
 |[]=>some true
 |(k,d)::r=>match h.find? (λ e=>e.1=k) with
  |none=>some false
  |some e=>(KE d e.2).bind λ x=>(Kj h r).map (x&&·)
theorem MS (h:List (Str×PV))(k:Str)(d:PV)(r:List (Str×PV)):Kj h ((k,d)::r)=(match h.find? (λ e=>e.1=k) with |none=>some false |some e=>(KE d e.2).bind λ x=>(Kj h r).map (x&&·)):=rfl
noncomputable def Kr (h k:List (Str×PV)):Option Bool:=(Kj k h).map λ r=>h.length==k.length&&r
section
variable {A:Around}{E:B3}
theorem Sg (k:A.units+6<cLine)(o:Rp W X s.heap c a)(rb:Rp W Y s.heap d b)(e:KE a b=some r):SeqAt.EqAt A s c d r:=by
 unfold KE at e;split at e<;>cases e;rename_i h;simp only[As] at h;refine C6 λ f w=>?_;obtain⟨⟨E,H⟩,N,O⟩:=o.reads h.1;obtain⟨⟨Q,V⟩,Z,g⟩:=rb.reads h.2;refine w ?_;exact SeqAt.eqAt_reads _ _ A s c d E Q H V N Z (Av (AK (Aa (Eg ..) O) _) k)
theorem RY (Q:A.units+6<cLine){b:List (Str×Value)}{a:List (Str×PV)}(hk:b.map (·.1)=a.map (·.1))(V:RpL W Y s.heap (b.map (·.2)) (a.map (·.2))):∀{w:List (Str×Value)}{o:List (Str×PV)}{r:Bool},w.map (·.1)=o.map (·.1)->RpL W X s.heap (w.map (·.2)) (o.map (·.2))->Kj a o=some r->KeqHits A s b w r:=by
 intro w;induction w with
 |nil=>
  intro o r q _ h;cases o with
  |nil=>cases h;exact .nil
  |cons _ _=>cases q
 |cons p w Z=>
  intro o r q l h;cases o with
  |nil=>cases q
  |cons c o=>
  obtain⟨k,v⟩:=p;obtain⟨H,d⟩:=c;have q:=List.cons.inj q;obtain rfl:H=k:=q.1.symm;obtain⟨f,l⟩:=RpL.qu l;have O:=I1 (W:=W) (X:=Y) (h:=s.heap) H hk V;rw(occs:=.all) [MS] at h;cases E:a.find? λ e=>decide (e.1=H) with
  |none=>
   rw[E] at h;cases h;refine .miss ?_;unfold valueAt;have g:(a.any λ e=>decide (e.1=H))=false:=by
    rw[List.find?_eq_none] at E;rw[List.any_eq_false];exact E
   rw[Option.isNone_iff_eq_none.mp (Option.isSome_eq_false_iff.mp (O.1.trans g))];rfl
  |some e=>
   rw[E] at h;obtain⟨x,i,h⟩:=Aq.mp h;obtain⟨y,j,rfl⟩:=AY.mp h;obtain⟨u,N,m⟩:=O.2 e.2 (by rw[E];rfl);exact .hit N (Sg Q f m i) (Z q.2 l j)
theorem XL (o:A.units+15<cLine)(N:Bo W X s.heap D (.dict a))(O:D∈Y)(Q:Rp W Y s.heap y (.dict c))(e:Kr a c=some true){d:Bool->Shared->Prop}(V:d true s):wpAny W.M A (eqBool (.ref D) y) d E s:=by
 obtain⟨Z,f,g,_,w,i⟩:=N;obtain⟨b,j,rfl,l,m,n,_,H,p⟩:=Q.ah;obtain⟨v,h,r⟩:=AY.mp e;have k:D≠b:=λ q=>m (q▸O);unfold eqBool;refine Bk ?_;refine wpAny_ite_split (λ q=>absurd (Value.ref.inj (BB q)) k) (λ _=>?_);refine Ab (keq_eq g n f l (Av (Bq ..) o) (λ _=>RY (Av (show A.units+7<=A.units+15 from AK (by decide) _) o) H p w i h) (CQ ?_));have t:Z.length=a.length:=by simpa using congrArg List.length w
 have u:j.length=c.length:=by simpa using congrArg List.length H
 rw[t,u,r];exact V
theorem Yz (V:A.units+20<cLine)(H:s.heap.get? a=some (Jk #[.ref D,b,c] n))(v:Bo W X s.heap D (.dict d))(x:Rp W X s.heap b g)(y:Rp W X s.heap c i)(z:D∈Y)
 (rb:Rp W Y s.heap p (.aw [.dict f,j,l])) (e:Kr d f=some true) (B:KE g j=some true) (C:KE i l=some true)
  (G:Q (.bool false) s):wpAny W.M A (compareOp .NotEq (.ref a) p) Q E s:=by
 obtain⟨Z,⟨I⟩,m,rfl,g2,ny,sz,J⟩:=rb.ah;obtain⟨q,r,t,rfl,L,M,R⟩:=RpL.ug (vs:=I) J;have u:s.heap.get? Z=some (Jk #[q,r,t] m):=g2;show wpAny W.M A (richCompare .NotEq (.ref a) (.ref Z)) Q E s;refine wpAny_richCompare_same_room (op:=.NotEq) (T:="tuple") ⟨_,H,rfl⟩ ⟨_,u,rfl⟩ PySem.F.slot_tuple_ne (GM PySem.F.slot_tuple_ne ⟨_,H,rfl⟩ PySem.F.entry_tuple_ne ?_ (PySem.F.args_tuple_ne_2 _ _)) (Av (Bq ..) V);have o:A.in1.units+15<cLine:=Av (show A.units+16<=A.units+20 from AK (by decide) _) V;have w:A.in1.units+6<cLine:=Av (AK (by decide) _) o;have S:∀{h:Bool->Shared->Prop}{k:B3},h true s->wpAny W.M A.in1 (eqBool (.ref D) q) h k s:=XL o v z L e;have T:∀{h:Bool->Shared->Prop}{k:B3},h true s->wpAny W.M A.in1 (eqBool b r) h k s:=λ{h k} N=>Sg (A:=A.in1) w x M B W.prog W.w k h N;have U:∀{h:Bool->Shared->Prop}{k:B3},h true s->wpAny W.M A.in1 (eqBool c t) h k s:=λ{h k} N=>Sg (A:=A.in1) w y R C W.prog W.w k h N;have f2:=AutoSeq1.sub_tuple_tuple;have O:Value.bool false≠Value.notImplemented/\Q (.bool false) s:=⟨nofun,G⟩
 wp_walk using Fy H,Fy u,S,T,U
 exact⟨_,rfl,O⟩
end
section
variable {A:Around}{E:B3}
theorem NI (h:s.heap.IsTupleIter a t i)(Z:s.heap.IsTuple t b)(d:b[i]? =some x)
 (e:∀k,k.IsTupleIter a t (i+1)->Heap.SameBut a s.heap k->Q x {s with heap:=k}):wpAny (model c w) A (Builtin.SmallTypes.nextOf (.ref a)) Q E s:=by
 obtain⟨o,O,hc,H⟩:=id h;obtain⟨g,V,_,j,W⟩:=Z;have N:∀k,k=s.heap.update a (λ o=>o.mapFields λ f=>f.set! 1 (rawInt ((i:Int)+1)))->k.IsTupleIter a t (i+1):=by
  rintro k rfl;exact⟨_,Br _ O (CU (CX H _)),(H9 ..).trans hc,by
   rw[CX H];simp[rawInt]⟩
 unfold Builtin.SmallTypes.nextOf;refine Ab (FQ (name:=Str.ofString "__next__") h.typeIs DB (GM DB h.typeIs PySem.F.entry_tuple_iterator_next ?_ (PySem.F.args_tuple_iterator_next_1 _)));refine Ab (m:=field (.ref a) 0) (BQ O H (x:=.ref t) rfl ?_);show wpAny _ _ (field (.ref a) 1 >>=_) _ _ s;refine Ab (BQ O H (x:=.int i 0) rfl (Ab (m:=seqItems? (.ref t)) (wpAny_seqItems V W ?_)));simp only[Int.toNat_natCast,d];exact Ab (Gg O H (by simp) (Ag ⟨x,rfl,Ag (e _ (N _ rfl) (Be ..))⟩))
theorem NH (W:A.handled=none)(h:s.heap.IsTupleIter b t i)(Z:s.heap.IsTuple t a)(d:a[i]? =none)
 (f:∀k e,Heap.ExtBut b s.heap k->(∃o,k.get? b=some o)->(∃o,k.get? e=some o/\o.cls=.type "StopIteration")->E (.ref e) {s with heap:=k}):wpAny (model c w) A (Builtin.SmallTypes.nextOf (.ref b)) Q E s:=by
 obtain⟨o,H,hc,N⟩:=id h;obtain⟨g,O,_,j,V⟩:=Z;unfold Builtin.SmallTypes.nextOf;refine Ab (FQ (name:=Str.ofString "__next__") h.typeIs DB (GM DB h.typeIs PySem.F.entry_tuple_iterator_next ?_ (PySem.F.args_tuple_iterator_next_1 _)));refine Ab (m:=field (.ref b) 0) (BQ H N (x:=.ref t) rfl ?_);show wpAny _ _ (field (.ref b) 1 >>=_) _ _ s;refine Ab (BQ H N (x:=.int i 0) rfl (Ab (m:=seqItems? (.ref t)) (wpAny_seqItems O V ?_)));simp only[Int.toNat_natCast,d];refine Ab (KB (Ab (Gg H N (by simp) ?_)));refine Ab (m:=newExc (.type "StopIteration") []) ?_;simp only[newExc,newTuple];refine Ab (BJ (Ab (m:=firstArgMember _ _) (Dc (a:=Value.none) (by first |rfl |(simp only[firstArgMember];rfl)) (BJ ?_ (by size_fits)))) (by size_fits));simp only[raiseNew];refine Ab (wpAny_handled ?_)
 first |rw[show A.in1.handled=none from W] |rw[W]
 exact Ab (Ag (wpAny_throw (f _ _ (((Be ..).extBut.push _).push _) ⟨_,Am _ (Am _ (Br _ H (CU (CX N _))))⟩ ⟨_,Ak _ rfl,rfl⟩)))
theorem U3 {c:Value}{i:Nat}{f:Array Value}{m:Program}{e a l:Addr}{x:Value}{j:Option Value->Shared->Prop}(he:IsEnum s.heap e a i c)(a4:s.heap.IsTupleIter a l i)(hl:s.heap.IsTuple l f)(hx:f[i]? =some x)(M:e≠a)
 (hQ:∀h' T n N a0,IsEnumOut h' e a ((i:Int)+1) x T->h'.IsTupleIter a l (i+1)->s.heap.get? T=none->h'.get? T=some (Jk #[.int i N,x] n)->(∀b o,b≠e->b≠a->s.heap.get? b=some o->h'.get? b=some o)->s.toks<=a0->j (some (.ref T)) {s with heap:=h',toks:=a0}):
 wpAny (model m w) A (pyNext (.ref e)) j E s:=by
 have hT:s.TypeIs (.ref e) "enumerate":=⟨_,he,rfl⟩;obtain⟨hp,g,d,N,os⟩:=s;refine Ab (wpAny_attempt (FQ (name:=Str.ofString "__next__") hT Ee (GM Ee hT PySem.F.entry_enumerate_next ?_ (PySem.F.args_enumerate_next_1 _))));refine Ab (m:=field (.ref e) 2) (BQ he rfl (x:=.ref a) rfl ?_);refine Ab (NI a4 hl hx λ G D Q=>?_);have V:=(Q.2 e M).trans he;refine Ab (m:=field (.ref e) 3) (BQ V rfl (x:=rawInt i) rfl ?_);refine Ab (m:=field (.ref e) 4) (BQ V rfl (x:=.none) rfl ?_);refine Ab (m:=mkInt i) (wpAny_mkInt ?_);refine Ab (m:=setField (.ref e) 3 (rawInt ((i:Int)+1))) (FK (s:=⟨G,g,d,N+1,os⟩) V (by simp) λ I W v=>?_)
 replace W:IsEnum I e a ((i:Int)+1) c:=W
 refine Ab (m:=setField (.ref e) 4 .none) (FK (s:=⟨I,g,d,N+1,os⟩) W (by simp) λ k Z y=>?_)
 replace Z:IsEnum k e a ((i:Int)+1) c:=Z
 refine Ab (m:=newTuple [.int i N,x]) (wpAny_newTuple ?_);have H:IsEnum (k.push {cls:=.type "tuple",data:=.seq #[.int i N,x]}) e a ((i:Int)+1) c:=Am _ Z;have a1:k.objs.size=hp.objs.size:=by rw[y.1,v.1,Q.1]
 have a5:k.objs.size≠e:=by rw[a1];exact(Cm (Az he))
 have a2:=Ak k (o:={cls:=.type "tuple",data:=.seq #[.int i N,x]}) rfl;have a3:∀{h:Heap}{o:Obj}{b:Addr},b≠e->Heap.SameBut e (k.push {cls:=.type "tuple",data:=.seq #[.int i N,x]}) h->(k.push {cls:=.type "tuple",data:=.seq #[.int i N,x]}).get? b=some o->h.get? b=some o:=λ{h o b} z hs q=>(hs.2 b z).trans q;generalize R:k.push {cls:=.type "tuple",data:=.seq #[.int i N,x]}=O at H a2 a3;refine Ab (m:=Builtin.SmallTypes.ownedTupleIsFree (.ref e)) ?_;dsimp only[Builtin.SmallTypes.ownedTupleIsFree];refine Ab (BQ (s:=⟨O,g,d,N+1,os⟩) H rfl (x:=.none) rfl (Ag ?_));refine Ab (KB (Ab (BQ (s:=⟨O,g,d,N+1,os⟩) H rfl (x:=c) rfl ?_)));refine Ab (FK (s:=⟨O,g,d,N+1,os⟩) H (by exact Ah _) λ J p S=>?_)
 replace p:IsEnum J e a ((i:Int)+1) x:=p
 refine Ab ?_;refine Ab (FK (s:=⟨J,g,d,N+1,os⟩) p (by simp) λ L t U=>?_)
 replace t:IsEnumOut L e a ((i:Int)+1) x k.objs.size:=t
 refine FK (s:=⟨L,g,d,N+1,os⟩) t (by simp) λ B u Y=>?_
 replace u:IsEnumOut B e a ((i:Int)+1) x k.objs.size:=u
 have C:∀{b:Addr}{o:Obj},b≠e->O.get? b=some o->B.get? b=some o:=λ{b o} z q=>(Y.2 b z).trans ((U.2 b z).trans ((S.2 b z).trans q));have on:∀{b:Addr}{o:Obj},b≠e->G.get? b=some o->O.get? b=some o:=λ{b o} z q=>by rw[<-R];exact Am _ ((y.2 b z).trans ((v.2 b z).trans q))
 refine Ab (wpAny_letGo (Ag ⟨_,rfl,Ag (hQ B _ 0 N (N+1) u ?_ ?_ (C a5 a2) (λ b o z a6 q=>C z (on z ((Q.2 b a6).trans q))) (A8 _))⟩))
 ·obtain⟨o,ho,r⟩:=D;exact⟨o,C (Ne.symm M) (on (Ne.symm M) ho),r⟩
 ·skip
  rw[a1];exact Bv hp
end
open AutoSeq1 (wpAny_loadPart')
section
variable {A:Around}{E:B3}
theorem XG {f:Value}{i:Nat}{a:Array Value}{d:Program}{e b l:Addr}{c:Option Value->Shared->Prop}(W:A.handled=none)(Q:IsEnum s.heap e b i f)(k:s.heap.IsTupleIter b l i)(Z:s.heap.IsTuple l a)(g:a[i]? =none)
 (j:∀h,Heap.ExtBut b s.heap h->(∃o,h.get? b=some o)->c none {s with heap:=h}):wpAny (model d w) A (pyNext (.ref e)) c E s:=by
 have V:s.TypeIs (.ref e) "enumerate":=⟨_,Q,rfl⟩;unfold pyNext;refine Ab (wpAny_attempt (FQ (name:=Str.ofString "__next__") V Ee (GM Ee V PySem.F.entry_enumerate_next ?_ (PySem.F.args_enumerate_next_1 _))));refine Ab (m:=field (.ref e) 2) (BQ Q rfl (x:=.ref b) rfl ?_);refine Ab (NH W k Z g λ h x H N O=>?_);obtain⟨o,m,hc⟩:=O;exact Ab (wpAny_isInstance (T:="StopIteration") (b:=true) ⟨o,m,hc⟩ isSubtype_stop (Ag (j _ H N)))
theorem XF (l:Addr)(k:Array Value)(n:Nat):Meets (Builtin.«enumerate.__new__» ⟨[.type "enumerate",.ref l],[]⟩) (λ _ R s=>s.heap.get? l=some (Jk k n)/\
 R (.ok (.ret (.ref (s.heap.push {cls:=.type "tuple_iterator",data:=.fields #[.ref l,.int 0 0]}).objs.size)))
   {s with heap:=(s.heap.push {cls:=.type "tuple_iterator",data:=.fields #[.ref l,.int 0 0]}).push {cls:=.type "enumerate",data:=.fields #[.none,.bool false,.ref s.heap.objs.size,rawInt 0,.none,.none]}}):=
 .of_wp λ E w A R s h=>by
  obtain⟨O,g,d,Q,os⟩:=s;obtain⟨o,h⟩:=h;have H:=sub_enumerate;have N:Heap.IsTuple (Shared.heap ⟨O,g,d,Q,os⟩) l k:=⟨_,o,rfl,n,rfl⟩
  wp_walk using Fy o
  refine wpAny_stack_any λ st=>Ag ?_;refine wpAny_ite_split (λ _=>?_) (λ _=>?_)
  ·wp_walk using Fy o,wpAny_pyIter_tuple N
   exact⟨_,rfl,h⟩
  ·wp_walk using Fy o,wpAny_pyIter_tuple N
   exact⟨_,rfl,h⟩
theorem U4 (V:s.heap.get? l=some (Jk a n))
 (W:∀k,IsEnum k (s.heap.objs.size+1) s.heap.objs.size 0 .none->k.IsTupleIter s.heap.objs.size l 0->(∃h:Heap,(∀b o,s.heap.get? b=some o->h.get? b=some o)/\(∃o,h.get? s.heap.objs.size=some o)/\h.get? (s.heap.objs.size+1)=none/\∀b o,h.get? b=some o->k.get? b=some o)->Q (.ref (s.heap.objs.size+1)) {s with heap:=k}):
 wpAny (model c w) A (call (.type "enumerate") [.ref l]) Q E s:=by
 refine callType_new PySem.F.called_enumerate (by decide) (PySem.F.typeCall_enumerate_1 _) (PySem.F.newCall_enumerate_1 _) (λ H=>PySem.F.args_object_init_2 H _) PySem.F.entry_enumerate_new (XF l a n) ⟨V,?_⟩;have N:(s.heap.push {cls:=.type "tuple_iterator",data:=.fields #[.ref l,.int 0 0]}).objs.size=s.heap.objs.size+1:=BS ..;show _/\_;rw[N];have O:=Ak (s.heap.push {cls:=.type "tuple_iterator",data:=.fields #[.ref l,.int 0 0]}) (o:={cls:=.type "enumerate",data:=.fields #[.none,.bool false,.ref s.heap.objs.size,rawInt 0,.none,.none]}) rfl;rw[N] at O;exact⟨⟨_,O,rfl⟩,W _ O ⟨_,Am _ (Ak _ rfl),rfl,rfl⟩ ⟨_,λ b o x=>Am _ x,⟨_,Ak _ rfl⟩,by rw[<-N];exact Bv _,λ b o x=>Am _ x⟩⟩
end
noncomputable def PS (h:Heap)(e:Addr)(k:Obj):Heap:={h with objs:=h.objs.modify e λ _=>k}
theorem OX (k:b≠e):(PS h e o).get? b=h.get? b:=by
 unfold PS Heap.get?;simp only[FY,if_neg (Ne.symm k)]
theorem Uc (k:o.isFreed=false)(s:h.get? e=some a):(PS h e o).get? e=some o:=by
 have:=Az s;unfold PS;rw[Heap.get?_some_iff];refine⟨?_,k⟩;have w:h.objs[e]? =some h.objs[e]:=Array.getElem?_eq_getElem this;show(h.objs.modify e λ _=>o)[e]? =some o;rw[FY,if_pos rfl,w];rfl
section
variable {A:Around}{E:B3}{z:Env}
theorem XS.pk {I:Addr}{tk:Nat}(S:XS W V z N Z X s O)(a:I∈Z)(Q:I∉Ay z)(w:N.get? I=none)(k:∃o,s.heap.get? I=some o/\o.cls≠.none/\o.cls≠.type "code")(h:Heap.ExtBut I s.heap H)(A:∃o,H.get? I=some o)(l:s.toks<=tk):
 XS W V z N Z X {s with heap:=H,toks:=tk} O:=by
 obtain⟨d,E,b,c⟩:=k;exact⟨S.F.ext h a Q A,S.le.ext w (λ o e k f=>by obtain rfl:=AF E k;exact⟨b,c⟩) h,Aa S.tk l,S.fr,S.fc.at λ o k=>h _ o (λ q=>Q (q▸Ac)) k⟩
theorem XS.sx {I J:Addr}{tk:Nat}(S:XS W V z N Z X s O)(t:I∈Z)(u:J∈Z)(A:I∉Ay z)(E:J∉Ay z)(Q:N.get? I=none)(a:N.get? J=none)(c:I≠J)(d:∃o,s.heap.get? I=some o/\o.cls≠.none/\o.cls≠.type "code")(f:∃o,s.heap.get? J=some o/\o.cls≠.none/\o.cls≠.type "code")
 (v:∀b o,b≠I->b≠J->s.heap.get? b=some o->H.get? b=some o) (g:∃o,H.get? I=some o) (i:∃o,H.get? J=some o) (l:s.toks<=tk):XS W V z N Z X {s with heap:=H,toks:=tk} O:=by
 refine C6 λ D x=>?_;obtain⟨k,p,y,B⟩:=d;obtain⟨j,w⟩:=g;refine x ?_;have h:(PS H I k).get? I=some k:=Uc (Heap.get?_some_iff.mp p).2 w;have C:XS W V z N Z X {s with heap:=PS H I k,toks:=tk} O:=S.pk (I:=J) u E a f (λ b o m e=>by
  by_cases q:b=I
  ·cases q;obtain rfl:=AF p e;exact h
  ·rw[OX q];exact v b o q m e) (by rw[OX c.symm];exact i) l
 exact C.pk (s:={s with heap:=PS H I k,toks:=tk}) (I:=I) t A Q ⟨k,h,y,B⟩ (λ b o n e=>by
  have r:(PS H I k).get? b=some o:=e;rw[OX n] at r;exact r) ⟨j,w⟩ (Ah _)
end
variable {r:List Stmt}{i:Nat} in
noncomputable def M6:Nat->List PV->List PV
 |_,[]=>[]
 |i,d::r=>.aw [.int i,d]::M6 (i+1) r
section
variable {A:Around}{E:B3}{z:Env}
structure Vm (env:Env)(hb:Heap)(Z X:List Addr)(e it:Addr):Prop where
 ei:e≠it
 eX:e∉X
 iX:it∉X
 eb:hb.get? e=none
 ib:hb.get? it=none
 zx:∀a∈Z,a∈X
 zf:∀a∈Ay env,a∈Z
 fr:∀a∈X,a∉Z->hb.get? a=none
section
theorem Vm.ef (c:Vm z N Z X e a):e∉Ay z:=λ q=>c.eX (c.zx _ (c.zf _ q))
theorem Vm.iF (c:Vm z N Z X e a):a∉Ay z:=λ q=>c.iX (c.zx _ (c.zf _ q))
theorem Vm.apart (c:Vm z N Z X e a)(O:IsEnum h e a i f)(s:h.IsTupleIter a l d)(E:h.get? b=some o)(hc:(b∉X/\Dy o)\/(b∈Z/\¬C3 V z b/\o.cls≠.type "frame"/\o.cls≠.none)):b≠e/\b≠a:=by
 rcases hc with⟨_,Q⟩ |⟨H,_⟩
 ·have k:∀{x:String},o.cls=.type x->x≠"list"/\x≠"tuple"/\x≠"dict"->False:=λ e n=>by
   rcases Q with q |q |q<;>replace e:=Eq.trans (Eq.symm (q)) e<;>cases e
   ·exact n.1 rfl
   ·exact n.2.1 rfl
   ·exact n.2.2 rfl
  obtain⟨W,w,A,_⟩:=s;exact⟨λ q=>k (x:="enumerate") (congrArg Obj.cls (Au ((q▸E).symm.trans O))) (by decide),λ q=>k (x:="tuple_iterator") ((congrArg Obj.cls (Au ((q▸E).symm.trans w))).trans A) (by decide)⟩
 ·exact⟨λ q=>c.eX (c.zx _ (q▸H)),λ q=>c.iX (c.zx _ (q▸H))⟩
theorem Vm.ag (c:Vm z N Z X e a)(A:IsEnum h e a i f)(k:h.IsTupleIter a l d)(E:C9 V z (e::a::Z) (e::a::X) h H):C9 V z Z X h H:=λ b o hc s=>by
 have w:=c.apart A k s hc;exact E b o (hc.imp (λ c=>⟨λ q=>(Ae.mp q).elim w.1 λ q=>(Ae.mp q).elim w.2 c.1,c.2⟩) λ c=>⟨Ad _ (Ad _ c.1),c.2⟩) s
theorem Vm.drop (c:Vm z N Z X e b)(S:XS W V z N (e::b::Z) (e::b::X) s O):XS W V z N Z X s O:=
 ⟨(S.F.bk (λ _ _ _ e=>e) c.ef (λ q=>(Ae.mp q).elim c.ei c.eX) (λ a h=>(Ae.mp h).elim (λ q=>q▸Ac) λ q=>Ad _ (c.zx a q))).bk (λ _ _ _ e=>e) c.iF c.iX c.zx,S.le,S.tk,c.fr,S.fc⟩
theorem Vm.ql (c:Vm z N Z X e a)(w:IsEnum h e a i b)(k:h.IsTupleIter a l d)(s:C9 V z (e::a::Z) (e::a::X) h H):IsEnum H e a i b/\H.IsTupleIter a l d:=by
 refine⟨s e _ (.inr ⟨Ac,O1 c.ef,by simp,by simp⟩) w,?_⟩;obtain⟨o,A,hc,r⟩:=k;exact⟨o,s a o (.inr ⟨Ad _ Ac,O1 c.iF,by rw[hc];decide,by rw[hc];decide⟩) A,hc,r⟩
variable {qi:Value}{i n tk:Nat} in
inductive qN (W:Bl)(A:Around)(sc:Scope)(env:Env)(hb:Heap)(Z X:List Addr)(e it l:Addr)(s:Shared)(t:Expr)(b o:List Stmt)(ds:List PV)(fl:Fl):Nat->Shared->Prop
 |mk {n:Nat} {H:Heap} {tk:Nat} {O:AM} {i:Nat} {qi:Value} (hi:i<=ds.length) (hn:n=ds.length-i) (he:IsEnum H e it (i:Nat) qi) (hit:H.IsTupleIter it l i) (S:XS W sc env hb (e::it::Z) (e::it::X) {s with heap:=H,toks:=tk} O) (kd:C9 sc env Z X s.heap H) (lt:s.toks<=tk) (ev:Fi W A sc env hb t b o (M6 i (ds.drop i)) O fl):qN W A sc env hb Z X e it l s t b o ds fl n {s with heap:=H,toks:=tk}
end
theorem Pi {R:Result->Shared->Prop}{p:List PV}{g:Array Value}(B:XB W V z N)(hh:A.handled=none)
 (c:Vm z N Z X e m)
 (he:IsEnum s.heap e m 0 C) (d1:s.heap.IsTupleIter m l 0) (hl:s.heap.get? l=some (Jk g G)) (d2:l∉X) (c3:RpL W (e::m::X) s.heap g.toList p) (e0:p.length<=Bf)
 (S:XS W V z N (e::m::Z) (e::m::X) s O) (ev:Fi W A V z N (.Tuple t y x) b j (M6 0 p) O D) (hQ:GT W V z N Z X s D (λ f s'=>R (.ok f) s')):codeAny W.M A (.forLoop (.Tuple t y x) (.ref e) b j z) R s:=by
 have b4:g.size=p.length:=by exact c3.length
 refine HK (qN W A V z N Z X e m l s (.Tuple t y x) b j p D) (λ n s' hI=>Jb λ Q' E' gQ gE=>?_) p.length (.mk (AP _) rfl he d1 S .refl (Ah _) ev);induction hI with |@mk h' tk d3 i C hi hn M E S' kd l' e'=>
 have c4:h'.IsTuple l g:=⟨_,kd l _ (.inl ⟨d2,.inr (.inl rfl)⟩) hl,rfl,_,rfl⟩;have c5:∃j,h'.get? m=some j/\j.cls≠.none/\j.cls≠.type "code":=by obtain⟨j,a,c,_⟩:=E;exact⟨j,a,by rw[c];nofun,by rw[c];decide⟩
 by_cases a3:i<p.length
 ·have U:i<g.size:=b4▸a3;have hx:g[i]? =some (g[i]'U):=Array.getElem?_eq_getElem U;have hd:p.drop i=p[i]::p.drop (i+1):=ES a3;simp only[hd,M6] at e';obtain⟨e2,f1,h1,h2,e'⟩:=e'.ah;refine BG (n:=tk) (Ah _) (U3 (s:={s with heap:=h',toks:=tk}) M E c4 hx c.ei λ J T nT e3 a4 b9 b2 c6 hT c7 b5 _=>gQ _ _ ?_);clear gQ gE Q' E';refine Jb λ Q' E' gQ gE=>?_;have a5:tk<=a4:=b5;refine wpAny_letOwnedTupleGo_enum (s:={s with heap:=J,toks:=a4}) b9 λ h a6 o=>gQ _ _ ?_;clear gQ gE Q' E';refine Jb λ Q' E' gQ gE=>?_
  replace o:Heap.SameBut e J h:=o
  have a7:∀b j,b≠e->b≠m->h'.get? b=some j->h.get? b=some j:=λ b j a1 a2 q=>(o.2 b a1).trans (c7 b j a1 a2 q);have H:h.IsTupleIter m l (i+1):=by obtain⟨j,ho,r⟩:=b2;exact⟨j,(o.2 m (Ne.symm c.ei)).trans ho,r⟩
  have d4:T≠e:=λ q=>by have b3:h'.get? T=none:=c6;simp only[q,M] at b3;contradiction
  have c0:C9 V z Z X h' h:=λ b j hc ho=>a7 b j (c.apart M E ho hc).1 (c.apart M E ho hc).2 ho;have b6:XS W V z N (e::m::Z) (e::m::X) {s with heap:=h,toks:=a4} d3:=
   S'.sx (I:=e) (J:=m) (H:=h) (tk:=a4) Ac (Ad _ Ac) c.ef c.iF c.eb c.ib c.ei ⟨_,M,by simp,by simp⟩ c5 a7 ⟨_,a6⟩ (by obtain⟨j,ho,_⟩:=H;exact⟨j,ho⟩) a5
  have c1:RpL W (e::m::X) h g.toList p:=c3.be λ b j q n hd=>⟨a7 b j (λ b3=>n (b3▸Ac)) (λ b3=>n (b3▸Ad _ Ac)) (kd b j (.inl ⟨λ b3=>n (Ad _ (Ad _ b3)),hd⟩) q),n⟩;have d5:p[i]? =some p[i]:=AW a3;obtain⟨u,hu,ru⟩:=c1.get d5;have eu:u=g[i]'U:=by
   have e1:g[i]? =some u:=by simpa using hu
   obtain rfl:=AF hx e1;rfl
  subst eu;have TX:T∉e::m::X:=λ q=>by
   obtain⟨j,ho⟩:=S'.F.am T q;have b3:h'.get? T=none:=c6;exact BZ b3 ho
  have rT:Rp W (e::m::X) h (.ref T) (.aw [.int i,p[i]]):=.aw ((o.2 T d4).trans hT) TX (by show 2<=Bf;simp[Bf]) (.cons (.int _ _) (.cons ru .nil));refine EC (s:={s with heap:=h,toks:=a4}) hh B b6 h1 rT λ b7 a8 c8 c2 c9=>gQ _ _ ?_;clear gQ gE Q' E';refine Jb λ Q' E' gQ gE=>?_;have a9:C9 V z (e::m::Z) (e::m::X) h b7:=c2.aj λ a ha=>b6.F.bq ha;have Y:IsEnum h e m ((i+1:Nat):Int) (g[i]'U):=by have:=a6;push_cast;exact this
  obtain⟨Q,k⟩:=c.ql Y H a9;have d0:=(kd.trans c0).trans (c.ag Y H a9);have b0:s.toks<=a8:=Aa l' (Aa a5 c9);refine h2.go (e::m::Z) (e::m::X) {s with heap:=b7,toks:=a8} _ _ c8 ?_;cases f1 with
  |next d6=>exact λ a0 I b1 w L=>gQ _ _ ⟨n-1,nK hn a3,.mk a3 (eL hn) (c.ql Q k w).1 (c.ql Q k w).2 b1 (d0.trans (c.ag Q k w)) (Aa b0 L) e'⟩
  |brk d6=>cases e';exact λ a0 I b1 w L=>gQ _ _ (hQ a0 I (c.drop b1) (d0.trans (c.ag Q k w)) (Aa b0 L))
  |ret d=>cases e';exact λ v a0 I d7 L r=>gQ _ _ (hQ v a0 I d7 (Aa b0 L) (r.ag λ a ha=>Ad _ (Ad _ ha)))
 ·have d8:i=p.length:=eO hi a3;subst d8;simp only[List.drop_length,M6] at e';refine BG (n:=tk) (Ah _) (XG (s:={s with heap:=h',toks:=tk}) hh M E c4 (Array.getElem?_eq_none (AG b4)) λ J b8 d9 b5=>?_);exact gQ _ _ (e'.rm.go Z X {s with heap:=J,toks:=tk} _ _ (c.drop (S'.pk (I:=m) (H:=J) (tk:=tk) (Ad _ Ac) c.iF c.ib c5 b8 d9 (Ah _))) (hQ.aq (kd.trans λ b j hc ho=>b8 b j (c.apart M E ho hc).2 ho) l'))
end
section
variable {A:Around}{E:B3}{z:Env}{C:A5}
theorem Xu {ds:List PV}(Gk:Dt W C k mg mb)(hA:Cc k A)(B:XB W V z N)(U:mg "enumerate"=none/\mb "enumerate"=some (.type "enumerate"))(hg:BU V "enumerate"=true)(hx:CE C V O (.Name x g) (.aw ds))
 (Y:ds.length<=Bf) (ev:Fi W A V z N (.Tuple d e c) b f (M6 0 ds) O j):
 D3 W A V z N (exec (.For (.Tuple d e c) (.Call (.Name "enumerate" i) [.Name x g] [] n) b f p) z) O j:=.mk λ Z X s Q E S hQ=>by
 refine Ab (AL (Ab (Bu (BK Gk S.F (S.gd B) hg (.inr U) ?_))));refine B2 (es:=[.Name x g]) rfl ?_;refine GR rfl (AV (Ap (hx.at Gk hA S.F (S.gd B) _ _ λ v h w G I rv=>AR ?_)));have o:=S.ac (tk:=w) G I;obtain⟨l,vs,nl,rfl,hl,a0,T,rl⟩:=rv.ah;refine U4 (s:={s with heap:=h,toks:=w}) hl λ H r y hm=>?_;refine C6 λ gg kk=>?_;obtain⟨L,a1,a2,a3,a4⟩:=hm;refine kk ?_;have t:A9 W h L:=.ae a1;have u:A9 W L H:=.ae a4;have D:h.get? h.objs.size=none:=Bv h;have en:h.get? (h.objs.size+1)=none:=by
  cases q:h.get? (h.objs.size+1) with
  |none=>rfl
  |some f=>exact absurd (Az q) (BC.mpr (A8 _))
 refine Ab (Dc (IZ (e:=.Call (.Name "enumerate" i) [.Name x g] [] n) rfl z _) (Ab (AL (Ab (Bk (wpAny_pyIter_enum (s:={s with heap:=H,toks:=w}) r ?_))))));have M:∀{a:Addr},h.get? a=none->N.get? a=none:=λ{a} q=>by
  exact A9.bf o.le q
 have nX:∀{a:Addr},h.get? a=none->a∉X:=λ{a} q m=>by obtain⟨f,ho⟩:=o.F.am a m;have q':h.get? a=none:=q;exact BZ q' ho
 have F2:FI W V z ((h.objs.size+1)::h.objs.size::Z) ((h.objs.size+1)::h.objs.size::X) H O:=(o.F.fresh (B.al.trans o.le) t D a2).fresh ((B.al.trans o.le).trans t) u a3 ⟨_,r⟩;have R:XS W V z N ((h.objs.size+1)::h.objs.size::Z) ((h.objs.size+1)::h.objs.size::X) {s with heap:=H,toks:=w} O:=
  ⟨F2,(o.le.trans t).trans u,o.tk,λ a ha T=>S.fr a (by
   rcases Ae.mp ha with q |q
   ·exact absurd (q▸Ac) T
   ·rcases Ae.mp q with q |q
    ·exact absurd (q▸Ad _ Ac) T
    ·exact q) λ q=>T (Ad _ (Ad _ q)),(o.fc.bd t).bd u⟩
 refine KA (h:=none) ?_;have J:RpL W ((h.objs.size+1)::h.objs.size::X) H vs.toList ds:=((rl.bc D).bc en).ac (t.trans u);exact Pi (s:={s with heap:=H,toks:=w}) B hA.handled ⟨Nat.succ_ne_self _,nX en,nX D,M en,M D,S.F.zx,S.F.ba,S.fr⟩ r y ((t.trans u).keep hl (by simp) (by simp)) a0 J Y R ev (hQ.aq ((G.trans (t.trans u)).aj) I)
end
variable {r:List Stmt} in
noncomputable def Dq (h:Heap):List Addr->Heap
 |[]=>h
 |b::r=>E2 (Dq h r) b
theorem Hi:∀{X:List Addr}{b:Addr},b∈X->(Dq c X).get? b=none
 |a::r,b,h=>by
  show(E2 (Dq c r) a).get? b=none;by_cases q:b=a
  ·subst q;exact Gz
  ·rw[Es q];exact Hi ((Ae.mp h).resolve_left q)
theorem Cr:∀{X:List Addr}{b:Addr},b∉X->(Dq h X).get? b=h.get? b:=by
 intro X;induction X with
 |nil=>
  intro b _;exact rfl
 |cons a r k=>
  intro b s;show(E2 (Dq h r) a).get? b=_;have o:b≠a:=λ q=>s (by rw[q];exact Ac);rw[Es o];exact k λ q=>s (Ad _ q)
noncomputable def Bl.ay (h:Bl)(k:Heap)(X:List Addr):Bl:={h with h0:=Dq k X}
section
theorem A9.n7 (s:A9 W W.h0 a)(O:∀b∈Y,W.h0.get? b=none)(w:A9 (W.ay a Y) h H):A9 W h H:=by
 refine⟨λ b o e=>?_,w.2⟩;rcases w.1 b o e with k |⟨n,k,Q,V⟩ |k
 ·exact .inl k
 ·refine .inr (.inl ⟨?_,k,Q,V⟩);by_cases q:b∈Y
  ·exact O b q
  ·have N:(Dq a Y).get? b=none:=n;rw[Cr q] at N;exact Dx s N
 ·exact .inr (.inr k)
theorem We:A9 (W.ay h Y) (W.ay h Y).h0 h:=.ae λ b o e=>by
 by_cases q:b∈Y
 ·have k:(Dq h Y).get? b=some o:=e;rw[Hi q] at k;cases k
 ·have k:(Dq h Y).get? b=some o:=e;rw[Cr q] at k;exact k
theorem Rp.ay (r:Rp W X h v d):Rp (W.ay a Y) X h v d:=Rp.to (W:=W) (W':=W.ay a Y) (Y:=X) (H:=h) (λ _ _ e n _=>⟨e,n⟩) (λ _ _ e n=>⟨e,n⟩) r
theorem RpL.ay (r:RpL W X h a b):RpL (W.ay c Y) X h a b:=r.map (W':=W.ay c Y) λ _ _=>Rp.ay
theorem Rp.n7 (r:Rp (W.ay a Y) X h v d):Rp W X h v d:=Rp.to (W:=W.ay a Y) (W':=W) (Y:=X) (H:=h) (λ _ _ e n _=>⟨e,n⟩) (λ _ _ e n=>⟨e,n⟩) r
end
section
variable {z:Env}
theorem Bo.ay (r:Bo W X h a d):Bo (W.ay b Y) X h a d:=Bo.to (W:=W) (W':=W.ay b Y) (Y:=X) (H:=h) (λ _ e _=>e) (λ _ e=>e) (λ _ _=>RpL.ay) r
theorem Bj.ay (r:Bj W Z X h v a):Bj (W.ay b Y) Z X h v a:=r.to (W':=W.ay b Y) (λ _ _=>Rp.ay) λ _ _ m z o=>⟨m,z,o.ay⟩
theorem FI.ay (F:FI W V z Z X h O)(k:∀a∈X,a∈Y\/b.get? a=none):FI (W.ay b Y) V z Z X h O:=
 F.same (W':=W.ay b Y) F.ba F.zx (λ _ h=>h) (λ _ _ _ _ h=>h) (λ _ _ _ _ r=>r.ay) λ a o=>⟨by
   by_cases q:a∈Y
   ·exact Hi q
   ·refine Eq.trans (Cr q) ?_;exact(k a o).resolve_left q,(F.alive a o).2⟩
theorem Gd.ay (G:Gd W s):Gd (W.ay s.heap Y) s:=⟨We,G.oz,G.toks⟩
end
theorem XJ {b:List PV}{a:Array Value}(h:a.size=b.length):a.isEmpty=b.isEmpty:=by
 obtain⟨k⟩:=a;cases k<;>cases b<;>first |rfl |cases h
theorem I4.row {a:List PV}{C:A5}(h:O.lookup x=some (.aa (.obj (.ref r))))(k:C.rw r=some a):I4 C V O (.Name x p) (!a.isEmpty):=λ c=>.mk λ Q E s S=>by
 obtain⟨o,n,w,z,H⟩:=c.Gk.row r a k;have N:s.heap.get? r=some (Fd o n):=S.G.al.keep w (by simp) (by simp);refine S.og (.of λ Q E W=>wpAny_isTrue_value (S.F.name h λ v Z=>?_));obtain rfl:v=.ref r:=Z.ah;refine wpAny_truthy_list ⟨_,N,rfl,_,rfl⟩ (Cf (ET.mpr z) (by decide+kernel)) (W _ _ _ (.refl _) (congrArg (!·) (XJ H)))
noncomputable abbrev V3 (rw:Addr->Option (List PV)):A5:=⟨λ _=>none,λ _=>none,rw⟩
noncomputable abbrev HV:A5:=V3 λ _=>none
section
variable {A:Around}{C:A5}
theorem SU {m:Str->Option Value}(w:W.h0.Ns a m)(k:A9 W W.h0 h)(A:∀b∈Y,W.h0.get? b=none):(Dq h Y).Ns a m:=by
 obtain⟨o,C,H,N,r⟩:=Co k w;obtain⟨O,_,_,s,_⟩:=w;refine⟨o,C,H,?_,r⟩;rw[Cr λ q=>by rw[A _ q] at s;cases s];exact N
theorem Dt.ay (G:Dt W C k mg mb)(s:A9 W W.h0 h)(H:∀b∈Y,W.h0.get? b=none){rw:Addr->Option (List PV)}(V:∀r A,rw r=some A->r∉Y/\∃w n,h.get? r=some (Fd w n)/\w.size<=Bf/\w.size=A.length:=by exact λ _ _ q=>nomatch q):Dt (W.ay h Y) (V3 rw) k mg mb where
 g:=SU G.g s H
 b:=SU G.b s H
 blt:=G.blt
 uq:=G.uq
 uk:=by
  obtain⟨o,N⟩:=G.uk;obtain⟨Q,O⟩:=Bc s ⟨o,N⟩;refine⟨Q,?_⟩;show(Dq h Y).get? sysModules=some Q;rw[Cr λ q=>by rw[H _ q] at N;cases N];exact O
 aa:=λ x d q=>nomatch q
 fn:=λ x g q=>nomatch q
 row:=λ r A q=>by obtain⟨Z,w,n,a,c⟩:=V r A q;exact⟨w,n,(Cr Z).trans a,c⟩
end
section
variable {A:Around}{C:A5}{z:Env}{E:B3}
theorem jU {rs:List Addr}(Y:Dt W C k mg mb)(R:Cc k A)(B:XB W V z N)(S:XS W V z N Z X s O){c:Addr->List PV}(hr:∀r∈rs,r∉X/\∃w n,s.heap.get? r=some (Fd w n)/\w.size<=Bf/\w.size=(c r).length)
 {e:Pos} (hx:O.lookup x=some (.aa (.list (rs.map λ r=>.obj (.ref r))))) (H:AI V x=true) (u:Dm V d=true) (v:swapsWithSole [.Name x g] (.ListComp (.Name y i) [⟨.Name y j,.Name x p,[.Name y t],0⟩] d f) e.line z=pure true)
 (hy:AI d y=true) (I:(BD d O).lookup y=none) (J:rs.length<=Bf) {Q:Flow->Shared->Prop}
 (hQ:GT W V z N Z X s (.next (AN O x (.aa (.list ((rs.filter λ r=>!(c r).isEmpty).map λ r=>.obj (.ref r)))))) Q):
 wpAny W.M A (exec (.Assign [.Name x g] (.ListComp (.Name y i) [⟨.Name y j,.Name x p,[.Name y t],0⟩] d f) e) z) Q E s:=by
 have U:∀b∈X,W.h0.get? b=none:=λ b N=>(S.F.alive b N).1;have G:=S.gd B
 let rw:=λ r=>if r∈rs then some (c r) else none
 have Gr:=Y.ay G.al U (rw:=rw) λ r xs q=>by
  obtain⟨hq,rfl⟩:=IE (q);exact hr r hq
 have F':FI (W.ay s.heap X) V z Z X s.heap O:=S.F.ay λ a ha=>.inl ha;have T:Cu (V3 rw) V O (.ListComp (.Name y i) [⟨.Name y j,.Name x p,[.Name y t],0⟩] d f) (.list ((rs.filter λ r=>!(c r).isEmpty).map λ r=>.obj (.ref r))):=
  .T (g:=λ r=>.obj (.ref r)) _ _ (.list (.aa hx) rfl) u (by show((BD d O).lookup y).isNone&&true=true;rw[I];rfl) (λ r L=>⟨(y,.aa (.obj (.ref r)))::BD d O,if_pos hy,.bp (.row An (if_pos L)),λ _=>.aa An⟩) J
 obtain⟨a0,h1,h2,_,h⟩:=T;refine Ab (AL (Ab (Dc v (H6 (MR (Ab ?_))))));rw[h2];exact Ab (C5 (h ⟨W.ay s.heap X,A,z,Z,X,_,mg,mb,Gr,R⟩ s F' G.ay _ (λ _ o=>Q .next o) E λ D a1 h' tk m _ hV M l I r=>Mp (t:=.Name x g) (d:=.list ((rs.filter λ r=>!(c r).isEmpty).map λ r=>.obj (.ref r))) B S R.handled (if_pos H) hQ hV (A9.n7 G.al U M) l I (Rp.n7 r)) (λ _ _ h=>Ag (Ag h)) λ _ _ x=>x)
end
section
variable {C:A5}
theorem Ul (h:O.lookup x=some (.aa d)):Oe C V O x=some d:=congrArg (Option.elim · _ N4) h
theorem MD (h:O.lookup x=some (.nn v d)):Oe C V O x=some d:=congrArg (Option.elim · _ N4) h
theorem Fr (h:AI V x=true):EO V (.Name x q) d O=some (AN O x (.aa d)):=by
 show(if AI V x=true then some (AN O x (.aa d)) else none)=_;rw[if_pos h]
theorem jI:Dd (.list (y::a)) (.int 0)=some y:=by
 have h:seqIndex? 0 (a.length+1)=some 0:=by
  unfold seqIndex?;simp
 show(if NQ 0=true then(seqIndex? 0 (a.length+1)).bind _ else none)=_;rw[h];rfl
end
variable {g:Array GenState}{l:List Env} in
inductive BM (W:Bl)(h:Heap)(r:Addr)(c:List Str):Prop
 |mk (vs0:Array Value) (n0:Nat) (g:h.get? r=some (Fd vs0 n0)) (z:vs0.size<=Bf) (l:RpL W [] h vs0.toList (c.map .str))
section
variable {A:Around}{E:B3}{z:Env}{C:A5}
noncomputable def bW (o:Bl)(A:Scope)(h:Env)(C X:List Addr)(w:Heap)(E:AM)(H N:List Addr)(O:Heap)(k:AM):Prop:=∀x z,k.lookup x=some z->∃s,E.lookup x=some s/\∀v,DP A h w x v->Bj o C X w v s->Bj o H N O v z
theorem FI.re (F:FI W V z Z X h O)(q:∀a∈Ay z,a∈g)(t:∀a∈g,a∈j)(u:∀a∈j,W.h0.get? a=none/\∃o,H.get? a=some o)(hk:∀a∈Ay z,H.get? a=h.get? a)
 (C:bW W V z Z X h O g j H b) (B:∀x y d e,b.lookup x=some (.own d)->b.lookup y=some (.own e)->x=y):FI W V z g j H b:=
 {F with
  ba:=q
  zx:=t
  alive:=u
  nr:=B
  ns:=by
   obtain⟨m,Q,E⟩:=F.ns;refine⟨m,?_,λ x k l w=>?_⟩
   ·obtain⟨o,D,G,N,r⟩:=Q;exact⟨o,D,G,(hk _ Ac).trans N,r⟩
   ·obtain⟨s,A,f⟩:=C x k w;obtain⟨v,e,r⟩:=E x s l A;exact⟨v,e,f v (.inl ⟨l,m,Q,e⟩) r⟩
  cell:=λ x n=>by
   obtain⟨c,I,e,i,E⟩:=F.cell x n;refine⟨c,I,e,?_,λ k w=>?_⟩
   ·obtain⟨o,N,J⟩:=i;exact⟨o,(hk _ (BP e)).trans N,J⟩
   ·obtain⟨s,A,f⟩:=C x k w;obtain⟨v,p,r⟩:=E s A;exact⟨v,p,f v (.inr ⟨n,c,e,p▸i⟩) r⟩
  o6:=λ x k w=>by obtain⟨s,A,_⟩:=C x k w;exact F.o6 x s A}
theorem bW.nil:bW W V z Z X h O a b H []:=λ y k e=>by contradiction
theorem bW.cons (k:O.lookup x=some sl)(f:∀v,DP V z h x v->Bj W Z X h v sl->Bj W c d H v b)(r:bW W V z Z X h O c d H a):bW W V z Z X h O c d H ((x,b)::a):=λ y o e=>by
 by_cases q:y=x
 ·subst q;rw[An] at e;injection e with e;exact⟨sl,k,e▸f⟩
 ·rw[Ar q] at e;exact r y o e
theorem bW.same (k:O.lookup x=some b)(r:bW W V z Z X h O Z X h a):bW W V z Z X h O Z X h ((x,b)::a):=.cons k (λ _ _ r=>r) r
theorem XS.pu (S:XS W V z N Z (a::Z) s O)(l:O.lookup x=some (.own d)):DP V z s.heap x (.ref a)/\Bo W (a::Z) s.heap a d:=by
 obtain⟨C,h,A,rfl,o,k,w⟩:=S.F.at l;obtain rfl:A=a:=(Ae.mp o).resolve_right k;exact⟨h,w⟩
theorem Kb (x:Str){l:AM}(h:l.all (λ p=>!cP p.2||p.1==x)=true):∀y z d e,l.lookup y=some (.own d)->l.lookup z=some (.own e)->y=z:=by
 have k:∀y d,l.lookup y=some (.own d)->y=x:=λ y d e=>BB (AE.mp h _ (mem_of_lookup e));exact λ y z d e a b=>(k y d a).trans (k z e b).symm
theorem cG (r:Rp W X h v (.str d)):Rp c Y H v (.str d):=by obtain⟨t,rfl,a,b⟩:=r.ah;exact .str _ _ a b
theorem RpL.s5 (r:RpL W X h e b):(∀v d,d∈b->Rp W X h v d->Rp c Y H v d)->RpL c Y H e b:=r.br (P:=λ e b=>(∀v d,d∈b->Rp W X h v d->Rp c Y H v d)->RpL c Y H e b) (λ _=>.nil) λ v _ d _ a _ i f=>.cons (f v d Ac a) (i λ v d q=>f v d (Ad _ q))
theorem Gu {c:List Str}(r:RpL W X h e (c.map .str)):RpL b Y H e (c.map .str):=r.s5 λ v d q a=>by
 obtain⟨s,_,rfl⟩:=Al.mp q;exact cG a
theorem BM.ex {c:List Str}(x:BM W h r c):∃k n,h.get? r=some (Fd k n)/\k.size<=Bf/\k.toList.length=(c.map PV.str).length:=by
 obtain⟨k,n,e,z,l⟩:=x;exact⟨k,n,e,z,l.length⟩
theorem BM.keep (x:BM W h r c)(k:∀o,h.get? r=some o->Dy o->H.get? r=some o):BM W H r c:=
 by obtain⟨s,n,e,z,l⟩:=x;exact⟨s,n,k _ e (.inl rfl),z,Gu l⟩
theorem BM.bd (x:BM W h r c)(k:A9 W h H):BM W H r c:=x.keep λ o e d=>CG k e d
theorem BM.own (x:BM W h r c):Bo W X h r (.list (c.map .str)):=by obtain⟨k,n,e,z,l⟩:=x;exact⟨k,n,e,z,Gu l⟩
theorem BM.rp (x:BM W h r c)(k:r∉X):Rp W X h (.ref r) (.list (c.map .str)):=by obtain⟨o,n,e,z,l⟩:=x;exact .list e k z (Gu l)
theorem BM.of (x:Bo W X h r (.list (c.map .str))):BM W h r c:=by obtain⟨k,n,e,z,l⟩:=x;exact⟨k,n,e,z,Gu l⟩
theorem BM.some (x:BM W h r c):∃o,h.get? r=some o/\Dy o/\o.cls=.type "list":=by obtain⟨k,n,e,z,l⟩:=x;exact⟨_,e,.inl rfl,rfl⟩
noncomputable def Iv (x:Str)(l:List Str):List Str:=if l.head? =some x then l.tail else l
theorem Mz:∀(l:List Addr),RpL W X h (l.map Value.ref) (l.map λ r=>PV.obj (.ref r)):=by
 intro l;induction l with
 |nil=>
  exact .nil
 |cons r l k=>
  exact .cons (.obj _) (k)
theorem Sa {P:Addr->Prop}(F:FI W V z Z X h O)(A:CZ z h)(w:∀b o,h.get? b=some o->¬P b->H.get? b=some o)(hP:∀a∈Ay z,¬P a):∀a∈Ay z,H.get? a=h.get? a:=λ a k=>by
 obtain⟨_,o,s⟩:=F.alive a (F.zx _ (F.ba a k));simp only[s,w a o s (hP a k)]
theorem XM (Gk:Dt W C k mg mb)(hA:Cc k A)(B:XB W V z N)(S:XS W V z N Z X s O)(h1:O.lookup ("seq":Str)=some (.own (.list ((y::ys).map .str))))(h2:O.lookup ("candidate":Str)=some (.aa (.str x)))
 (hv:DP V z s.heap "seq" (.ref r)) (hX:r∈X) (hZ:r∉Z) {j:Flow->Shared->Prop}
 (hQ:∀h' tk,XS W V z N Z X {s with heap:=h',toks:=tk} (AN O "seq" (.own (.list ((Iv x (y::ys)).map .str))))->BM W h' r (Iv x (y::ys))->(∀b o,b≠r->s.heap.get? b=some o->o.cls≠.type "frame"->o.cls≠.none->h'.get? b=some o)->s.toks<=tk->j .next {s with heap:=h',toks:=tk}):
 wpAny W.M A (exec (.If (.Compare (.Subscript (.Name "seq" u) (.Constant (.int 0) i D) g) [.Eq] [.Name "candidate" G] I) [.Delete [.Subscript (.Name "seq" J) (.Constant (.int 0) p m) c] d] [] f) z) j E s:=by
 have e1:I4 C V O (.Compare (.Subscript (.Name "seq" u) (.Constant (.int 0) i D) g) [.Eq] [.Name "candidate" G] I) (decide (y=x)):=.an (.sub (.own h1) .int (λ _ _=>rfl) jI) (.aa h2) rfl rfl;refine J1 (e1.at Gk hA S.F (S.gd B) _ _ λ b' R L T U a9=>?_);subst a9;have h:=S.ac T U;have M:=hv.ac T;have w:Bo W X R r (.list ((y::ys).map .str)):=by
  obtain⟨v,b0,r'⟩:=h.F.at h1;obtain⟨a,rfl,_,_,o⟩:=r';have:=b0.pf M;cases this;exact o
 by_cases q:y=x
 ·subst q;rw[if_pos (by simp)];have Y:Iv y (y::ys)=ys:=by unfold Iv;simp
  rw[Y] at hQ;refine Aj (wpAny_Delete (wpAny_deleteEach_cons ?_));refine wpAny_delete_Subscript (FI.ms (s:={s with heap:=R,toks:=L}) h.F h1 M ?_);refine(CE.int (C:=C)).at (s:={s with heap:=R,toks:=L}) Gk hA h.F (h.gd B) _ _ λ iv a4 H Q a5 ri=>?_;obtain⟨t,rfl⟩:=ri.ah
  ·have a6:=h.ac Q a5;obtain⟨vs,n,e,b3,l⟩:=w.ac Q;have hz:vs.toList.length=ys.length+1:=by have:=l.length;simpa using this
   have b1:vs.size=ys.length+1:=by simpa using hz
   refine delItem_at (s:={s with heap:=a4,toks:=H}) (k:=0) e (by decide+kernel) (by rw[b1];unfold seqIndex?;simp) (λ a0 hs ho=>?_) (Aa b3 DX);have a7:BM W a0 r ys:=by
    refine⟨_,n+1,ho,?_,?_⟩
    ·show(vs.toList.eraseIdx 0).toArray.size<=Bf;have:(vs.toList.eraseIdx 0).length<=vs.toList.length:=List.length_eraseIdx_le _ _;have b4:vs.toList.length=vs.size:=by rfl
     simp;omega
    ·skip
     cases a1:vs.toList with
     |nil=>(first |exact BZ a1 hz |obtain rfl:=AF a1 hz |cases Eq.trans (Eq.symm a1) hz |(rw[a1] at hz;contradiction))
     |cons a b=>
      rw[a1] at l;exact Gu l.qu.2
   have a8:XS W V z N Z X {s with heap:=a0,toks:=H} (AN O "seq" (.own (.list (ys.map .str)))):=by
    refine XS.n8 (s:={s with heap:=a4,toks:=H}) a6 h1 (M.ac Q) hs hX hZ (G3 (w.ac Q)) a7.own (Ah _)
   refine wpAny_deleteEach_nil (Bd (hQ a0 H a8 a7 (λ b o b2 ho a2 a3=>?_) (Aa U a5)));exact(hs.2 b b2).trans (Q.keep (T.keep ho a2 a3) a2 a3)
 ·rw[if_neg (by simpa using q)];have Y:Iv x (y::ys)=y::ys:=by unfold Iv;simp[q]
  rw[Y] at hQ;refine Bd (hQ R L ?_ (BM.of w) (λ b o _ ho a2 a3=>T.keep ho a2 a3) U);refine h.au λ b3 sl hz=>?_;rw[Ba] at hz;split at hz
  ·rename_i q';rw[q',h1];exact hz
  ·exact hz
end
section
variable {A:Around}{E:B3}{z:Env}{C:A5}
noncomputable def WN (a h:Addr)(x:Str)(k:AM):AM:=("result",.ao (.ref a))::("sequences",.ao (.ref h))::("candidate",.aa (.str x))::k
noncomputable def kF (k:List Str)(h:List PV):AM:=[("result",.own (.list (k.map .str))),("sequences",.aa (.list h))]
noncomputable def Er (l:List Addr):List PV:=l.map λ r=>PV.obj (.ref r)
noncomputable def Pu (c:Addr->List Str)(x:Str)(done:List Addr)(r:Addr):List Str:=if r∈done then Iv x (c r) else c r
variable {i n tk:Nat}{l:List Env}{st:Stmt} in
inductive qO (W:Bl)(sc:Scope)(env:Env)(hb:Heap)(Z X:List Addr)(ρ:AM)(St Inv:Nat->Heap->Prop)(m:Nat)(s:Shared):Nat->Shared->Prop
 |mk {n:Nat} {H:Heap} {tk i:Nat} (hi:i<=m) (hn:n=m-i) (st:St i H) (S:XS W sc env hb Z X {s with heap:=H,toks:=tk} ρ) (iv:Inv i H) (l:s.toks<=tk):qO W sc env hb Z X ρ St Inv m s n {s with heap:=H,toks:=tk}
theorem XN {a:Addr}{g:List Addr}{Y U q3 q4 q6 q7 q8:Pos}(Gk:Dt W C k mg mb)(hA:Cc k A)(B:XB W V z N){f:List Addr}{c:Addr->List Str}{x:Str}{out:List Str}{m:Addr}{G:Nat}{d:PV}(S:XS W V z N Z (a::Z) s O)(e6:a∉Z)
 (l1:O.lookup ("result":Str)=some (.own (.list (out.map .str)))) (l2:O.lookup ("candidate":Str)=some (.aa (.str x))) (l3:O.lookup ("sequences":Str)=some (.nn (.ref m) d))
 (hL:s.heap.get? m=some (Fd (f.map Value.ref).toArray G)) (e7:f.length<=Bf) (a9:∀r∈g,W.h0.get? r=none/\N.get? r=none/\r∉a::Z/\BM W s.heap r (c r)) (e8:∀r∈f,r∈g) (h5:f.Nodup) (e9:m∉g) (c6:m∉a::Z) (h6:∀r∈f,c r≠[])
 (h7:V.names.lookup ("seq":Str)=some .local) {L M p t u D:Pos} {R T:Nat} {J:Flow->Shared->Prop}
 (hQ:∀h' tk,XS W V z N Z (a::Z) {s with heap:=h',toks:=tk} (kF out (Er f))->(∀r∈g,BM W h' r (Pu c x f r))->s.toks<=tk->J .next {s with heap:=h',toks:=tk}):
 wpAny W.M A (exec (.For (.Name "seq" Y) (.Name "sequences" U) [.If (.Compare (.Subscript (.Name "seq" q3) (.Constant (.int 0) R q4) L) [.Eq] [.Name "candidate" q6] q7) [.Delete [.Subscript (.Name "seq" q8) (.Constant (.int 0) T M) p] t] [] u] [] D) z) J E s:=by
 have f0:∀b∈Z,b∈a::Z:=λ b N=>Ad _ N;obtain⟨f1,f2⟩:=S.pu l1;have j4:∀b∈Ay z,b∉g:=λ b N hr=>(a9 b hr).2.2.1 (S.F.zx _ (S.F.ba b N));have h8:AI V "seq"=true:=EY h7 (by decide+kernel);have f3:a∉g:=λ q=>(a9 a q).2.2.1 Ac
 let b0:AM:=WN a m x []
 have F0:FI W V z Z (g++a::Z) s.heap b0:=by
  refine S.F.re S.F.ba (λ b N=>At _ (f0 b N)) (λ b N=>?_) (λ _ _=>rfl)
   (.cons l1 (λ v hv _=>hv.pf f1) (.cons l3 (λ v _ r=>r.1) (.cons l2 (λ v _ r=>cG r) .nil))) (Kb "" rfl)
  rcases Ao.mp N with q |q
  ·obtain⟨o,ho,_⟩:=(a9 b q).2.2.2.some;exact⟨(a9 b q).1,o,ho⟩
  ·exact S.F.alive b q
 have S0:XS W V z N Z (g++a::Z) s b0:=⟨F0,S.le,S.tk,λ b N hz=>by
  rcases Ao.mp N with q |q
  ·exact(a9 b q).2.1
  ·exact S.fr b q hz,S.fc⟩
 refine Ab (AL (Ab (FI.ao F0 (x:="sequences") (v:=.ref m) (by kernel_rfl) (Ab (Dc (IZ (e:=.Name "sequences" U) rfl z _) (Ab (AL (Ab (Bk ?_)))))))));have h9:Rp W (g++a::Z) s.heap (.ref m) (.list (Er f)):=.list hL (λ q=>(Ao.mp q).elim e9 c6) (by simpa using e7) (by
  show RpL W _ _ (f.map Value.ref).toArray.toList _;exact Mz f)
 refine E0 (s:=s) (.list h9) λ I b8 hI i0 c7 i1=>?_;have b6:I∉g++a::Z:=λ q=>by obtain⟨o,ho⟩:=S0.F.am I q;exact BZ hI ho
 have f4:N.get? I=none:=by
  exact A9.bf S.le hI
 have b4:A9 W s.heap b8:=.ae c7;obtain⟨St,i2,b1⟩:=ND.of (A:=A) (i1 b6) Ac hA.handled;refine KA (h:=none) ?_;simp only[K5];have c8:I∉Ay z:=λ q=>b6 (At _ (S.F.zx _ (S.F.ba _ q)));have f5:XS W V z N (I::Z) (I::(g++a::Z)) {s with heap:=b8,toks:=s.toks} b0:=
  ⟨S0.F.fresh (B.al.trans S.le) b4 hI i0,S.le.trans b4,S.tk,λ b N hz=>S0.fr b ((Ae.mp N).resolve_left λ q=>hz (q▸Ac)) λ q=>hz (Ad _ q),S.fc.bd b4⟩
 have i3:a≠I:=λ q=>b6 (q▸At _ Ac);have i4:m≠I:=λ q=>by simp only[q,hI] at hL;contradiction
 refine C6 λ gg kk=>?_;obtain⟨oa,f6,f7,i5⟩:=(BM.of f2).some;refine kk ?_
 let Inv (i:Nat) (h:Heap):Prop:=h.get? a=some oa/\h.get? m=some (Fd (f.map Value.ref).toArray G)/\∀r∈g,BM W h r (Pu c x (f.take i) r)
 have c4:Inv 0 b8:=⟨c7 _ _ f6,c7 _ _ hL,λ r hr=>by
  have:Pu c x (f.take 0) r=c r:=by unfold Pu;rw[List.take_zero,if_neg (by exact AU)]
  exact(a9 r hr).2.2.2.bd b4⟩
 have b9:∀{i:Nat}{h h':Heap},Inv i h->(∀b o,b=a\/b=m\/b∈g->h.get? b=some o->Dy o->h'.get? b=some o)->Inv i h':=λ{i h h'} v kk=>
  ⟨kk _ _ (.inl rfl) v.1 f7,kk _ _ (.inr (.inl rfl)) v.2.1 (.inl rfl),λ r hr=>(v.2.2 r hr).keep λ o e d=>kk _ _ (.inr (.inr hr)) e d⟩
 refine HK (qO W V z N (I::Z) (I::(g++a::Z)) b0 St Inv (Er f).length s) (λ n s' f8=>Jb λ Q' E' gQ gE=>?_) (Er f).length (.mk (AP _) rfl i2 f5 c4 (Ah _));induction f8 with |@mk h' tk i hi hn st S' iv l=>
 obtain⟨oI,f9,g0,g3,i6,i7⟩:=b1.mu _ _ st;have c9:∀{b},C3 V z b->b∈Z:=λ{b} q=>S0.F.wr q;have d0:∀{b},b=a\/b=m\/b∈g->b≠I:=λ{b} q q'=>by
  rcases q with q |q |q
  ·exact i3 (q▸q')
  ·exact i4 (q▸q')
  ·exact b6 (AO _ (q'▸q))
 have i8:∀{b},b=a\/b=m\/b∈g->¬C3 V z b:=λ{b} q w=>by
  have:=c9 w;rcases q with q |q |q
  ·exact e6 (q▸this)
  ·exact c6 (Ad _ (q▸this))
  ·exact(a9 b q).2.2.1 (Ad _ this)
 by_cases c1:i<(Er f).length
 ·have a5:i<f.length:=by simpa[Er] using c1
  have hx:(Er f)[i]? =some (.obj (.ref f[i])):=by rw[Aw,AW a5];rfl
  refine BG (n:=tk) (Ah _) (b1.item i {s with heap:=h',toks:=tk} _ _ _ st hx λ v a0 Q rv a6 a1 c0=>gQ _ _ ?_);clear gQ gE Q' E';refine Jb λ Q' E' gQ gE=>?_;have a2:tk<=Q:=c0;generalize hr:f[i]=r at rv;have g4:r∈f:=hr▸Ge a5;have b7:=e8 r g4;have ev:v=.ref r:=rv.ah
  (try clear rv;try clear hx;try clear w;try clear q';try clear i7;try clear i6;try clear s';try clear f8;try clear kk;try clear h;try clear c4;try clear i5)
  subst ev;have c2:∃o,a0.get? I=some o:=by obtain⟨o,ho,_⟩:=b1.mu _ _ a6;exact⟨o,ho⟩
  have g5:XS W V z N (I::Z) (I::(g++a::Z)) {s with heap:=a0,toks:=Q} b0:=XS.pk (s:={s with heap:=h',toks:=tk}) S' Ac c8 f4 ⟨oI,f9,g0,g3⟩ a1 c2 a2;have a3:Inv i a0:=b9 iv λ b o q e _=>a1 b o (d0 q) e;refine b1.ou (i+1) {s with heap:=a0,toks:=Q} _ _ _ _ a6 (gQ _ _ ?_);clear gQ gE Q' E';refine Jb λ Q' E' gQ gE=>?_;refine XS.pg B g5 (x:="seq") (sl:=.ao (.ref r)) h8 rfl (λ d q=>(by contradiction)) λ a4 d5 H b2 g6=>gQ _ _ ?_;clear gQ gE Q' E';refine Jb λ Q' E' gQ gE=>?_;have a7:Inv i a4:=b9 a3 λ b o q e _=>b2.keep b o (i8 q) e;have g7:BM W a4 r (c r):=by
   have:=a7.2.2 r b7;have e:Pu c x (f.take i) r=c r:=by
    unfold Pu;rw[if_neg];intro hm;obtain⟨j,hj,ej⟩:=List.mem_iff_getElem.mp hm;rw[List.getElem_take] at ej;have g8:j<i:=AJ (ED▸hj) (Eg ..);exact List.pairwise_iff_getElem.mp h5 j i (Cn g8 a5) a5 g8 (ej.trans hr.symm)
   rwa[e] at this
  obtain⟨y,ys,g9⟩:∃y ys,c r=y::ys:=by
   cases q:c r with
   |nil=>exact absurd q (h6 r g4)
   |cons y ys=>exact⟨y,ys,rfl⟩
  let h0:AM:=WN a m x [("seq",.own (.list ((y::ys).map .str)))]
  have e4:AN b0 "seq" (.ao (.ref r))=WN a m x [("seq",.ao (.ref r))]:=by kernel_rfl
  have i9:DP V z a4 "seq" (.ref r):=by
   refine C6 λ gg kk=>?_;obtain⟨v,hv,rr⟩:=H.F.at (x:="seq") (sl:=.ao (.ref r)) (by kernel_rfl);refine kk ?_;have:v=.ref r:=rr;exact(this)▸hv
  have d6:r∉I::Z:=λ q=>by
   rcases Ae.mp q with q |q
   ·exact d0 (.inr (.inr b7)) q
   ·exact(a9 r b7).2.2.1 (Ad _ q)
  have d7:r∈I::(g++a::Z):=Ad _ (AO _ b7);have h1:XS W V z N (I::Z) (I::(g++a::Z)) {s with heap:=a4,toks:=d5} h0:=by
   exact⟨H.F.re H.F.ba H.F.zx H.F.alive (λ _ _=>rfl) (.same (by kernel_rfl) (.same (by kernel_rfl) (.same (by kernel_rfl) (.cons (sl:=.ao (.ref r)) (by kernel_rfl) (λ v _ rr=>⟨r,rr,d7,d6,g9▸g7.own⟩) .nil)))) (Kb "seq" rfl),H.le,H.tk,H.fr,H.fc⟩
  refine JQ λ K1 n1 o1=>(XM (y:=y) (ys:=ys) (x:=x) Gk hA B h1 (by kernel_rfl) (by kernel_rfl) i9 d7 d6 λ b5 d8 c5 c3 b3 h2=>n1 _ (Bd (gQ _ _ ?_)));clear n1 o1 K1 gQ gE Q' E';rw[(by kernel_rfl:AN h0 "seq" (.own (.list ((Iv x (y::ys)).map .str)))=WN a m x [("seq",.own (.list ((Iv x (y::ys)).map .str)))])] at c5;have h3:XS W V z N (I::Z) (I::(g++a::Z)) {s with heap:=b5,toks:=d8} b0:=(show b0=Ci ["result","sequences","candidate"] (WN a m x [("seq",.own (.list ((Iv x (y::ys)).map .str)))]) by kernel_rfl)▸c5.au CP;obtain⟨oJ,h4,d1,d2,d3,d4⟩:=b1.mu _ _ a6;have a8:a4.get? I=some oJ:=b2.keep I oJ (λ q=>by
   have:=c9 q;exact b6 (At _ (Ad _ this))) h4
  have d9:St (i+1) a4:=b1.frame _ _ _ a6 (λ o ho=>by obtain rfl:=AF h4 ho;exact a8) λ b o e0 ho hd=>b2.keep b o (λ q=>e0 (Ad _ (At _ (Ad _ (c9 q))))) ho;have e1:St (i+1) b5:=b1.frame _ _ _ d9 (λ o ho=>by obtain rfl:=AF a8 ho;exact b3 I _ (λ q=>d6 (q▸Ac)) a8 d3 d1) λ b o e0 ho hd=>b3 b o (λ q=>e0 (q▸d7)) ho (by rcases hd with hd |hd |hd<;>rw[hd]<;>simp) (by rcases hd with hd |hd |hd<;>rw[hd]<;>simp);have e2:Inv (i+1) b5:=by
   have kd:∀b o,b≠r->a4.get? b=some o->Dy o->b5.get? b=some o:=λ b o j0 e hd=>b3 b o j0 e (by rcases hd with hd |hd |hd<;>rw[hd]<;>simp) (by rcases hd with hd |hd |hd<;>rw[hd]<;>simp);refine⟨kd _ _ (λ q=>f3 (q▸b7)) a7.1 f7,kd _ _ (λ q=>e9 (q▸b7)) a7.2.1 (.inl rfl),λ r' j1=>?_⟩;by_cases q:r'=r
   ·subst q;have:Pu c x (f.take (i+1)) r'=Iv x (y::ys):=by
     unfold Pu;rw[if_pos,g9];rw[List.take_succ_eq_append_getElem a5];exact At _ (by rw[hr];exact BI.mpr rfl)
    rw[this];exact c3
   ·have:Pu c x (f.take (i+1)) r'=Pu c x (f.take i) r':=by
     unfold Pu;rw[List.take_succ_eq_append_getElem a5,hr];by_cases e5:r'∈f.take i
     ·rw[if_pos e5,if_pos (AO _ e5)]
     ·rw[if_neg e5,if_neg (λ z'=>(Ao.mp z').elim e5 λ z'=>q (BI.mp z'))]
    rw[this];exact(a7.2.2 r' j1).keep λ o e d=>kd _ _ q e d
  exact⟨n-1,nK hn c1,.mk c1 (eL hn) e1 h3 e2 (Aa l (Aa a2 (Aa g6 h2)))⟩
 ·have j2:i=(Er f).length:=eO hi c1;subst j2;refine BG (n:=tk) (Ah _) (b1.done {s with heap:=h',toks:=tk} _ _ st λ a0 Q a1 c0=>gQ _ _ (Bd ?_));have a2:tk<=Q:=c0;have a3:Inv (Er f).length a0:=b9 iv λ b o q e _=>a1 b o (d0 q) e;have e3:∀r∈g,BM W a0 r (Pu c x f r):=λ r hr=>by
   have:=a3.2.2 r hr;rwa[show f.take (Er f).length=f by rw[Af,List.take_length]] at this
  refine hQ a0 Q ?_ e3 (Aa l a2);obtain⟨vs,n,e,e5,l⟩:=BM.of f2;have:oa=Fd vs n:=by rw[f6] at e;injection e
  refine⟨S'.F.re S.F.ba f0 (λ b N=>⟨(S.F.alive b N).1,?_⟩) (Sa (P:=λ b=>b=I) S'.F S'.fc (λ b o e q=>a1 b o q e) λ b N q=>c8 (q▸N)) (.cons (sl:=.ao (.ref a)) (by kernel_rfl) (λ v _(rr:v=.ref a)=>⟨a,rr,Ac,e6,vs,n,by rw[a3.1,this],e5,Gu l⟩) (.cons (sl:=.ao (.ref m)) (by kernel_rfl) (λ v _(rr:v=.ref m)=>rr▸.list a3.2.1 c6 (by simpa using e7) (Mz f)) .nil)) (Kb "result" rfl),S'.le.ext f4 (λ o vs ho hd=>?_) a1,Aa S'.tk a2,S.fr,S'.fc.at λ o ho=>a1 _ o (λ q=>c8 (q▸Ac)) ho⟩
  ·obtain⟨o,ho⟩:=(S'.F.alive b (Ad _ (At _ N))).2;exact⟨o,a1 b o (λ q=>b6 (q▸At _ N)) ho⟩
  ·have j3:h'.get? I=some o:=ho;obtain rfl:=AF f9 j3;exact⟨g0,g3⟩
end
theorem PZ (h:List PV)(lo k st:Option Int)(o:sliceRange (sliceBounds lo k st h.length).1 (sliceBounds lo k st h.length).2.1 (sliceBounds lo k st h.length).2.2=js):Iw h lo k st=js.filterMap (h[·]?):=by
 unfold Iw;rw[o]
theorem Ob {b:Type}(h:List b)(a k:Nat):((List.range k).map (a+·)).filterMap (h[·]?)=(h.drop a).take k:=by
 have:=pick_run h.toArray a k;simpa using this
theorem RG (h:List PV)(a:Nat):Iw h (some (a:Int)) none none=h.drop a:=by
 have e:sliceBounds (some (a:Int)) none none h.length=(((min a h.length:Nat):Int),(h.length:Int),1):=by
  simp only[sliceBounds,Option.getD_none];simp only[Zh,if_false,show(1:Int)>0 by decide,if_true];congr 1;exact Oy ..
 rw[PZ h _ _ _ (js:=(List.range (h.length-min a h.length)).map (min a h.length+·)) (by rw[e];exact sliceRange_one _ _),Ob]
 by_cases q:a<=h.length
 ·rw[Fg q,Cj (by rw[EE];exact Ah _)]
 ·have q:=Nat.le_of_not_le q;rw[I8 q,Dp (Ah _),Dp q,List.take_nil]
theorem PP (h:List PV)(a:Nat)(k:h.length<=Bf):Cz (.list h) (some (a:Int)) none none=some (.list (h.drop a)):=by
 unfold Cz;simp only[RG];rw[Mh ⟨by simp,EE▸Aa (CY ..) k⟩]
theorem Us:∀(l:List Str)(n:Nat),lvlL n (l.map .str)=true:=by
 intro l;induction l with
 |nil=>
  intro n;cases n<;>rfl
 |cons x l h=>
  intro n;have:=h n;cases n<;>(rw[A0,lvlL,this];rfl)
theorem aJ (a b:Str):PyData.eqv (.str a) (.str b)=decide (a=b):=rfl
theorem Rl:∀l:List Str,toPyL (l.map .str)=l.map PyData.str:=by
 intro l;induction l with
 |nil=>
  exact rfl
 |cons x l h=>
  rw[A0,toPyL,h];rfl
theorem Yb (x:Str):∀l:List Str,((l.map PyData.str).any λ y=>PyData.eqv y (.str x))=l.contains x:=by
 intro l;induction l with
 |nil=>
  exact rfl
 |cons y l h=>
  rw[A0,List.any_cons,h,aJ,Hp];congr 1;by_cases q:y=x
  ·subst q;simp
  ·rw[decide_eq_false q]
   symm;simpa using λ e:x=y=>q e.symm
theorem Xg (x:Str)(l:List Str):Vr (.str x) (.list (l.map .str))=some (l.contains x):=by
 unfold Vr;have:(O7 6 (.str x)&&lvlL 6 (l.map .str))=true:=by rw[Us];rfl
 simp only[this,if_true,Rl];show some ((l.map PyData.str).any λ y=>PyData.eqv y (.str x))=_;rw[Yb]
noncomputable def lG (P:Nat->Pos)(K:Nat->Nat):Stmt:=.If (.Compare (.Name "candidate" (P 9)) [.In] [.Subscript (.Name "s2" (P 10)) (.Slice (some (.Constant (.int 1) (K 1) (P 11))) none none (P 12)) (P 13)] (P 14)) [.Assign [.Name "candidate" (P 15)] (.Constant .none (K 2) (P 16)) (P 17),.Break (P 18)] [] (P 19)
noncomputable def cY (P:Nat->Pos)(K:Nat->Nat):Stmt:=.Assign [.Name "candidate" (P 2)] (.Subscript (.Name "s1" (P 3)) (.Constant (.int 0) (K 0) (P 4)) (P 5)) (P 6)
noncomputable def lF (P:Nat->Pos)(K:Nat->Nat):Stmt:=.For (.Name "s2" (P 7)) (.Name "sequences" (P 8)) [lG P K] [.Break (P 20)] (P 21)
noncomputable def gZ (P:Nat->Pos)(K:Nat->Nat):Stmt:=.For (.Name "s1" (P 0)) (.Name "sequences" (P 1)) [cY P K,lF P K] [] (P 22)
structure iO (sc:Scope):Prop where
 s1:AI sc "s1"=true
 s2:AI sc "s2"=true
 uh:AI sc "candidate"=true
 seq:AI sc "sequences"=true
noncomputable def MO (b:Bool)(R:PV)(q:Value)(L:PV)(h k:PV):AM:=
 if b then[("result",.own R),("sequences",.nn q L),("s1",.aa k),("candidate",.aa h)] else[("result",.own R),("sequences",.nn q L),("candidate",.aa h),("s1",.aa k)]
noncomputable def Cw (h:List (List Str)):List PV:=h.map λ c=>.list (c.map .str)
noncomputable def G5 (h:List (List Str))(x:Str):Bool:=h.all λ t=>!(t.tail.contains x)
section
variable {A:Around}{z:Env}{C:A5}
theorem Rn {t:List Str}(h:t.length<=Bf):Cz (.list (t.map .str)) (some 1) none none=some (.list (t.tail.map .str)):=by
 show Cz (.list (t.map .str)) (some ((1:Nat):Int)) none none=_;rw[PP _ 1 (by rw[Af];exact h),<-List.map_drop,List.drop_one]
theorem QE {t:List Str}:G5 (t::a) x=(!(t.tail.contains x)&&G5 a x):=by unfold G5;rw[Ct]
variable {d1 R L:PV}{q:Value}{P:Nat->Pos}{K:Nat->Nat} in
theorem jM (s:Dt W C k mg mb)(w:Cc k A)(B:XB W V z N)(T:iO V)(b:Bool){x:Str}(h:List (List Str))(Q:∀t∈h,t.length<=Bf):
 Fi W A V z N (.Name "s2" (P 7)) [lG P K] [.Break (P 20)] (Cw h) (MO b R q L (.str x) d1) (if G5 h x then .brk (MO b R q L (.str x) d1) else .next (MO b R q L .none d1)):=by
 induction h with
 |nil=>exact .nil (Cp J6)
 |cons t h H=>
  have Z:=H λ t a=>Q t (Ad _ a);obtain⟨o,N,c,d,e,f⟩:∃o,EO V (.Name "s2" (P 7)) (.list (t.map .str)) (MO b R q L (.str x) d1)=some o/\o.lookup ("candidate":Str)=some (.aa (.str x))/\o.lookup ("s2":Str)=some (.aa (.list (t.map .str)))/\
   Ci ((MO b R q L (.str x) d1).map (·.1)) o=MO b R q L (.str x) d1/\Ci ((MO b R q L (.str x) d1).map (·.1)) (AN o "candidate" (.aa .none))=MO b R q L .none d1:=
   ⟨_,Fr T.s2,by cases b<;>kernel_rfl,by cases b<;>kernel_rfl,by cases b<;>kernel_rfl,by cases b<;>kernel_rfl⟩
  have O:I4 C V o (.Compare (.Name "candidate" (P 9)) [.In] [.Subscript (.Name "s2" (P 10)) (.Slice (some (.Constant (.int 1) (K 1) (P 11))) none none (P 12)) (P 13)] (P 14)) (t.tail.contains x):=
   .o4 (.aa c) (.bh (.slice (.bh (.aa d)) (.int .int) .no .no (Rn (Q t Ac)))) rfl (.inl rfl) (Xg x t.tail)
  rw[QE];cases hc:t.tail.contains x with
  |false=>exact .next N ((Cp (DY s w B (hc▸O) DN)).keep e) Z
  |true=>
   rw[hc] at O;exact .brk N ((Cp (DY s w B O (Dl (A6 s w B (.af rfl) T.uh) (Cp J6)))).pz f)
variable {r:List Stmt} in
noncomputable def CW (all:List (List Str)):List (List Str)->Option Str
 |[]=>none
 |[]::r=>CW all r
 |(x::_)::r=>if G5 all x then some x else CW all r
noncomputable def Tr:Option Str->PV
 |some x=>.str x
 |none=>.none
noncomputable def RS (R:PV)(q:Value)(L:PV):Option PV->AM
 |none=>[("result",.own R),("sequences",.nn q L)]
 |some h=>[("result",.own R),("sequences",.nn q L),("candidate",.aa h)]
noncomputable def cO:List Str:=["result","sequences","candidate"]
theorem jN {R:PV}{q:Value}{P:Nat->Pos}{K:Nat->Nat}(O:Dt W C k mg mb)(Q:Cc k A)(B:XB W V z N)(T:iO V){all:List (List Str)}(c:∀t∈all,t.length<=Bf)(o:Option PV)(h:List (List Str))(s:∀t∈h,t≠[])(a:h=[]->o=some .none):
 Fi W A V z N (.Name "s1" (P 0)) [cY P K,lF P K] [] (Cw h) (RS R q (.list (Cw all)) o) (.next (RS R q (.list (Cw all)) (some (Tr (CW all h))))):=by
 induction h generalizing o with
 |nil=>rw[a rfl];exact .nil DN
 |cons r h d=>
  obtain⟨x,t,rfl⟩:=List.exists_cons_of_ne_nil (s r Ac);clear a;obtain⟨b,w,N,f,g⟩:∃b w,EO V (.Name "s1" (P 0)) (.list ((x::t).map .str)) (RS R q (.list (Cw all)) o)=some w/\AN w "candidate" (.aa (.str x))=MO b R q (.list (Cw all)) (.str x) (.list ((x::t).map .str))/\w.lookup ("s1":Str)=some (.aa (.list ((x::t).map .str))):=by
   cases o with
   |none=>exact⟨true,_,Fr T.s1,by kernel_rfl,by kernel_rfl⟩
   |some j=>exact⟨false,_,Fr T.s1,by kernel_rfl,by kernel_rfl⟩
  have Z:=A6 (q:=P 2) (pos:=P 6) O Q B (.sub (p:=P 5) (.bh (.aa (p:=P 3) g)) (.int (kk:=K 0) (p:=P 4)) (λ _ _=>rfl) jI) T.uh;rw[f] at Z;have H:=Hy (pos:=P 21) O Q B (.list (.name (p:=P 8) (x:="sequences") (MD (v:=q) (d:=.list (Cw all)) (by cases b<;>kernel_rfl))) rfl) (jM (P:=P) (K:=K) (R:=R) (q:=q) (L:=.list (Cw all)) (d1:=.list ((x::t).map .str)) O Q B T b (x:=x) all c);cases e:G5 all x with
  |true=>
   rw[e] at H;rw[show CW all ((x::t)::h)=some x from if_pos e];exact .brk N ((Dl Z (Cp H)).pz (show Ci cO (MO b R q (.list (Cw all)) (.str x) (.list ((x::t).map .str)))=_ by cases b<;>kernel_rfl))
  |false=>
   rw[e] at H;rw[show CW all ((x::t)::h)=CW all h from if_neg (by rw[e];exact Ce)];exact .next N ((Dl Z (Cp H)).keep (show Ci cO (MO b R q (.list (Cw all)) .none (.list ((x::t).map .str)))=_ by cases b<;>kernel_rfl)) (d (some .none) (λ t i=>s t (Ad _ i)) λ _=>rfl)
end
theorem Qt (h:∀x,a.names.lookup x≠some .free)(k:AM):BD a k=[]:=by
 unfold BD;rw[FH];intro q _ e;exact h q.1 (BB e)
noncomputable def E3 (h:List (List Str)):List (List Str):=h.filter λ c=>!c.isEmpty
variable {n:Nat} in
noncomputable def LU:Nat->List (List Str)->List Str->Option (Option (List Str)×List (List Str))
 |0,_,_=>none
 |n+1,h,k=>if(E3 h).isEmpty then some (some k,h) else match CW (E3 h) (E3 h) with
  |none=>some (none,h)
  |some x=>LU n (h.map (Iv x)) (k++[x])
theorem I3 (n:Nat)(h:List (List Str))(k:List Str):LU (n+1) h k=if(E3 h).isEmpty then some (some k,h) else(match CW (E3 h) (E3 h) with |none=>some (none,h) |some x=>LU n (h.map (Iv x)) (k++[x])):=rfl
noncomputable def Kw:Str:="Inconsistent hierarchy"
noncomputable def bC (h:Scope)(P:Nat->Pos):Stmt:=.Assign [.Name "sequences" (P 23)] (.ListComp (.Name "s" (P 24)) [⟨.Name "s" (P 25),.Name "sequences" (P 26),[.Name "s" (P 27)],0⟩] h (P 28)) (P 29)
noncomputable def lE (P:Nat->Pos):Stmt:=.If (.UnaryOp .Not (.Name "sequences" (P 30)) (P 31)) [.Return (some (.Name "result" (P 32))) (P 33)] [] (P 34)
noncomputable def bB (P:Nat->Pos)(K:Nat->Nat):Stmt:=.If (.Compare (.Name "candidate" (P 35)) [.Is] [.Constant .none (K 3) (P 36)] (P 37)) [.Raise (some (.Call (.Name "RuntimeError" (P 38)) [.Constant (.str "Inconsistent hierarchy") (K 4) (P 39)] [] (P 40))) none (P 41)] [] (P 42)
noncomputable def lI (P:Nat->Pos):Stmt:=.Expr (.Call (.Attribute (.Name "result" (P 43)) "append" (P 44)) [.Name "candidate" (P 45)] [] (P 46)) (P 47)
noncomputable def lH (P:Nat->Pos)(K:Nat->Nat):Stmt:=.For (.Name "seq" (P 48)) (.Name "sequences" (P 49)) [.If (.Compare (.Subscript (.Name "seq" (P 50)) (.Constant (.int 0) (K 5) (P 51)) (P 52)) [.Eq] [.Name "candidate" (P 53)] (P 54)) [.Delete [.Subscript (.Name "seq" (P 55)) (.Constant (.int 0) (K 6) (P 56)) (P 57)] (P 58)] [] (P 59)] [] (P 60)
noncomputable def X2 (h:Scope)(P:Nat->Pos)(K:Nat->Nat):Stmt:=.While (.Constant (.bool true) (K 7) (P 61)) [bC h P,lE P,gZ P K,bB P K,lI P,lH P K] [] (P 62)
noncomputable def Np (h:Scope)(P:Nat->Pos)(K:Nat->Nat):List Stmt:=[.Assign [.Name "result" (P 63)] (.List [] (P 64)) (P 65),X2 h P K]
structure TL (sc sp:Scope)(P:Nat->Pos):Prop where
 S:iO sc
 seq:sc.names.lookup ("seq":Str)=some .local
 u4:AI sc "result"=true
 u3:BU sc "RuntimeError"=true
 u2:Dm sc sp=true
 u1:∀x,sp.names.lookup x≠some .free
 u0:AI sp "s"=true
 u9:((P 44).endLine==(P 46).line)=true
section
variable {A:Around}{E:B3}{z:Env}{C:A5}
noncomputable def Jm (c:Addr->List Str)(r:Addr):Bool:=!(c r).isEmpty
noncomputable def En (o:Bl)(s:Heap)(k:List Addr)(h:List (List Str)):Prop:=∃c:Addr->List Str,k.map c=h/\∀r∈k,BM o s r (c r)
noncomputable abbrev Uy (h:List Str)(k:List Addr):AM:=kF h (Er k)
theorem SN {l:List Addr}(r:RpL W X h b (Er l)):b=l.map Value.ref:=by
 induction l generalizing b with
 |nil=>exact r.ah
 |cons a l k=>
  obtain⟨v,b,rfl,x,y⟩:=r.ah;exact(congr (congrArg List.cons x.ah) (k y):v::b=.ref a::l.map Value.ref)
theorem Ws {l:List Addr}(r:Rp W X h v (.list (Er l))):∃a n,v=.ref a/\h.get? a=some (Fd (l.map Value.ref).toArray n)/\a∉X/\(l.map Value.ref).toArray.size<=Bf:=by
 obtain⟨a,k,n,e,o,s,w,z⟩:=r.ah;have q:k=(l.map Value.ref).toArray:=by rw[<-SN z]
 exact⟨a,n,e,q▸o,s,q▸w⟩
theorem YP {l:List Addr}(k:l≠[])(e:h.get? a=some (Fd (l.map Value.ref).toArray n))(x:BM W h a c):False:=by
 obtain⟨r,l,rfl⟩:=List.exists_cons_of_ne_nil k;obtain⟨z,A,o,_,l⟩:=x;cases AF e o;cases c with
 |nil=>cases l.ah
 |cons y C=>
  obtain⟨v,r,q,s,_⟩:=l.ah;obtain⟨t,w,_⟩:=s.ah;rw[w] at q;exact nomatch (List.cons.inj q).1
theorem RB (c:Addr->List Str):∀(l:List Addr),(∀r∈l,r∉X/\BM W h r (c r))->RpL W X h (l.map Value.ref) (Cw (l.map c)):=by
 intro l;induction l with
 |nil=>
  intro _;exact .nil
 |cons r l k=>
  intro H;exact .cons ((H r Ac).2.rp (H r Ac).1) (k λ x o=>H x (Ad _ o))
theorem X0 {a:List (List Str)}(e:LU n a c=some (d,b))(k:E3 a=l):
 (l=[]/\d=some c/\b=a)\/l≠[]/\((CW l l=none/\d=none/\b=a)\/∃m x,n=m+1/\CW l l=some x/\LU m (a.map (Iv x)) (c++[x])=some (d,b)):=by
 subst k;cases n with
 |zero=>contradiction
 |succ n=>
  by_cases h:(E3 a).isEmpty
  ·have e:=(if_pos h).symm.trans e;have e:=Au e;exact .inl ⟨Gc.mp h,(congrArg Prod.fst e).symm,(congrArg Prod.snd e).symm⟩
  ·refine .inr ⟨λ q=>h (Gc.mpr q),?_⟩;have e:=(if_neg h).symm.trans e;cases q:CW (E3 a) (E3 a) with
   |none=>
    replace e:=(q)▸e
    have e:=Au e;exact .inl ⟨rfl,(congrArg Prod.fst e).symm,(congrArg Prod.snd e).symm⟩
   |some x=>
    rw[q] at e;exact .inr ⟨n,x,rfl,rfl,e⟩
theorem Ri (l:List Addr):Mr (.list (Er l))=some (!l.isEmpty):=by cases l<;>rfl
theorem WJ (c:Addr->List Str):∀h:List Addr,E3 (h.map c)=(h.filter (Jm c)).map c:=by
 intro h;induction h with
 |nil=>
  exact rfl
 |cons r h k=>
  have:=k;unfold E3 at this ⊢;rw[A0,EG,EG,this];unfold Jm;cases (c r).isEmpty<;>rfl
theorem aT {d:List Addr}{c:Addr->List Str}{x:Str}:∀l:List Addr,(∀r∈l,r∈d)->l.map (Pu c x (d.filter (Jm c)))=(l.map c).map (Iv x):=by
 intro l;induction l with
 |nil=>
  intro _;exact rfl
 |cons r l k=>
  intro h;simp only[A0,A0,A0,k λ y o=>h y (Ad _ o)];congr 1;unfold Pu;by_cases q:r∈d.filter (Jm c)
  ·exact(if_pos q)
  ·rw[if_neg q];have:Jm c r=false:=by
    cases e:Jm c r with
    |false=>rfl
    |true=>exact absurd (AS.mpr ⟨h r Ac,e⟩) q
   unfold Jm at this;have:c r=[]:=by
    cases e:c r with
    |nil=>rfl
    |cons a b=>(first |exact BZ e this |obtain rfl:=AF e this |cases Eq.trans (Eq.symm e) this |(rw[e] at this;exact Bool.noConfusion this))
   rw[this];rfl
theorem Uu {a:List Addr}{c:Addr->List Str}{x:Str}:(a.filter (Jm c)).filter (Jm (Pu c x (a.filter (Jm c))))=a.filter (Jm (Pu c x (a.filter (Jm c)))):=by
 refine Eq.trans (List.filter_filter) ?_;apply C8;intro r h;by_cases q:Jm c r=true
 ·rw[q,Gp]
 ·have:Jm c r=false:=by exact eq_false_of_ne_true (q)
  rw[this,Bool.and_false];have e:Jm (Pu c x (a.filter (Jm c))) r=Jm c r:=by
   show(!(Pu c x (a.filter (Jm c)) r).isEmpty)=_;rw[show Pu c x (a.filter (Jm c)) r=c r from if_neg (λ z=>q (AS.mp z).2)];rfl
  rw[e,this]
end
variable {n:Nat}{t:Expr}{g:Array GenState}{fl:Fl} in
inductive Q6 (W:Bl)(hs h:Heap)(e:Addr)(C v:Value)(f:Addr):Prop
 |mk (le:A9 W hs h) (no:hs.get? e=none) (t:Addr) (n:Nat) (T:Addr) (g:h.get? t=some (Jk #[v] n)) (fl:TH h e C (.ref t) (some T) (rawInt f)) (k:hs.get? T=none)
section
variable {A:Around}{E:B3}{z:Env}{C:Value}
theorem WH {M:Model}(B:C≠.none/\C≠.type "code")(r:A.frames=some (z::a))(St:AQ W s.heap (z::a))(F:Hu W hs s.heap e C v)
 (L:∀u,Q6 W hs u e C v z.locals->AQ W u (z::a)->E (.ref e) {s with heap:=u}):notedBy M A z (λ e R=>cameBackBy M A z E e R) (.ref e) s:=by
 simp only[notedBy];refine F.qk B r St λ h t n T Z D k S c=>?_;obtain⟨x,G,m,d,H,I,p,N,U,Y,O,g,Q,J⟩:=c;have hf:=k.2.1;dsimp only[cameBackBy];refine Ab (BQ (s:={s with heap:=h}) m H p ?_);rw[hf];refine Ab (BQ (s:={s with heap:=h}) m H p ?_);have i:=(Cb.mp J).1;have j:=CX Q (·.setIfInBounds 3 ((some z.locals:Option Addr).elim Value.none λ f=>rawInt f))
 have w:TH h e C (.ref t) (some T) (rawInt z.locals):=⟨x,G,m,d,H,I,p,N,U,Y,O,g,Q,J⟩;have l:∀b o,h.get? b=some o->b≠T->(h.update T (Obj.mapFields (·.setIfInBounds 3 ((some z.locals:Option Addr).elim Value.none λ f=>rawInt f)))).get? b=some o:=λ b o y V=>by refine Eq.trans (Ck _ _ (Ne.symm V)) ?_;exact y
 have K:Q7 (Ew (z::a)) e (some T) h (h.update T (Obj.mapFields (·.setIfInBounds 3 ((some z.locals:Option Addr).elim Value.none λ f=>rawInt f)))):=λ b o y _ V=>.inl (l b o y λ q=>V (by exact congrArg _ (q)))
 refine Gg (s:={s with heap:=h}) O Q i (L _ ⟨Z.qq k K w B F.rf λ T' q=>by cases q;exact D,F.rf,t,n,T,K.seq k w S rfl,⟨x,G,l e x m N.symm,d,H,I,p,N,_,_,Br _ O (CU j),(H9 _ _).trans g,j,by simp[i]⟩,D⟩ (K.stack k w))
theorem Q6.bk {M:Model}(g:C≠.none/\C≠.type "code")(St:AQ W s.heap (z::a))(F:Q6 W c s.heap e C v z.locals){b:Unit->Shared->Prop}(i:∀N,Hu W c N e C v->AQ W N (z::a)->b () {s with heap:=N}):wpAny M A (leaving z (.ref e)) b E s:=by
 obtain⟨H,j,t,n,T,l,m,p⟩:=F;refine Ab ?_;obtain⟨q,r,k,O,h,u,d,Q,x,y,o,V,w,f⟩:=m;have B:=St.2.1;have Z:TH s.heap e C (.ref t) (some T) (rawInt z.locals):=⟨q,r,k,O,h,u,d,Q,x,y,o,V,w,f⟩;unfold noteFrame;rw[B];refine Ab (BQ k h d ?_);refine Ab (BQ o w f ?_);rw[if_pos (by exact beq_self_eq_true _)];exact Ag (Hu.land g St H j p l Z i)
end
section
variable {A:Around}{E:B3}{z:Env}{C:A5}
theorem BM.aj (x:BM W h r c)(k:C9 V z Z X h H)(s:r∉X):BM W H r c:=x.keep λ o e d=>k r o (.inl ⟨s,d⟩) e
theorem Pd {c:Addr->List Str}:(λ r=>!((λ r=>(c r).map PV.str) r).isEmpty)=Jm c:=by
 funext r
 show(!((c r).map PV.str).isEmpty)= !(c r).isEmpty;cases c r<;>rfl
variable {n tk:Nat}{l:List Env} in
inductive qQ (W:Bl)(sc:Scope)(env:Env)(hb:Heap)(Z:List Addr)(a:Addr)(s:Shared)(rs:List Addr)(o:Option (List Str))(rows':List (List Str)):Nat->Shared->Prop
 |mk {H:Heap} {tk:Nat} {c':Addr->List Str} {out':List Str} {act':List Addr} {n:Nat} (S:XS W sc env hb Z (a::Z) {s with heap:=H,toks:=tk} (Uy out' act')) (l:s.toks<=tk) (hrow:∀r0∈rs,BM W H r0 (c' r0)) (hsub:∀r0∈act',r0∈rs) (hact:act'.filter (Jm c')=rs.filter (Jm c')) (hsz:out'.length+n<=Bf) (hza:act'.length<=Bf) (e:LU n (rs.map c') out'=some (o,rows')):qQ W sc env hb Z a s rs o rows' n {s with heap:=H,toks:=tk}
theorem aW {a:Addr}{b:List Addr}{i:List Env}{u:Scope}{P:Nat->Pos}{K:Nat->Nat}(Gk:Dt W C k mg mb)(hA:Cc k A)(B:XB W V z N)(T:TL V u P)(h3:a∉Z)(h4:b.Nodup)(c8:∀r∈b,W.h0.get? r=none/\N.get? r=none/\r∉a::Z)(i5:b.length<=Bf)
 (i6:Vl W A z N i) (h5:mg "RuntimeError"=none/\mb "RuntimeError"=some (.type "RuntimeError")) (h6:swapsWithSole [.Name "sequences" (P 23)] (.ListComp (.Name "s" (P 24)) [⟨.Name "s" (P 25),.Name "sequences" (P 26),[.Name "s" (P 27)],0⟩] u (P 28)) (P 29).line z=pure true)
 {f:Nat} {c:Addr->List Str} {j:List Str} {g:List Addr} {p:Option (List Str)} {d:List (List Str)} (S:XS W V z N Z (a::Z) s (Uy j g)) (f4:∀r∈b,BM W s.heap r (c r)) (f5:∀r∈g,r∈b) (f6:g.filter (Jm c)=b.filter (Jm c)) (h7:j.length+f<=Bf) (h8:g.length<=Bf)
 (e:LU f (b.map c) j=some (p,d)) {y:Flow->Shared->Prop}
 (hQ:∀f7,p=some f7->∀h' tk,A9 W N h'->s.toks<=tk->BM W h' a f7->En W h' b d->y (.ret (.ref a)) {s with heap:=h',toks:=tk})
 (hE:p=none->∀L h' tk e t,s.toks<=tk->A9 W N L->En W L b d->Q6 W L h' e (.type "RuntimeError") (.str Kw t) z.locals->AQ W h' (z::i)->E (.ref e) {s with heap:=h',toks:=tk}):
 wpAny W.M A (exec (X2 u P K) z) y E s:=by
 refine wpAny_While (codeAny_whileLoop (qQ W V z N Z a s b p d) (λ n s' hI=>kO λ Q' gQ=>?_) f
  ⟨S,Ah _,f4,f5,f6,h7,h8,e⟩)
 induction hI with |@mk f8 e3 Q o a6 n b1 f9 b2 M R h2 e4 U=>
 ·refine wpAny_isTrue_value ((CE.af (C:=C) (d:=.bool true) rfl).at (s:={s with heap:=f8,toks:=e3}) Gk hA b1.F (b1.gd B) _ _ λ v L h9 d3 d4 rv=>?_);obtain rfl:v=.bool true:=rv.ah;refine CQ (gQ _ _ (MR ?_));clear gQ Q';refine kO λ Q' gQ=>?_;have Y:∀r∈b,BM W L r (Q r):=λ r w=>(b2 r w).bd d3;have b3:∀r∈b,r∉a::Z:=λ r w=>(c8 r w).2.2;have g0:a6.length<=Bf:=e4;have i8:(Er (a6.filter (Jm Q))).length<=Bf:=by
   rw[R];have:=BW (Jm Q) b;unfold Er;rw[Af];omega
  refine JQ λ K1 n1 o1=>(jU (Q:=_) Gk hA B (b1.ac d3 d4) (rs:=a6) (c:=λ r=>(Q r).map .str) (λ r w=>?_) (x:="sequences") (y:="s") (by kernel_rfl) T.S.seq T.u2 h6 T.u0 (by rw[Qt T.u1];rfl) g0 λ d5 b4 J e5 g3=>n1 _ ?_)
  ·exact⟨b3 r (M r w),(Y r (M r w)).ex⟩
  clear n1 o1 K1;simp only[Pd,R] at J;have e2:AN (Uy o a6) "sequences" (.aa (.list ((b.filter (Jm Q)).map λ r=>.obj (.ref r))))=Uy o (b.filter (Jm Q)):=by kernel_rfl
  simp only[e2] at J;have b5:∀r∈b,BM W d5 r (Q r):=λ r w=>(Y r w).aj e5 (b3 r w);have b6:s.toks<=b4:=Aa f9 (Aa d4 g3);generalize a0:b.filter (Jm Q)=h at J e2;have G:∀r∈h,r∈b:=λ r w=>by rw[<-a0] at w;exact(AS.mp w).1
  have d6:∀r∈h,Q r≠[]:=λ r w q=>by
   rw[<-a0] at w;have:=(AS.mp w).2;unfold Jm at this;(first |exact BZ q this |obtain rfl:=AF q this |cases Eq.trans (Eq.symm q) this |(replace this:=(q)▸this;exact Bool.noConfusion this))
  have g4:h.Nodup:=by rw[<-a0];exact h4.filter _
  have d7:E3 (b.map Q)=h.map Q:=by rw[WJ,a0]
  have t2:I4 C V (Uy o h) (.UnaryOp .Not (.Name "sequences" (P 30)) (P 31)) h.isEmpty:=by
   rw[<-Bool.not_not h.isEmpty];exact .not (.name (Ul (d:=.list (Er h)) (by kernel_rfl)) (Ri h))
  refine JQ λ K1 n1 o1=>(J1 (t2.at (s:={s with heap:=d5,toks:=b4}) Gk hA J.F (J.gd B) _ _ λ b' a1 I b7 b8 e6=>?_));subst e6;have H:=J.ac b7 b8;have O:∀r∈b,BM W a1 r (Q r):=λ r w=>(b5 r w).bd b7;have b9:s.toks<=I:=Aa b6 b8;have hq:=H.pu (x:="result") (d:=.list (o.map .str)) (by kernel_rfl);rcases X0 U d7 with⟨a3,ho,e9⟩ |⟨a3,U⟩
  ·rw[Gc.mpr (GX.mp a3)];exact MR (Aj (CR (FI.ms (s:={s with heap:=a1,toks:=I}) H.F (x:="result") (sl:=.own (.list (o.map .str))) (by kernel_rfl) hq.1 (o1 _ _ (λ q=>nomatch q) (gQ _ _ (hQ o ho a1 I H.le b9 (BM.of hq.2) ⟨Q,e9.symm,O⟩))))))
  ·have a3:h≠[]:=λ q=>a3 (by rw[q];rfl);rw[List.isEmpty_eq_false_iff.mpr a3];refine RV (Bd (n1 _ ?_));clear n1 o1 K1;refine C6 λ gg kk=>?_;obtain⟨vq,d8,rq⟩:=H.F.at (x:="sequences") (sl:=.aa (.list (Er h))) (by kernel_rfl);obtain⟨Lq,nq,rfl,f0,c9,i0⟩:=Ws rq;refine kk ?_;have i1:Lq∉b:=λ q=>YP a3 f0 (O Lq q);have g5:XS W V z N Z (a::Z) {s with heap:=a1,toks:=I} (RS (.list (o.map .str)) (.ref Lq) (.list (Cw (h.map Q))) none):=by
    refine⟨H.F.re H.F.ba H.F.zx H.F.alive (λ _ _=>rfl) (.same (by kernel_rfl) (.cons (sl:=.aa (.list (Er h))) (by kernel_rfl) (λ v hv r=>?_) .nil)) (Kb "result" rfl),H.le,H.tk,H.fr,H.fc⟩;have i2:=hv.pf d8
    (try clear hv;try clear vq;try clear rq;try clear d8;try clear i9;try clear i7;try clear H;try clear b8;try clear b7;try clear t2;try clear d7;try clear b6)
    subst i2;exact⟨rfl,.list f0 c9 i0 (RB Q h λ r w=>⟨b3 r (G r w),O r (G r w)⟩)⟩
   have i3:∀t∈h.map Q,t.length<=Bf:=λ t ht=>by
    obtain⟨r,w,rfl⟩:=Al.mp ht;obtain⟨vs,n',_,j1,l⟩:=O r (G r w);have:=l.length;simp only[Af] at this;have j0:vs.toList.length=vs.size:=by rfl
    omega
   have g6:∀t∈h.map Q,t≠[]:=λ t ht=>by
    obtain⟨r,w,rfl⟩:=Al.mp ht;exact d6 r w
   refine JQ λ K1 n1 o1=>((Hy Gk hA B (.list (.name (MD (v:=.ref Lq) (d:=.list (Cw (h.map Q))) (by kernel_rfl))) rfl) (jN (P:=P) (K:=K) (R:=.list (o.map .str)) (q:=.ref Lq) Gk hA B T.S i3 none (h.map Q) g6 (λ q=>absurd (GX.mp q) a3))).go Z (a::Z) {s with heap:=a1,toks:=I} _ _ g5 λ d9 c0 c1 c2 g7=>n1 _ ?_);clear n1 o1 K1;have d0:d9.get? Lq=some (Fd (h.map Value.ref).toArray nq):=c2 Lq _ (.inl ⟨c9,.inl rfl⟩) f0;have f1:s.toks<=c0:=Aa b9 g7;have t5:∀oc:Option Str,I4 C V (RS (.list (o.map .str)) (.ref Lq) (.list (Cw (h.map Q))) (some (Tr oc))) (.Compare (.Name "candidate" (P 35)) [.Is] [.Constant .none (K 3) (P 36)] (P 37)) oc.isNone:=λ oc=>
    .an (.aa (d:=Tr oc) (by kernel_rfl)) (.af rfl) rfl (by cases oc<;>rfl)
   refine JQ λ K1 n1 o1=>(J1 ((t5 _).at (s:={s with heap:=d9,toks:=c0}) Gk hA c1.F (c1.gd B) _ _ λ b' a7 a4 c3 e0 e6=>?_));subst e6;have D:=c1.ac c3 e0;have a2:∀r∈b,BM W a7 r (Q r):=λ r w=>((λ r w=>(O r w).aj c2 (b3 r w)) r w).bd c3;have c4:s.toks<=a4:=Aa f1 e0;rcases U with⟨f2,ho,e9⟩ |⟨m,x,hn,f2,U⟩
   ·rw[f2];refine MR ?_;clear gQ n1 o1;have d1:(backTo (P 40) (starEach [.Constant (.str "Inconsistent hierarchy") (K 4) (P 39)] z)).any (·.1)=false:=by rfl
    refine Aj (wpAny_Raise_call F.excCall_RuntimeError F.excRaise_RuntimeError hA.handled d1 (BK Gk D.F (D.gd B) T.u3 (.inr h5) ⟨rfl,?_⟩));rw[A7 (P 40) z _ rfl];refine AV (Ap ((CE.af (C:=C) (d:=.str Kw) (by kernel_rfl)).at (s:={s with heap:=a7,toks:=a4}) Gk hA D.F (D.gd B) _ _ λ v a8 a5 a9 b0 rv=>AR ⟨rfl,by simp[sizeLine],λ c5 e8 m8=>?_⟩));refine C6 λ gg kk=>?_;obtain⟨t,rfl,o1,z1⟩:=rv.ah;refine kk ?_;have kk:A9 W a7 c5:=a9.trans (.ae m8.keeps);refine WH (W:=W) (s:={s with heap:=c5,toks:=a5}) (hs:=a8) (C:=.type "RuntimeError") (v:=.str Kw t) (by decide) i6.fr ((i6.stack (D.ac a9 b0)).bd (.ae m8.keeps)) (Hu.rh m8.of) λ g8 g9 f3=>?_;exact hE ho a8 g8 a5 e8 t (Aa c4 b0) (D.le.trans a9) ⟨Q,e9.symm,λ r w=>(a2 r w).bd a9⟩ g9 f3
   ·simp only[f2] at D ⊢;refine RV (Bd (n1 _ ?_));clear n1 o1 K1;refine JQ λ K1 n1 o1=>((JH (xs:=o.map .str) (d:=.str x) Gk hA B (by refine Eq.trans (T.u9) ?_;rfl) (by kernel_rfl) (.aa (by kernel_rfl)) (by rw[Af];omega)).go _ _ {s with heap:=a7,toks:=a4} _ _ D λ a8 a5 e1 c6 b0=>n1 _ ?_);clear n1 o1 K1;have e7:AN (RS (.list (o.map .str)) (.ref Lq) (.list (Cw (h.map Q))) (some (Tr (some x)))) "result" (.own (.list (o.map .str++[.str x])))=RS (.list ((o++[x]).map .str)) (.ref Lq) (.list (Cw (h.map Q))) (some (.str x)):=by rw[BR];kernel_rfl
    simp only[e7] at e1;have d2:a8.get? Lq=some (Fd (h.map Value.ref).toArray nq):=c6 Lq _ (.inl ⟨c9,.inl rfl⟩) (c3.keep d0 (by simp) (by simp));refine JQ λ K1 n1 o1=>(XN (x:=x) (out:=o++[x]) (d:=.list (Cw (h.map Q))) Gk hA B e1 h3 (by kernel_rfl) (by kernel_rfl) (by kernel_rfl) d2 (by
     have:=BW (Jm Q) b;rw[a0] at this;omega) (λ r w=>⟨(c8 r w).1,(c8 r w).2.1,(c8 r w).2.2,(λ r w=>(a2 r w).aj c6 (b3 r w)) r w⟩) G g4 i1 c9 d6 T.seq λ c5 i4 h0 c7 h1=>n1 _ (Bd (gQ _ _ ?_)))
    refine⟨m,hn▸DV _,h0,Aa c4 (Aa b0 h1),c7,G,?_,by rw[AA,List.length_singleton];omega,by have:=BW (Jm Q) b;rw[a0] at this;omega,?_⟩
    ·rw[<-a0];exact Uu
    ·rw[<-a0,aT b λ r w=>w];exact U
end
section
variable {A:Around}{E:B3}{z:Env}{C:A5}
theorem MI (k:h.get? b=none)(Y:List Addr):(Dq h Y).get? b=none:=by
 by_cases q:b∈Y
 ·exact Hi q
 ·rw[Cr q];exact k
theorem Oh (e:(Dq h Y).get? b=some o):h.get? b=some o:=by
 by_cases q:b∈Y
 ·rw[Hi q] at e;cases e
 ·rw[Cr q] at e;exact e
theorem WD:∀Y:List Addr,A9 W (Dq h Y) h:=by
 intro Y;induction Y with
 |nil=>
  exact .refl _
 |cons b r k=>
  exact A9.trans (O6 (h:=Dq h r)) (k)
theorem RP (R:A9 W W.h0 h):∀Y:List Addr,(∀b∈Y,W.h0.get? b=none/\∀o k,h.get? b=some o->o.data≠.fields k)->A9 W W.h0 (Dq h Y):=by
 intro Y;induction Y with
 |nil=>
  intro _;exact R
 |cons b r s=>
  intro H;exact Of (s λ x w=>H x (Ad _ w)) (H b Ac).1 λ o k e=>(H b Ac).2 o k (Oh e)
theorem Og (T:W.ox h):∀Y:List Addr,(∀b∈Y,∀o k,h.get? b=some o->o.data≠.fields k)->W.ox (Dq h Y):=by
 intro Y;induction Y with
 |nil=>
  intro _;exact T
 |cons b r s=>
  intro H;exact Ke (s λ x w=>H x (Ad _ w)) λ o k e=>H b Ac o k (Oh e)
theorem aY {f:List Addr}{l:List Env}{u:Scope}{P:Nat->Pos}{K:Nat->Nat}(Gk:Dt W C k mg mb){p:Addr}(fo:EH W p fd ["sequences"] (Np u P K))(T:TL fd.scope u P)(c5:∀n,swapsWithSole [.Name "sequences" (P 23)] (.ListComp (.Name "s" (P 24)) [⟨.Name "s" (P 25),.Name "sequences" (P 26),[.Name "s" (P 27)],0⟩] u (P 28)) (P 29).line (callEnvC fd n p)=pure true)
 (c6:mg "RuntimeError"=none/\mb "RuntimeError"=some (.type "RuntimeError")) (hA:Cc (k+1) A) (c7:A.frames=some l) (St:AQ W s.heap l) (G:Gd W s) {c:Addr->List Str} {j x:Nat} (hL:s.heap.get? j=some (Fd (f.map Value.ref).toArray x)) (d8:j∉f)
 (c8:f.Nodup) (I:f.length<=Bf) (N:∀r∈f,W.h0.get? r=none/\BM W s.heap r (c r)) {m:Nat} (hf:m<=Bf) {i:Option (List Str)} {g:List (List Str)} (e:LU m (f.map c) []=some (i,g))
 (hQ:∀S,i=some S->∀a U tk,s.heap.get? a=none->A9 W (Dq s.heap f) U->s.toks<=tk->BM W U a S->En W U f g->Q (.ref a) {s with heap:=U,toks:=tk})
 (hE:i=none->∀H U tk e t,s.toks<=tk->A9 W (Dq s.heap f) H->En W H f g->Hu W H U e (.type "RuntimeError") (.str Kw t)->AQ W U l->E (.ref e) {s with heap:=U,toks:=tk}):
 wpAny W.M A (call (.ref p) [.ref j]) Q E s:=by
 refine EB fo hA G (X:=[]) (λ b Y=>nomatch Y) (args:=[.ao (.ref j)]) (.ao .nil) rfl λ o H c9 he B d5 a1 w=>?_;have a5:=hA.down o;rw[CN] at w;have b3:∀b∈f,∀i vs,s.heap.get? b=some i->i.data≠.fields vs:=λ b Y i vs e=>by
  obtain⟨us,n,e1,_⟩:=(N b Y).2;obtain rfl:=AF e1 e;simp
 have a2:∀a∈Ay o,s.heap.get? a=none:=λ a ha=>by rw[he] at ha;exact Lw a ha
 have Bm:XB W fd.scope o (Dq s.heap f):=⟨RP G.al f λ b Y=>⟨(N b Y).1,b3 b Y⟩,Og G.oz f b3,λ a ha=>MI (B.wr a ha) f⟩;have d0:∀r∈f,r∉Ay o:=λ r D q=>by
  obtain⟨i,Z,_⟩:=(N r D).2.some;rw[a2 r q] at Z;cases Z
 have b4:∀r∈f,BM W H r (c r):=λ r D=>(N r D).2.bd w.le;unfold Np;refine Aj (BA (t:=.Name "result" (P 63)) rfl rfl rfl (Yr.list (C:=C) .nil (AP _) ⟨W,_,o,_,_,_,mg,mb,Gk,a5⟩ _ w.F (w.gd B) _ _ λ a d6 d1 ha b5 b6 ro=>?_));refine Od B w T.u4 (λ y d hy=>?_) ha b5 b6 ro λ J a6 h a3=>?_
 ·have hy:List.lookup y [(("sequences":Str),CB.ao (.ref j))]=some (.own d):=hy;by_cases z:y="sequences"
  ·subst z;cases Eq.trans (Eq.symm An) hy
  ·rw[Ar z] at hy;cases hy
 have d2:a∉Ay o:=λ q=>by obtain⟨i,Z⟩:=w.F.am a q;have z:H.get? a=none:=ha;exact BZ z Z
 have a7:s.heap.get? a=none:=by
  exact A9.bf w.le ha
 have d3:a∉f:=λ q=>by obtain⟨i,Z,_⟩:=(N a q).2.some;exact BZ a7 Z
 have L:∀r∈f,BM W J r (c r):=λ r D=>(N r D).2.bd h.le;have a8:J.get? j=some (Fd (f.map Value.ref).toArray x):=h.le.keep hL (by simp) (by simp);have d4:j∉a::Ay o:=λ q=>by
  rcases Ae.mp q with q |q
  ·rw[q,a7] at hL;cases hL
  ·rw[a2 _ q] at hL;cases hL
 have e3:AN ((["sequences"]:List Str).zip [CB.ao (.ref j)]) "result" (.own (.list []))=([("sequences",.ao (.ref j)),("result",.own (.list []))]:AM):=by kernel_rfl
 rw[e3] at h;have a4:XS W fd.scope o (Dq s.heap f) (Ay o) (a::Ay o) {s with heap:=J,toks:=a6} (Uy [] f):=by
  exact⟨h.F.re h.F.ba h.F.zx h.F.alive (λ _ _=>rfl) (.same (by kernel_rfl) (.cons (sl:=.ao (.ref j)) (by kernel_rfl) (λ v _(r:v=.ref j)=>r▸.list a8 d4 (by simpa using I) (Mz f)) .nil)) (Kb "result" rfl),(WD f).trans h.le,h.tk,λ b Y hz=>MI (h.fr b Y hz) f,h.fc⟩
 have b7:AQ W (Dq s.heap f) l:=St.imp λ d7 fc=>by
  obtain⟨i,es,ep,Z,hc,hd⟩:=fc;refine⟨i,es,ep,?_,hc,hd⟩;rw[Cr];· exact Z
  intro q;obtain⟨vs,n,e1,_⟩:=(N _ q).2;rw[Z] at e1;injection e1 with e1;rw[e1] at hc;simp at hc
 have O:Vl W (A.deeper o) o (Dq s.heap f) l:=⟨by show A.frames.map (o::·)=_;rw[c7];rfl,by rw[a4.F.kind];simp,by rw[he];rfl,b7,a5.handled⟩
 refine Aj (aW Gk a5 Bm T d2 c8 (λ r D=>⟨(N r D).1,Hi D,λ q=>?_⟩) I O c6 (by rw[he];exact c5 _) a4 L (λ r D=>D) rfl (by rw[List.length_nil];omega) I e (λ S Z M a9 b0 b8 b9 V=>?_) λ Z M c0 R e6 t c1 b0 V c2 b1=>?_)
 ·rcases Ae.mp q with q |q
  ·exact d3 (q▸D)
  ·exact d0 r D q
 ·exact hQ S Z a M a9 a7 b0 (Aa a1 (Aa a3 b8)) b9 V
 ·refine Q6.bk (s:={s with heap:=c0,toks:=R}) (by simp) b1 c2 λ c3 c4 b2=>?_;exact hE Z M c3 R e6 t (Aa a1 (Aa a3 c1)) b0 V c4 b2.2.2.2.2
end
noncomputable def FX (C:A5)(o:Scope)(w:AM)(h:Expr)(N:List Str):Prop:=
 ∀(c:Pt C o w)(s:Shared),FI c.W o c.env c.Z c.X s.heap w->Gd c.W s->∀(Q:B3)(E:B3),
  (∀a k H,s.heap.get? a=none->A9 c.W s.heap k->s.toks<=H->BM c.W k a N->Q (.ref a) {s with heap:=k,toks:=H})->wpAny c.W.M c.A (eval h c.env) Q E s
theorem FX.own {d:List Str}(h:Yr C V O b (.list (d.map .str))):FX C V O b d:=λ c s F G Q E o=>h c s F G Q E λ a w H N k l r=>o a w H N k l (BM.of r)
variable {a:Addr}{vs:List Value}{r:List Stmt}{c:Nat}{t:Expr}{l:List Env} in
class inductive Di (W:Bl) (X:List Addr) (h:Heap):List Addr->List (List Str)->Prop
 |nil:Di W X h [] []
 |cons {r:Addr} {vs:List Addr} {c:List Str} {l:List (List Str)} (a:W.h0.get? r=none) (b:r∉X) (x:BM W h r c) (t:Di W X h vs l):Di W X h (r::vs) (c::l)
noncomputable def iP (o:Bl)(D:Addr)(X:List Addr)(k:Heap)(l:List (List Str)):Prop:=∃h n,k.get? D=some (Fd (h.map Value.ref).toArray n)/\h.Nodup/\Di o X k h l
section
variable {A:Around}{E:B3}{z:Env}{C:A5}
theorem Di.be (hk:∀b o,h.get? b=some o->b∉X->Dy o->H.get? b=some o/\b∉Y)(x:Di W X h c l):Di W Y H c l:=by
 induction x with
 |nil=>exact .nil
 |@cons r _ _ _ a b x _ k=>
  obtain⟨o,s,w,_⟩:=x.some;exact .cons a (hk r o s b w).2 (x.keep λ o e d=>(hk r o e b d).1) k
theorem Di.len {a:List Addr}{l:List (List Str)}(x:Di W X h a l):a.length=l.length:=by
 induction x with
 |nil=>rfl
 |cons _ _ _ _ k=>exact congrArg Nat.succ k
theorem Di.append (x:Di W X h c l)(y:Di W X h d m):Di W X h (c++d) (l++m):=by
 induction x with
 |nil=>exact y
 |cons a b x _ k=>exact .cons a b x k
theorem Di.mem (x:Di W X h d l):∀r∈d,W.h0.get? r=none/\r∉X/\∃c,BM W h r c:=by
 induction x with
 |nil=>exact λ _ q=>absurd q AU
 |cons a b x _ k=>exact List.forall_mem_cons.mpr ⟨⟨a,b,_,x⟩,k⟩
theorem Di.ay (x:Di (W.ay a Y) X h b l)(r:Addr)(q:r∈b):(Dq a Y).get? r=none/\r∉X:=
 have z:=x.mem r q
 ⟨z.1,z.2.1⟩
theorem Di.fn {d:List Addr}(k:d.Nodup)(x:Di f X h d l):∃c:Addr->List Str,d.map c=l/\∀r∈d,BM f h r (c r):=by
 induction x with
 |nil=>exact⟨λ _=>[],rfl,λ _ q=>absurd q AU⟩
 |@cons r d x l a b t _ s=>
  have k:=Db.mp k;obtain⟨c,hc,w⟩:=s k.2;have e:∀y∈d,(if y=r then x else c y)=c y:=λ y o=>if_neg λ q:y=r=>k.1 (q▸o);refine⟨λ y=>if y=r then x else c y,congr (congrArg List.cons (if_pos rfl)) ((By e).trans hc),List.forall_mem_cons.mpr ⟨?_,λ y o=>?_⟩⟩
  ·show BM f h r (if r=r then x else c r);exact(if_pos (c:=r=r) (t:=x) (e:=c r) rfl).symm▸t
  ·show BM f h y (if y=r then x else c y);exact(e y o).symm▸w y o
theorem Di.un {d c:Heap}(x:Di (W.ay d X) (D::X) h e l)(k:∀x∈e,d.get? x=none)(G:A9 W W.h0 d)(o:∀b,b≠D->c.get? b=h.get? b):Di W X c e l:=by
 induction x with
 |nil=>exact .nil
 |@cons y _ _ _ a b x _ s=>
  refine .cons (Dx G (k y Ac)) (λ q=>b (Ad _ q)) ?_ (s λ z w=>k z (Ad _ w));obtain⟨A,C,E,z,H⟩:=x;exact⟨A,C,(o y λ q=>b (q▸Ac)).trans E,z,Gu H⟩
theorem oX (D:Addr):Ym D (iP W D) where
 be:=λ x hk k=>by obtain⟨h,n,e,o,r⟩:=x;exact⟨h,n,k _ e,o,r.be hk⟩
 obj:=λ x=>by obtain⟨h,n,e,_⟩:=x;exact⟨_,e,.inl rfl⟩
theorem Yi.row (G:FX C V O f d):Yi iP C V (Kn f) O d:=λ L l s0 i I s c hz Q E k=>
 Ab (G (L.pt O) s c.F c.gd _ _ λ a A W m H Z J=>by
  have v:=c.qo H Z;have g:=v.nz;simp only[l] at g;refine C6 λ gg M=>?_;obtain⟨p,n,h,R,B⟩:=g;refine M ?_;refine Ab (HP (s:={s with heap:=A,toks:=W}) h (by have:=B.len;simp;omega) λ D j w z=>Ag (k _ (v.own z ⟨_,w⟩ (Ah _) ?_)));rw[l];refine⟨p++[a],j,by rw[w];simp,List.nodup_append.mpr ⟨R,by simp,λ x S y T q=>?_⟩,?_⟩
  ·have N:=c.nz;rw[l] at N;obtain⟨r,n',t,_,u⟩:=N;have U:r=p:=by
    have:=(H.keep t (by simp) (by simp)).symm.trans h;injection this with this;injection this with _ _ this;injection this with this;exact(List.map_inj_right λ _ _ q=>Value.ref.inj q).mp (by simpa using this)
   rw[BI.mp T] at q;obtain⟨_,_,cc,Y⟩:=u.mem x (U▸S);obtain⟨o,ho,_⟩:=Y.some;exact Ey m ⟨o,ho⟩ q
  ·have step:Di L.W (L.I::L.X) A (p++[a]) (I++[d]):=B.append (.cons (Dx c.gd.al m) (λ q=>Ey m (c.F.am a q) rfl) J .nil);exact step.be λ b o e n hd=>⟨(z.2 b λ q=>n (q▸Ad _ (L.ZX _ L.DZ))).trans e,n⟩)
noncomputable def Yt (s:A5)(C:Scope)(w:AM)(h:Scope)(z t E:Expr)(A:List Expr)(H:List (List Str)):Prop:=∃(o:Type)(l:List o)(g:o->PV)(q:o->Bool)(f:o->List Str),H=(l.filter q).map f/\Dm C h=true/\LJ s C w E (l.map g)/\(DM t).all (λ x=>((BD h w).lookup x).isNone)=true/\
 (∀a∈l,∃k,EN h t (g a) (BD h w)=some k/\NA s h k A (q a)/\(q a=true->FX s h k z (f a)))/\l.length<=Bf
theorem Js (Gk:Dt W C k mg mb)(hA:Cc k A){u:List (List Str)}(hc:Yt HV V O d i t B v u)(F:FI W V z Z X s.heap O)(G:Gd W s){j:Option (Value->Sem Unit)}
 (hQ:∀D H o I m w n,s.heap.get? D=none->s.heap.get? H=none->D≠H->A9 W s.heap o->s.toks<=I->o.Ns H m->o.get? D=some (Fd (w.map Value.ref).toArray n)->w.Nodup->(∀r∈w,s.heap.get? r=none)->Di (W.ay s.heap X) (H::X) o w u->u.length<=Bf->compPost W.M A E j Q (.ref D) H (.ok .next) {s with heap:=o,toks:=I}):
 wpAny W.M A (comprehension (.ListComp i [⟨t,B,v,0⟩] d y) d z p (newList []) false (eval B z) j) Q E s:=by
 obtain⟨α,l,g,q,f,rfl,J,S,hf,h,hz⟩:=hc;have hX:∀b∈X,W.h0.get? b=none:=λ b hb=>(F.alive b hb).1;have Gr:=Gk.ay G.al hX (rw:=λ _=>none);have N:((l.filter q).map f).length<=Bf:=Af (as:=l.filter q) f▸Aa (BW q l) hz;refine Nd ⟨W.ay s.heap X,A,z,Z,X,_,mg,mb,Gr,hA⟩ (GG i _ d y) rfl (Acc:=iP) (λ W D=>oX D) (oN:=Fd #[] 0) rfl (λ M A s Q E hq=>BJ hq) (λ W D X h e=>⟨[],0,e,.nil,.nil⟩) J S
  (λ L hL T s R c hR=>L.pj hL (GG ..) rfl rfl (T▸.of hf λ a U=>by obtain⟨Y,a,b,e⟩:=h a U;exact⟨Y,a,b,λ q=>.row (e q)⟩) c (Aa (AG (EP _)) N) hR) (F.ay λ a U=>.inl U) G.ay λ D C' o I mm hD hC a0 a2 a1 l hn ⟨w,n,e,nd,r⟩=>?_
 refine hQ D C' o I mm w n hD hC a0 (A9.n7 G.al hX a1) l hn e nd (λ x T=>?_) r N;obtain⟨r1,r2⟩:=r.ay x T;exact(Cr λ q=>r2 (Ad _ q)).symm.trans r1
theorem GB (x:Dt W C k mg mb)(y:Cc k A)(hc:Yt HV V O a b t f c d)(F:FI W V z Z X s.heap O)(G:Gd W s)
 (B:∀D H i w n,s.heap.get? D=none->A9 W s.heap H->s.toks<=i->H.get? D=some (Fd (w.map Value.ref).toArray n)->w.Nodup->(∀r∈w,s.heap.get? r=none)->Di W X H w d->Q (.ref D) {s with heap:=H,toks:=i}):
 wpAny W.M A (eval (.ListComp b [⟨t,f,c,0⟩] a g) z) Q E s:=by
 refine Js x y hc F G λ D T H i I w n J L j N l v e M h r _=>?_;refine⟨I,v,λ m p=>?_⟩;refine B D m i w n J (N.bb L (λ o w R S=>?_) p) l ((p.2 D j).trans e) M h ?_
 ·obtain⟨U,Y,ep,q,u,_⟩:=v;obtain rfl:=AF R q;cases Eq.trans (Eq.symm S) u
 ·exact r.un h G.al p.2
end
section
variable {A:Around}{E:B3}{z:Env}{C:A5}
theorem FI.pd (F:FI W V z Z X h O)(R:A9 W W.h0 h)(s:A9 W h H)(w:∀a∈Y,h.get? a=none/\∃o,H.get? a=some o):FI W V z (Y++Z) (Y++X) H O:=
 F.same (λ b k=>At _ (F.ba b k)) (λ b k=>(Ao.mp k).elim (λ q=>AO _ q) λ q=>At _ (F.zx b q)) (λ _=>Co s) (λ _ _ _ _=>EM s) (λ _ _ _ _ r=>(r.az λ a A=>(w a A).1).ac s)
   λ b k=>(Ao.mp k).elim (λ q=>⟨Dx R (w b q).1,(w b q).2⟩) λ q=>⟨(F.alive b q).1,Bc s (F.alive b q).2⟩
theorem BM.sk (x:Rp W X h (.ref a) (.list (c.map .str))):BM W h a c:=by
 obtain⟨_,_,e,n,z,l⟩:=x.ui;exact⟨_,_,e,z,Gu l⟩
theorem FX.slice {g:List PV}{i:Pos}{v:Expr}{lo b st:Option Expr}{f:Pos}{l u t:Option Int}{d:List Str}(hb:Vv C V O v (.list g))(hl:Yq C V O lo l)(hu:Yq C V O b u)(ht:Yq C V O st t)
 (e:Cz (.list g) l u t=some (.list (d.map .str))):FX C V O (.Subscript v (.Slice lo b st f) i) d:=λ c s F G Q E hQ=>by
 refine Subscript_ (hb c s F G _ _ λ ov y m h z rv=>wpAny_Slice ?_);have A:=F.ac h;have H:=G.step h z;refine hl c {s with heap:=y,toks:=m} A H _ _ λ S B p o N p1=>?_;have W:=A.ac o;have Z:=H.step o N;refine hu c {s with heap:=B,toks:=p} W Z _ _ λ T D r w j p2=>?_;refine ht c {s with heap:=D,toks:=r} (W.ac w) (Z.step w j) _ _ λ U k x I J p3=>?_;have k5:A9 c.W k (k.push {cls:=.type "slice",data:=.fields #[S,T,U]}):=.push _ _;have M:=((o.trans w).trans I).trans k5;obtain⟨a0,L⟩:=N5 lo b st f ov k.objs.size;obtain⟨a,rfl,ws,n,Y,z1,r1⟩:=(rv.at M).list;have q:=DG e;have hx:Iw g l u t=d.map .str:=PV.list.inj q.2;have R:=Mx r1 l u t;rw[hx] at R;refine CH (s:={s with heap:=k.push {cls:=.type "slice",data:=.fields #[S,T,U]},toks:=x}) (T:="list") ⟨_,Y,rfl⟩ slot_list_getitem.lookup ?_ L;exact wpAny_getItem_list_slice ⟨_,Y,rfl,_,rfl⟩ ⟨_,Ak _ rfl,rfl,rfl⟩ p1 p2 p3 q.1.1 (hQ _ _ _ (Gy (h.trans M) (Bv _)) ((h.trans M).trans (.push _ _)) (Aa z (Aa N (Aa j J))) ⟨_,_,Ak _ rfl,by have:=R.length;have:=q.1.2;rw[hx] at this;simp at*;omega,Gu R⟩) (Aa z1 DX)
theorem FX.comp {a:List Str}(h:Cu C V O e (.list (a.map .str))):FX C V O e a:=λ c s F G Q E W=>by
 obtain⟨Z,b,_,_,h⟩:=h;rw[b];exact h c s F G none Q E λ D n p d m f g k l H r=>⟨m,H,λ w N=>W D w d f (k.bb g (λ o q i j=>by
  obtain⟨t,u,v,z,A,_⟩:=H;obtain rfl:=AF i z;cases Eq.trans (Eq.symm j) A) N) l (BM.sk (r.bb N Ac))⟩
theorem P7 (a b:List Addr):Er (a++b)=Er a++Er b:=BR
theorem T9 (Gk:Dt W C k mg mb)(hA:Cc k A)(B:XB W V z N)(S:XS W V z N Z X s O){t u:List (List Str)}
 (g1:Yt HV V O l p t1 f i t) (g2:Yt HV V O m y D g j u) (hz:t.length+u.length<=Bf) (hx:AI V x=true) {G:Flow->Shared->Prop}
 (hQ:∀h' tk rs L0 n,XS W V z N (rs++Z) (rs++X) {s with heap:=h',toks:=tk} (AN O x (.ao (.ref L0)))->A9 W N h'->s.toks<=tk->h'.get? L0=some (Fd (rs.map Value.ref).toArray n)->rs.Nodup->(∀r∈rs,s.heap.get? r=none)->L0∉rs++X->Di W X h' rs (t++u)->G .next {s with heap:=h',toks:=tk}):
 wpAny W.M A (exec (.Assign [.Name x I] (.BinOp (.ListComp p [⟨t1,f,i,0⟩] l L) .Add (.ListComp y [⟨D,g,j,0⟩] m M) R) J) z) G E s:=by
 have hX:∀b∈X,W.h0.get? b=none:=λ b N=>(S.F.alive b N).1;refine BA (t:=.Name x I) rfl rfl rfl (Ja (GB Gk hA g1 S.F (S.gd B) λ D1 a1 b0 H m1 c4 a3 a4 p c5 c6 R1=>?_));have a2:=S.ac a3 a4;refine GB (s:={s with heap:=a1,toks:=b0}) Gk hA g2 a2.F (a2.gd B) λ D2 h a0 w m2 c7 Q a5 y c8 b4 R2=>?_;have b5:XS W V z N Z X {s with heap:=h,toks:=a0} O:=a2.ac (tk:=a0) Q a5;have b6:D1∉X:=λ q=>by obtain⟨o,Y⟩:=S.F.am D1 q;exact BZ c4 Y
 have b7:D2∉X:=λ q=>by obtain⟨o,Y⟩:=a2.F.am D2 q;have b8:a1.get? D2=none:=c7;exact BZ b8 Y
 have ra:Rp W X h (.ref D1) (.list (Er H)):=.list (Q.keep p (by simp) (by simp)) b6 (by have:=R1.len;simp;omega) (by
  show RpL W X _ (H.map Value.ref).toArray.toList _;exact Mz H)
 have rb:Rp W X h (.ref D2) (.list (Er w)):=.list y b7 (by have:=R2.len;simp;omega) (by
  show RpL W X _ (w.map Value.ref).toArray.toList _;exact Mz w)
 have b9:FE .Add (.list (Er H)) (.list (Er w))=some (.list (Er (H++w))):=by
  show(if(Er H).length+(Er w).length<=Bf then some (PV.list (Er H++Er w)) else none)=_;have l1:=R1.len;have l2:=R2.len;rw[if_pos (by unfold Er;simp;omega),<-P7]
 refine Nv (s:={s with heap:=h,toks:=a0}) ⟨_,rfl⟩ ra rb b9 _ _ λ v T b1 U a7 rv=>?_;obtain⟨rfl,vs,n3,e3,z3,rl⟩:=rv;have c9:vs=((H++w).map Value.ref).toArray:=by rw[<-SN rl]
 subst c9;have d2:∀r∈w,s.heap.get? r=none:=λ r hr=>Gy a3 (b4 r hr);have al1:∀r∈H,∃o,a1.get? r=some o:=λ r hr=>by obtain⟨_,_,c,rc⟩:=R1.mem r hr;obtain⟨o,Y,_⟩:=rc.some;exact⟨o,Y⟩
 have c0:∀r∈w,∃o,h.get? r=some o:=λ r hr=>by obtain⟨_,_,c,rc⟩:=R2.mem r hr;obtain⟨o,Y,_⟩:=rc.some;exact⟨o,Y⟩
 have a6:A9 W s.heap T:=a3.trans (Q.trans U);have dd:∀r∈H++w,s.heap.get? r=none/\∃o,T.get? r=some o:=λ r hr=>by
  rcases Ao.mp hr with q |q
  ·exact⟨c6 r q,Bc (Q.trans U) (al1 r q)⟩
  ·exact⟨d2 r q,Bc U (c0 r q)⟩
 have nd:(H++w).Nodup:=by
  rw[List.nodup_append];refine⟨c5,c8,λ a ha b N q=>?_⟩;obtain⟨o,Y⟩:=al1 a ha;have b8:a1.get? b=none:=b4 b N;rw[q,b8] at Y;cases Y
 have c1:h.objs.size∉(H++w)++X:=λ q=>by
  have fr:=Bv h;rcases Ao.mp q with q |q
  ·rcases Ao.mp q with q |q
   ·obtain⟨o,Y⟩:=Bc Q (al1 _ q);exact BZ fr Y
   ·obtain⟨o,Y⟩:=c0 _ q;exact BZ fr Y
  ·obtain⟨o,Y⟩:=b5.F.am _ q;have b8:h.get? h.objs.size=none:=fr;exact BZ b8 Y
 have c2:XS W V z N ((H++w)++Z) ((H++w)++X) {s with heap:=T,toks:=b1} O:=
  ⟨S.F.pd (S.gd B).al a6 dd,S.le.trans a6,Aa S.tk (Aa a4 (Aa a5 a7)),λ a ha hz=>by
    rcases Ao.mp ha with q |q
    ·exact absurd (AO _ q) hz
    ·exact S.fr a q λ q'=>hz (At _ q'),S.fc.bd a6⟩
 refine XS.pg B c2 (x:=x) (sl:=.ao (.ref h.objs.size)) hx rfl (λ d q=>nomatch q) λ a8 b2 a9 b3 c3=>?_;have nw:∀b,C3 V z b->b∈X:=λ b q=>S.F.bq q;have kp:∀b o,b∉X->T.get? b=some o->a8.get? b=some o:=λ b o q e=>b3.keep b o (λ q'=>q (nw b q')) e;have RR:Di W X T (H++w) (t++u):=(R1.be λ b o e n hd=>⟨CG (Q.trans U) e hd,n⟩).append (R2.be λ b o e n hd=>⟨CG U e hd,n⟩);exact hQ a8 b2 (H++w) h.objs.size n3 a9 a9.le (Aa a4 (Aa a5 (Aa a7 c3))) (kp _ _ (λ q=>c1 (At _ q)) e3) nd (λ r hr=>(dd r hr).1) c1 (RR.be λ b o e n hd=>⟨kp b o n e,n⟩)
end
section
variable {A:Around}{E:B3}{z:Env}{C:A5}
theorem Di.s9 {a:List Addr}(x:Di b X h a l)(k:∀r∈a,r∉c):RpL W c h (a.map Value.ref) (Cw l):=by
 induction x with
 |nil=>exact .nil
 |cons _ _ x _ o=>
  obtain⟨A,n,e,z,s⟩:=x;exact .cons (.list e (k _ Ac) z (Gu s)) (o λ y w=>k y (Ad _ w))
theorem Ux (Gk:Dt W C k mg mb)(hA:Cc k A)(B:XB W V z N)(S:XS W V z N Z X s O)(o:FI W V z G I s.heap i)
 (hc:Yt HV V i g m t1 c d j) (hx:AI V x=true) {t:Flow->Shared->Prop} (hQ:GT W V z N Z X s (.next (AN O x (.aa (.list (Cw j))))) t):
 wpAny W.M A (exec (.Assign [.Name x J] (.ListComp m [⟨t1,c,d,0⟩] g p) v) z) t E s:=by
 have L:EO V (.Name x J) (.list (Cw j)) O=some (AN O x (.aa (.list (Cw j)))):=Fr hx;obtain⟨b,M⟩:∃b,swapsWithSole [.Name x J] (.ListComp m [⟨t1,c,d,0⟩] g p) v.line z=pure b:=⟨_,rfl⟩;have aX:∀b,s.heap.get? b=none->b∉X:=λ b N q=>Ey N (S.F.am b q) rfl;have hz:j.length<=Bf:=by obtain⟨_,l,_,q,f,e,_,_,_,_,hz⟩:=hc;exact e▸Af (as:=l.filter q) f▸Aa (BW q l) hz
 cases b with
 |false=>
  refine BA rfl M rfl (GB Gk hA hc o (S.gd B) λ D T a3 vs n hD w H eD nd dd R=>?_);have rr:Rp W X T (.ref D) (.list (Cw j)):=.list eD (aX D hD) (by have:=R.len;simp;omega) (by
   show RpL W X _ (vs.map Value.ref).toArray.toList _;exact R.s9 λ r hr=>aX r (dd r hr))
  exact EC hA.handled B (S.ac w H) L rr λ U Q Y St a0=>hQ U Q Y (w.aj.trans (St.aj λ a ha=>S.F.bq ha)) (Aa H a0)
 |true=>
  rw[arm_exec_Assign];refine Ab (AL (Ab (Dc M (H6 (MR (Ab ?_))))));rw[show ∀u,evalThenUse (.ListComp m [⟨t1,c,d,0⟩] g p) z u=(do let _ <-comprehension (.ListComp m [⟨t1,c,d,0⟩] g p) g z (firstIterPos [⟨t1,c,d,0⟩] p) (newList []) false (eval c z) (some u)) from λ _=>rfl];refine Ab (C5 (Js (Q:=λ _ a1=>t .next a1) Gk hA hc o (S.gd B) λ D C' h' tk mm vs n hD hC a4 a5 l hn eD nd a2 R _=>?_) (λ _ _ h=>Ag (Ag h)) λ _ _ x=>x);refine Mp B S hA.handled L hQ hC a5 l hn (.list eD (λ q=>?_) (by have:=R.len;simp;omega) ?_)
  ·rcases Ae.mp q with q |q
   ·exact a4 q
   ·exact aX D hD q
  ·show RpL W (C'::X) _ (vs.map Value.ref).toArray.toList _;exact R.s9 λ y hy q=>by
    rcases Ae.mp q with q |q
    ·exact(R.ay y hy).2 (q▸Ac)
    ·exact aX y (a2 y hy) q
theorem FI.over (F:FI W V z Z X h O)(k:∀r∈rs,r∈X/\r∉Ay z)(A:A9 W (Dq h rs) H)(E:∀r∈rs,∃o,H.get? r=some o)(s:∀y d,O.lookup y≠some (.own d)):FI W V z Z X H O:=
 have g:∀{v d},Rp W X h v d->Rp W X H v d:=λ r=>Rp.ac A (r.be λ b o e n _=>⟨(Cr λ q=>n (k b q).1).trans e,n⟩)
 F.same F.ba F.zx (λ m n=>Co A (by
  obtain⟨o,N,Q,w,r⟩:=n;exact⟨o,N,Q,(Cr λ q=>(k _ q).2 Ac).trans w,r⟩)) (λ _ _ _ e i=>EM A (by
  obtain⟨o,w,a⟩:=i;exact⟨o,(Cr λ q=>(k _ q).2 (BP e)).trans w,a⟩)) (λ y _ c f r=>by
   cases c with
   |aa e=>exact g r
   |ao u=>exact r
   |nn u d=>exact⟨r.1,g r.2⟩
   |own e=>exact absurd f (s y e)) λ b C=>⟨(F.alive b C).1,by
    by_cases q:b∈rs
    ·exact E b q
    ·obtain⟨o,w⟩:=(F.alive b C).2;exact Bc A ⟨o,(Cr q).trans w⟩⟩
theorem Qh (k:A9 W N h)(s:∀r∈a,N.get? r=none)(w:∀r∈a,∀o z,h.get? r=some o->o.data≠.fields z):A9 W N (Dq h a):=by
 refine⟨λ b o e=>?_,λ t=>Og (k.2 t) a w⟩;have q:b∉a:=λ q=>by replace e:=Eq.trans (Eq.symm (s b q)) e;contradiction
 rw[Cr q];exact k.1 b o e
theorem CZ.sm (f:CZ z h)(k:∀r∈a,r∉Ay z):CZ z (Dq h a):=f.at λ o s=>(Cr λ q=>k _ q Ac).trans s
theorem XS.over (S:XS W V z N Z X s O)(h:∀r∈rs,r∈X/\r∉Ay z/\N.get? r=none/\∀o C,s.heap.get? r=some o->o.data≠.fields C)(A:A9 W (Dq s.heap rs) H)(E:∀r∈rs,∃o,H.get? r=some o)(w:∀y d,O.lookup y≠some (.own d))(l:s.toks<=a):XS W V z N Z X {s with heap:=H,toks:=a} O:=
 ⟨S.F.over (λ r k=>⟨(h r k).1,(h r k).2.1⟩) A E w,(Qh S.le (λ r k=>(h r k).2.2.1) λ r k=>(h r k).2.2.2).trans A,Aa S.tk l,S.fr,(S.fc.sm λ r k=>(h r k).2.1).bd A⟩
end
section
variable {A:Around}{E:B3}{z:Env}{C:A5}
theorem YE (N:A.units+2<cLine)(I:F4 s.heap e (.type "RuntimeError") (.str m a))(O:Q (.str m a) s):wpAny W.M A (call (.type "str") [.ref e]) Q E s:=
 callType_new F.called_str (by decide) (F.typeCall_str_1 _) (F.newCall_str_1 _) (λ o=>F.args_object_init_2 o _) F.entry_str_new
  (meets_str_new (S:=λ w R k=>w.units+1<cLine/\k.heap=s.heap/\R (.ok (.ret (.str m a))) k)
   λ _ _ w _ k z=>by
    obtain⟨j,l,p,q,V⟩:=k;obtain⟨C,h,H⟩:=z;simp only at h;subst h;obtain⟨Z,b,t,n,c,d,f,g,i⟩:=I;exact strOf_exc_one (A:=w.in1) F.excStr_RuntimeError C (t0:=t) ⟨Z,b,c,d,f,g⟩ ⟨_,n,i,rfl,rfl⟩ H)
  ⟨(show A.units+1+1<cLine from N),rfl,GO _ _ _,O⟩
theorem Nh (n:A.units<9000)(p:Ix r=true)(q:CC W A (eval l z) s (λ v O=>Rp W X1 O v d1))(t:∀k h,A9 W s.heap k->s.toks<=h->CC W A (eval r z) {s with heap:=k,toks:=h} (λ v O=>Rp W X1 O v d2))(e:H8 a d1 d2=some b):
 CC W A (eval (.Compare l [a] [r] c) z) s (λ v O=>v=.bool b):=λ Q E i=>
 wpAny_Compare1 (q _ _ λ v k h o w u=>t k h o w _ _ λ v2 V H C Z j=>by
  have:=CC.of (W:=W) (A:=A) (s:={s with heap:=V,toks:=H}) (t:=compareOp a v v2) (P:=λ v O=>v=.bool b) λ Q E i=>HM (X:=X1) n (u.ac C) (.inl j) e λ x=>i _ _ x (.refl _) rfl;exact this _ _ λ v3 d N f g m=>i v3 d N ((o.trans C).trans f) (Aa w (Aa Z g)) m) (Me p)
theorem Q0 (f:CC W A (eval x z) s (λ v Z=>v=.bool b))(g:b=true->∀k h,A9 W s.heap k->s.toks<=h->CC W A (boolOp c .And (evalEach (y::a) z)) {s with heap:=k,toks:=h} (λ v Z=>v=.bool d)):
 CC W A (boolOp c .And (evalEach (x::y::a) z)) s (λ v Z=>v=.bool (b&&d)):=λ Q E e=>by
 show wpAny W.M A (do let v <-eval x z;standAt c;let t <-holding [v] (truthy v);match BoolOp.And,t with | .And,false=>pure v | .Or,true=>pure v |_,_=>boolOp c .And (evalEach (y::a) z)) Q E s;refine Ab (f _ _ λ v k h o w i=>?_);subst i;refine Ab (AL (Ab (Bk (CQ ?_))));cases b with
 |false=>exact Ag (e _ k h o w rfl)
 |true=>exact g rfl k h o w _ _ λ v2 H C N O V=>e v2 H C (o.trans N) (Aa w O) V
noncomputable def No (P:Nat->Pos)(K:Nat->Nat):List Expr:=[.Compare (.Name "best" (P 0)) [.Is] [.Constant .none (K 0) (P 1)] (P 2),.Compare (.Call (.Name "str" (P 3)) [.Name "error" (P 4)] [] (P 5)) [.Eq] [.Constant (.str "Inconsistent hierarchy") (K 1) (P 6)] (P 7),.Compare (.Name "rows" (P 8)) [.Eq] [.Name "left" (P 9)] (P 10)]
theorem Nc (k:XV c=some d):CC W A (eval (.Constant c e a) z) s (λ v o=>Rp W X o v d):=by
 cases c with
 |none=>cases k;exact λ Q E h=>wpAny_Constant_none (h _ s.heap s.toks (.refl _) (Ah _) .none)
 |bool b=>cases k;exact λ Q E h=>wpAny_Constant_bool (h _ s.heap s.toks (.refl _) (Ah _) (.bool _))
 |int i=>cases k;exact λ Q E h=>wpAny_Constant_int (h _ s.heap (s.toks+1) (.refl _) (A8 _) (.int _ _))
 |str x=>
  obtain⟨q,rfl⟩:=Xh k;exact λ Q E h=>FM (h _ s.heap (s.toks+1) (.refl _) (A8 _) (.str _ _ (Kc q).1 (Kc q).2))
 |_=>cases k
theorem aU {f:List Addr}{m:Pos}{P:Nat->Pos}{K:Nat->Nat}(U:Dt W C k mg mb)(R:A.units<9000)(F:FI W V z Z X s.heap O)(G:Gd W s){d:PV}{b left:List (List Str)}{g l e:Addr}{t:Tok}{i j:Bool}(hb:O.lookup ("best":Str)=some (.aa d))(he:O.lookup ("error":Str)=some (.ao (.ref e)))(S:O.lookup ("rows":Str)=some (.ao (.ref g)))(hl:O.lookup ("left":Str)=some (.aa (.list (Cw left))))
 (hL:s.heap.get? g=some (Fd (f.map Value.ref).toArray l)) (hz:f.length<=Bf) (B:En W s.heap f b) (I:F4 s.heap e (.type "RuntimeError") (.str Kw t)) (hg:BU V "str"=true) (e1:H8 .Is d .none=some i) (e3:KE (.list (Cw b)) (.list (Cw left))=some j):
 CC W A (boolOp m .And (evalEach (No P K) z)) s (λ v h'=>v=.bool (i&&(true&&j))):=by
 unfold No;refine Q0 (Nh (X1:=X) R rfl (λ Q E D=>F.name hb λ v r=>D v s.heap s.toks (.refl _) (Ah _) r) (λ o h H u=>Nc (by rfl)) e1) λ _ o h H u=>?_;have n:=F.ac H;have J:=G.step H u;refine Q0 (s:={s with heap:=o,toks:=h}) (Nh (X1:=X) (d1:=.str Kw) (d2:=.str Kw) R rfl (λ Q E D=>?_) (λ N w p L=>Nc (by kernel_rfl)) (by kernel_rfl)) λ _ N w p L=>?_
 ·refine Bu (BK (s:={s with heap:=o,toks:=h}) U n J hg (.inr (U.blt .str)) ?_);refine B2 (es:=[.Name "error" (P 4)]) rfl ?_;refine GR rfl (AV (Ap (FI.ao (s:={s with heap:=o,toks:=h}) n he (AR ?_))));exact YE (s:={s with heap:=o,toks:=h}) (by have:cLine=9900:=rfl;omega) (I.bd (by simp) H) (D _ o h (.refl _) (Ah _) (.str Kw t (by decide+kernel) (by decide+kernel)))
 ·have x:=n.ac p;show CC W A (eval (.Compare (.Name "rows" (P 8)) [.Eq] [.Name "left" (P 9)] (P 10)) z) _ _;have Y:=H.trans p;obtain⟨c,hc,T⟩:=B;refine Nh (s:={s with heap:=N,toks:=w}) (X1:=[]) R rfl (λ Q E D=>FI.ao (s:={s with heap:=N,toks:=w}) x S (D _ N w (.refl _) (Ah _) ?_)) (λ y q M a0 Q E D=>FI.name (s:={s with heap:=y,toks:=q}) (x.ac M) hl λ v r=>D v y q (.refl _) (Ah _) (Rp.ag (Y:=[]) (λ a ha=>absurd ha (by simp)) r)) e3;refine .list (Y.keep hL (by simp) (by simp)) (by simp) (by simpa using hz) ?_;rw[<-hc];show RpL W [] N (f.map Value.ref).toArray.toList _;exact RB c f λ r S=>⟨by simp,(T r S).bd Y⟩
theorem gX {i:List Addr}{Y q2 q3 q4 q6 q7 q8:Pos}{D:List Env}{J:Scope}{P:Nat->Pos}{K:Nat->Nat}(Gk:Dt W C k mg mb)(B:XB W V z N)(f2:Vl W A z N D)(S:XS W V z N Z X s O){u:Addr}{oc:Obj}{j:Nat->Pos}{L:Nat->Nat}(fo:EH W u fd ["sequences"] (Np J j L))(f3:mg "_c3_merge"=some (.ref u))(T:TL fd.scope J j)
 (f4:∀n,swapsWithSole [.Name "sequences" (j 23)] (.ListComp (.Name "s" (j 24)) [⟨.Name "s" (j 25),.Name "sequences" (j 26),[.Name "s" (j 27)],0⟩] J (j 28)) (j 29).line (callEnvC fd n u)=pure true) (c8:mg "RuntimeError"=none/\mb "RuntimeError"=some (.type "RuntimeError")) (hA:Cc (k+1) A)
  {m left:List (List Str)} {p x:Nat} {best:PV} (hL:s.heap.get? p=some (Fd (i.map Value.ref).toArray x)) (b2:p∉i++X) (f5:i.Nodup) (hz:i.length<=Bf) (a2:∀r∈i,r∈X/\r∉Ay z/\N.get? r=none) (c9:En W s.heap i m) (d0:∀y d,O.lookup y≠some (.own d))
 (l1:O.lookup ("rows":Str)=some (.ao (.ref p))) (l2:O.lookup ("best":Str)=some (.aa best)) (l3:O.lookup ("left":Str)=some (.aa (.list (Cw left)))) (hm:AI V "merged"=true) (d1:V.names.lookup ("error":Str)=some .local) (g1:BU V "_c3_merge"=true) (g2:BU V "RuntimeError"=true) (g3:BU V "str"=true)
 {fuel:Nat} (hf:fuel<=Bf) {f:Option (List Str)} {g:List (List Str)} (e:LU fuel m []=some (f,g)) {M U G:Pos} {I:Flow->Shared->Prop}
 (hQ:∀a5,f=some a5->∀h' tk,XS W V z N Z X {s with heap:=h',toks:=tk} (AN O "merged" (.aa (.list (a5.map .str))))->h'.get? p=some (Fd (i.map Value.ref).toArray x)->En W h' i g->s.toks<=tk->I .next {s with heap:=h',toks:=tk})
 (hE:f=none->∃b1 b3,H8 .Is best .none=some b1/\KE (.list (Cw g)) (.list (Cw left))=some b3/\∀h' tk,A9 W N h'->s.toks<=tk->I (.ret (.bool (b1&&(true&&b3)))) {s with heap:=h',toks:=tk}):
 wpAny W.M A (exec (.Try [.Assign [.Name "merged" Y] (.Call (.Name "_c3_merge" q2) [.Name "rows" q3] [] q4) M] [.ExceptHandler (some (.Name "RuntimeError" q6)) (some "error") [.Return (some (.BoolOp .And (No P K) q7)) q8] U] [] [] G) z) I E s:=by
 obtain⟨c,hc,d2⟩:=c9;obtain⟨of,f6,f7,d3,d4⟩:=fo.obj;have f8:∀r∈i,W.h0.get? r=none/\BM W s.heap r (c r):=λ r hr=>⟨(S.F.alive r (a2 r hr).1).1,d2 r hr⟩;have f9:∀r∈i,∀f vs,s.heap.get? r=some f->f.data≠.fields vs:=λ r hr f vs e=>by
  obtain⟨us,n,e1,_⟩:=d2 r hr;obtain rfl:=AF e1 e;simp
 have b4:∀{h' tk},A9 W (Dq s.heap i) h'->En W h' i g->s.toks<=tk->XS W V z N Z X {s with heap:=h',toks:=tk} O:=λ{h' tk} H R l=>
  S.over (λ r hr=>⟨(a2 r hr).1,(a2 r hr).2.1,(a2 r hr).2.2,f9 r hr⟩) H (λ r hr=>by obtain⟨c',_,h2⟩:=R;obtain⟨f,ho,_⟩:=(h2 r hr).some;exact⟨f,ho⟩) d0 l
 have LL:∀{h'},A9 W (Dq s.heap i) h'->h'.get? p=some (Fd (i.map Value.ref).toArray x):=λ{h'} H=>H.keep ((Cr λ q=>b2 (AO _ q)).trans hL) (by simp) (by simp);have hu:A.units<9000:=hA.u (b:=0) (Ah _);refine GN (Aj (BA (t:=.Name "merged" Y) rfl rfl rfl ?_));refine Jb λ Q' E' gQ gE=>?_;refine Bu (BK Gk S.F (S.gd B) g1 (.inl f3) ?_);refine B2 (es:=[.Name "rows" q3]) rfl ?_;have d5:s.heap.get? u=some of:=(S.gd B).al.keep f6 d3 d4;refine B5 (o:=of) (fd:=fd) (AV (Ap (S.F.ao l1 (AR ⟨⟨d5,f7⟩,?_⟩))));refine aY Gk fo T f4 c8 hA f2.fr (f2.stack S) (S.gd B) hL (λ q=>b2 (AO _ q)) f5 hz f8 hf (by rw[hc];exact e) (λ a5 ho a a6 h ha b5 o ra b6=>?_) λ ho d6 a6 h ex t o b7 b8 d7 c3=>?_
 ·refine gQ _ _ ?_;have d8:=b4 b5 b6 o;have aX:a∉X:=λ q=>by obtain⟨f,ho⟩:=S.F.am a q;exact BZ ha ho
  refine XS.pg B d8 (x:="merged") (sl:=.aa (.list (a5.map .str))) hm (ra.rp aX) (λ d q=>nomatch q) λ w c4 a4 Q d9=>Bd (Bd ?_);have kp:∀b f,b∉X->a6.get? b=some f->w.get? b=some f:=λ b f q e=>Q.keep b f (λ q'=>q (S.F.bq q')) e;refine hQ a5 ho w c4 a4 (kp _ _ (λ q=>b2 (At _ q)) (LL b5)) ?_ (Aa o d9);obtain⟨c',h1,h2⟩:=b6;refine⟨c',h1,λ r hr=>(h2 r hr).keep λ f e d=>Q.keep r f (λ q=>?_) e⟩;rcases q with q |⟨y,_,q⟩
  ·exact(a2 r hr).2.1 (q▸Ac)
  ·exact(a2 r hr).2.1 (BP q)
 ·refine gE _ _ ?_;obtain⟨b1,b3,e1,e3,g0⟩:=hE ho;have b9:XS W V z N Z X {s with heap:=d6,toks:=s.toks} O:=b4 b7 b8 (Ah _);refine OH (s:={s with heap:=a6,toks:=h}) (by simp) f2.fr c3 d7 λ w a7 Q=>?_;have a4:XS W V z N Z X {s with heap:=w,toks:=h} O:=b9.ac a7.t9 o;have e0:=a4.gd B;refine wpAny_handleBy_cons (codeAny_handlers_test (BK (s:={s with heap:=w,toks:=h}) Gk a4.F e0 g2 (.inr c8) ?_)) (by intro q;cases q);obtain⟨oe,vs,t',n,i1,i2,i3,i4,i5⟩:=a7.is;refine wpAny_excMatches_type (s:={s with heap:=w,toks:=h}) ⟨oe,i1,i2⟩ F.isExc_RuntimeError F.notTuple_RuntimeError F.self_RuntimeError ?_;refine codeAny_handlers_suite_as (Hu.again (s:={s with heap:=w,toks:=h}) (by simp) Q a7 λ c0 e2 g4 a8=>?_);have c1:XS W V z N Z X {s with heap:=c0,toks:=h} O:=b9.ac a8 o;have g5:AI V "error"=true:=EY d1 (by decide+kernel);refine c1.putName B g5 (sl:=.ao (.ref ex)) rfl (λ d q=>nomatch q) λ a1 c5 a9 a3 e4=>?_;have e5:F4 a1 ex (.type "RuntimeError") (.str Kw t):=e2.is.bg c1.F a3;have kp:∀b f,b∉Ay z->c0.get? b=some f->a1.get? b=some f:=λ b f q e=>a3.keep b f (λ q'=>q (by
   rcases q' with q' |⟨y,_,q'⟩
   ·exact q'▸Ac
   ·exact BP q')) e
  have L4:a1.get? p=some (Fd (i.map Value.ref).toArray x):=a3.keep p _ (λ q=>b2 (At _ (S.F.bq q))) (a8.keep (LL b7) (by simp) (by simp));have R4:En W a1 i g:=by
   obtain⟨c',h1,h2⟩:=b8;exact⟨c',h1,λ r hr=>((h2 r hr).bd a8).keep λ f e d=>kp r f (a2 r hr).2.1 e⟩
  have b0:∀{y:Str}{sl},y≠"error"->O.lookup y=some sl->(AN O "error" (.ao (.ref ex))).lookup y=some sl:=λ{y sl} q e=>by rw[Ba,if_neg q];exact e
  refine Aj (CR (aU (A:=A.mark (some (.ref ex))) (s:={s with heap:=a1,toks:=c5}) Gk hu a9.F (a9.gd B) (b0 (by decide+kernel) l2) (by rw[Ba,if_pos rfl]) (b0 (by decide+kernel) l1) (b0 (by decide+kernel) l3) L4 hz R4 e5 g3 e1 e3 _ _ λ v e6 c6 e7 c2 hv=>?_));subst hv;have e8:=a9.ac e7 c2;exact XS.qp (s:={s with heap:=e6,toks:=c6}) B e8 d1 (by decide+kernel) λ e9 c7 f0 g6 f1=>g0 e9 c7 f0.le (Aa o (Aa e4 (Aa c2 f1)))
end
section
variable {A:Around}{E:B3}{z:Env}{C:A5}
theorem T7 (S:XS W V z N Z X s O)(w:s.heap.get? a=some o)(A:o.data=.seq b n):¬C3 V z a:=λ q=>by
 rcases q with q |⟨x,C,q⟩
 ·obtain⟨E,H,Q,h,_,k⟩:=S.fc;rw[<-q,w] at h;cases h;cases Eq.trans (Eq.symm A) k
 ·obtain⟨c,d,e,⟨E,h,k⟩,_⟩:=S.F.cell x (.inl C);obtain rfl:=AF q e;obtain rfl:=AF w h;cases Eq.trans (Eq.symm A) k
theorem Sf (L:Dt W C k mg mb)(M:Cc k A)(F:FI W V z Z X s.heap O)(G:Gd W s)
 (hQ:∀v S D t n v1 v2,A9 W s.heap v->s.toks<=S->s.heap.get? D=none->s.heap.get? t=none->t≠D->v.get? t=some (Jk #[.ref D,v1,v2] n)->Bo W (D::X) v D (.dict [])->Rp W (D::X) v v1 (.list [])->Rp W (D::X) v v2 (.list [])->Q (.ref t) {s with heap:=v,toks:=S}):
 wpAny W.M A (eval (.Tuple [.Dict [] [] b,.List [] c,.List [] d] e a) z) Q E s:=by
 rw[Ik,A7 a z _ rfl];refine Ab (AL (Ab ?_));refine Ap (Yr.dict ⟨W,A,z,Z,X,_,mg,mb,L,M⟩ s F G _ _ λ D i r T H j g=>?_);have U:=F.ac H;have l:=G.step H j;have Y:FI W V z (D::Z) (D::X) i O:=F.fresh G.al H T g.alive;refine Ap (CE.list .nil (AP _) ⟨W,A,z,D::Z,D::X,_,mg,mb,L,M⟩ {s with heap:=i,toks:=r} Y l _ _ λ v1 m w h p x=>?_);have y:Gd W {s with heap:=m,toks:=w}:=l.step (tk:=w) h p;refine Ap (CE.list .nil (AP _) ⟨W,A,z,D::Z,D::X,_,mg,mb,L,M⟩ {s with heap:=m,toks:=w} (Y.ac h) y _ _ λ v2 N u f B I=>?_);refine AR ?_;have J:A9 W s.heap N:=H.trans (h.trans f);have fr:s.heap.get? N.objs.size=none:=Gy J (Bv _);have R:N.objs.size≠D:=λ q=>by
  obtain⟨o,ho⟩:=Bc (h.trans f) g.alive;rw[<-q,Bv] at ho;cases ho
 refine BJ (hQ _ u D N.objs.size 0 v1 v2 (J.trans (.push _ _)) (Aa j (Aa p B)) T fr R (Ak _ rfl) (((g.ac h).ac f).ac (.push _ _)) (((x.ac f)).ac (.push _ _)) (I.ac (.push _ _))) (by show 3<=sizeLine;simp[sizeLine])
theorem TS {n:List PV}{P:Nat->Pos}{K:Nat->Nat}(Gk:Dt W C k mg mb)(B:XB W V z N)(e8:Vl W A z N p)(S:XS W V z N Z X s O)(b9:∀y d,O.lookup y≠some (.own d))(d3:∀b∈X,C3 V z b)(R:TD W mg mb I)(d4:mg "reduce"=some (.ref I)){j:FuncData}(fo:EH W L j ["state","reply"] (Gn U c g l P K))(T:IP j.scope U c g)(d5:mg "_law_heard"=some (.ref L))
 (x1:El W mg "error_reply" C1 G) (x2:El W mg "error_proto" u m) (d6:(Value.ref u::m).contains (.ref C1)=false) (hA:Cc (k+2) A) (ht:CE C V O f (.list n)) (d7:B1 f=true)
 {es:Nat->List (Str×PV)} {hs ss:Nat->List PV} (e0:es 0=[]) (h0:hs 0=[]) (s0:ss 0=[]) (hR:∀i x,n[i]? =some x->∃r,x=.str r/\Q5 W C k j.scope P K c g l C1 u r (es i) (hs i) (ss i) (es (i+1)) (hs (i+1)) (ss (i+1)))
  (hx:AI V x=true) (g1:BU V "reduce"=true) (g2:BU V "_law_heard"=true) {M:Flow->Shared->Prop}
 (hQ:∀h' tk D t nt v1 v2,XS W V z N (D::Z) (D::X) {s with heap:=h',toks:=tk} (AN O x (.ao (.ref t)))->s.heap.get? D=none->t∉D::X->h'.get? t=some (Jk #[.ref D,v1,v2] nt)->Rp W (D::X) h' v1 (.list (hs n.length))->Rp W (D::X) h' v2 (.list (ss n.length))->Bo W (D::X) h' D (.dict (es n.length))->s.toks<=tk->M .next {s with heap:=h',toks:=tk}):
 wpAny W.M A (exec (.Assign [.Name x q1] (.Call (.Name "reduce" q2) [.Name "_law_heard" q3,f,.Tuple [.Dict [] [] q4,.List [] Y,.List [] q6] kk q7] [] q8) a0) z) M E s:=by
 have c0:Cc k A:=hA.ag (by omega);have R0:=R;obtain⟨d8,_,_,c1⟩:=R0;obtain⟨d9,c2,e1,c3,c4⟩:=c1.obj;obtain⟨oh,f1,f2,e9,f0⟩:=fo.obj;refine BA (t:=.Name x q1) rfl rfl rfl (Bu (BK Gk S.F (S.gd B) g1 (.inl d4) ?_));refine B2 (by show(true&&(B1 f&&(true&&true)))=true;rw[d7];rfl) ?_;refine B5 (o:=d9) (fd:=d8) (AV (Ap (BK Gk S.F (S.gd B) g2 (.inl d5) ?_)));refine Ap (ht ⟨W,A,z,Z,X,_,mg,mb,Gk,c0⟩ s S.F (S.gd B) _ _ λ tv a2 b4 a7 a8 rt=>?_);have h:=S.ac a7 a8;refine Ap (Sf (s:={s with heap:=a2,toks:=b4}) Gk c0 h.F (h.gd B) λ w H D t nt v1 v2 a1 a9 hD c5 e2 eT oD r1 r2=>?_);refine AR ⟨⟨((B.al.trans h.le).trans a1).keep c2 c3 c4,e1⟩,?_⟩;have a3:XS W V z N ([D]++Z) ([D]++X) {s with heap:=w,toks:=H} O:=
  ⟨h.F.pd (h.gd B).al a1 (λ a ha=>by rw[BI.mp ha];exact⟨hD,oD.alive⟩),h.le.trans a1,Aa h.tk a9,λ a ha hz=>by
    rcases Ao.mp ha with q |q
    ·exact absurd (AO _ q) hz
    ·exact h.fr a q λ q'=>hz (At _ q'),h.fc.bd a1⟩
 have c6:s.heap.get? D=none:=Gy a7 hD;have b5:=KZ oD;have b0:Gd W {s with heap:=w,toks:=H}:=a3.gd B;have a5:∀b∈D::X,W.h0.get? b=none/\∃o,w.get? b=some o:=λ b N=>a3.F.alive b N;have D0:W.h0.get? D=none:=(a5 D Ac).1;have b6:A9 W W.h0 (Fm w (some D)):=MH b0.al (λ B q=>by cases q;exact D0) λ B q o vs e=>by cases q;exact(b5 o e).1 vs
 have t0:W.h0.get? t=none:=Dx (h.gd B).al c5;have f3:t∉D::X:=λ q=>by
  rcases Ae.mp q with q |q
  ·exact e2 q
  ·obtain⟨o,ho⟩:=h.F.am t q;have c7:a2.get? t=none:=c5;exact BZ c7 ho
 have e3:Rp W (D::X) w tv (.list n):=(rt.bc hD).ac a1;have St:=QB Gk fo T x1 x2 d6 (D:=D) (X:=D::X) Ac (N:=Fm w (some D)) b6 (λ b N=>⟨(a5 b N).1,by
  by_cases q:b=D
  ·exact .inl q
  ·right;obtain⟨o,ho⟩:=(a5 b N).2;exact⟨o,(Hg λ B' q'=>by cases q';exact q).trans ho⟩⟩) hR
 have e4:Cc (k+1+1) A:=hA;refine Ln (s:={s with heap:=w,toks:=H}) (ob:=some D) (X:=D::X) Gk R e4 b0 a5 e3 (λ B' q=>by cases q;exact⟨Ac,b5⟩) e8.fr (e8.stack a3) (t:=t) ⟨t0,_,eT⟩ St ⟨t,nt,v1,v2,rfl,eT,by rw[h0];exact r1,by rw[s0];exact r2,by rw[e0];exact oD⟩ λ b1 a4 v c8 b2 J=>?_;obtain⟨t',e5,w1,w2,rfl,b7,p1,p2,p3⟩:=J;have b3:XS W V z N ([D]++Z) ([D]++X) {s with heap:=b1,toks:=a4} O:=XS.over (s:={s with heap:=w,toks:=H}) a3 (rs:=[D]) (λ r hr=>by
  rw[BI.mp hr];refine⟨AO _ Ac,λ q=>?_,?_,λ o vs e=>(b5 o e).1 vs⟩
  ·obtain⟨o,ho⟩:=h.F.am D (h.F.zx _ (h.F.ba _ q));have c7:a2.get? D=none:=hD;exact BZ c7 ho
  ·exact Gy S.le c6) c8 (λ r hr=>by rw[BI.mp hr];exact p3.alive) b9 b2
 have tX:t'∉D::X:=λ q=>by
  rcases Ae.mp q with q |q
  ·obtain⟨o',e6,c9,_⟩:=P5 p3;rw[<-congrArg Obj.cls (AF (q▸b7) e6)] at c9;exact absurd (Value.type.inj c9) (by decide)
  ·exact T7 b3 (s:={s with heap:=b1,toks:=a4}) b7 rfl (d3 _ q)
 refine XS.pg B b3 (x:=x) (sl:=.ao (.ref t')) hx rfl (λ d q=>nomatch q) λ d0 b8 d1 Q d2=>?_;have nW:∀b,C3 V z b->b∈X:=λ b q=>S.F.bq q;have e7:¬C3 V z D:=λ q=>by obtain⟨o,ho⟩:=h.F.am D (nW D q);have c7:a2.get? D=none:=hD;exact BZ c7 ho
 have a6:∀a,C3 V z a->a∈D::X:=λ a q=>Ad _ (nW a q);exact hQ d0 b8 D t' e5 w1 w2 d1 c6 tX (Q.keep t' _ (λ q=>tX (a6 _ q)) b7) (Rp.bg a6 Q p1) (Rp.bg a6 Q p2) (Bo.bg Q a6 e7 p3) (Aa a8 (Aa a9 (Aa b2 d2)))
end
section
variable {A:Around}{E:B3}{z:Env}{C:A5}
theorem Bo.rp (x:Bo W X h a d)(k:a∉Y)(o:∀b∈Y,b∈X):Rp W Y h (.ref a) d:=by
 cases d with
 |list w=>obtain⟨A,n,e,z,l⟩:=x;exact .list e k z (l.ag o)
 |dict C=>obtain⟨s,e,y,z,q,l⟩:=x;exact .dict e k y z q (l.ag o)
 |_=>exact x.elim
theorem ZR (Gk:Dt W C k mg mb)(hA:Cc k A)(B:XB W V z N)(S:XS W V z N (D::Z) (D::X) s O)(hx:O.lookup x=some (.ao (.ref t)))(L:∀y d,O.lookup y≠some (.own d))(a0:∀a∈Ay z,a∈Z)(a1:∀a∈Z,a∈X)(R:D∉X)
 (ht:t∉D::X) (hT:s.heap.get? t=some (Jk #[.ref D,v1,v2] f)) (p1:Rp W (D::X) s.heap v1 l) (p2:Rp W (D::X) s.heap v2 m) (pD:Bo W (D::X) s.heap D (.dict n))
  (hr:CE C V O c (.aw [.dict g,i,j])) (a2:Ix c=true) (q1:Kr n g=some true) (q2:KE l i=some true) (q3:KE m j=some true) {p:Flow->Shared->Prop}
 (hQ:∀h' tk,XS W V z N Z X {s with heap:=h',toks:=tk} (AN O x (.aa (.aw [.dict n,l,m])))->s.toks<=tk->p .next {s with heap:=h',toks:=tk}):
 wpAny W.M A (exec (.If (.Compare (.Name x G) [.NotEq] [c] I) b [] J) z) p E s:=by
 have hu:A.units+20<cLine:=hA.u (by decide+kernel);refine J1 (Lg (S.F.ao hx (hr ⟨W,A,z,D::Z,D::X,_,mg,mb,Gk,hA⟩ s S.F (S.gd B) _ _ λ vb w H h M rb=>?_)) (Me a2));have Q:w.get? t=some (Jk #[.ref D,v1,v2] f):=h.keep hT (by simp) (by simp);have o:=S.ac h M;refine Yz (s:={s with heap:=w,toks:=H}) (X:=D::X) (Y:=D::X) hu Q (pD.ac h) (p1.ac h) (p2.ac h) Ac rb q1 q2 q3 (CQ ?_);simp only[A3,if_false];refine Bd (hQ w H ?_ M);have less:∀b∈X,b∈D::X:=λ b N=>Ad _ N;refine⟨o.F.re a0 a1 (λ a U=>o.F.alive a (less a U)) (λ _ _=>rfl) (λ y s' T=>?_) (λ y a3 d e Y h2=>?_),o.le,o.tk,λ a U hz=>o.fr a (less a U) λ q=>?_,o.fc⟩
 ·rw[Ba] at T;split at T
  ·rename_i q;subst q;cases T;refine⟨_,hx,λ v hv r=>?_⟩;have e:v=.ref t:=r;subst e;exact .aw Q (λ q=>ht (less t q)) (by simp[Bf]) (.cons ((pD.ac h).rp R less) (.cons ((p1.ac h).ag less) (.cons ((p2.ac h).ag less) .nil)))
  ·refine⟨s',T,λ v hv r=>?_⟩;cases s' with
   |aa d=>exact Rp.ag less r
   |ao u=>exact r
   |nn u d=>exact⟨r.1,Rp.ag less r.2⟩
   |own d=>exact absurd T (L y d)
 ·rw[Ba] at Y;split at Y
  ·cases Y
  ·exact absurd Y (L y d)
 ·rcases Ae.mp q with q |q
  ·exact R (q▸U)
  ·exact hz q
end
section
variable {A:Around}{E:B3}{z:Env}{C:A5}
structure TG (W:Bl)(mg:Str->Option Value)(sc:Scope)(env:Env)(ρ:AM)(params:Arguments)(body:Expr)(lsc:Scope)(pos:Pos)(ps:List Str)(φ:AM):Prop where
 rz:∃c P ls qual,bX W c P ls/\mainGlobals≠P/\W.h0.BuiltinsAt mg P/\env.code=.ref c/\(pos,qual)∈ls/\env.qual++"<lambda>"=qual
 dfl:defaultsOf params env=([],[])
 uw:Yg params body lsc ps
 nd:(lsc.names.map (·.1)).Nodup
 free:∀p∈lsc.names,p.2=.free->sc.names.lookup p.1=some .cell
 qs:∀x sl,φ.lookup x=some sl->lsc.names.lookup x=some .free/\CM x=true/\ρ.lookup x=some sl/\∃d,sl=.aa d
theorem Qp (Gk:Dt W C k mg mb)(L:TG W mg V z O g j b l m n)(F:FI W V z Z X s.heap O)(G:Gd W s)
 (hQ:∀B S f H,A9 W s.heap B->s.toks<=S->(∀a∈H.map (·.2),a∈X)->(∀Y:List Addr,(∀a∈Y,a∈X)->NC W B Y f j b m H n)->Q (.ref f) {s with heap:=B,toks:=S}):wpAny W.M A (eval (.Lambda g j b l) z) Q E s:=by
 refine C6 λ gg U=>?_;obtain⟨c,P,ls,D,LT,a0,a1,u,I,hq⟩:=L.rz;refine U ?_;have N:∀p∈b.names,p.2=.free->Yj W z Z X s.heap O p.1:=λ p o T=>F.cell p.1 (.inl (L.free p o T));have w:∀p∈b.names,p.2=.free->(z.cells.lookup p.1).isSome=true:=λ p o T=>by obtain⟨c,ov,e,_⟩:=N p o T;rw[e];rfl
 have t:∀x,(Ff z b.names []).lookup x=if b.names.lookup x=some .free then z.cells.lookup x else none:=λ x=>IJ x b.names [] L.nd w
 refine WS Gk LT a0 a1 F.na u I hq L.dfl (Jv w) G λ B S f cd ct h J T ho hc=>?_;have cX:∀a∈(Ff z b.names []).map (·.2),a∈X:=λ a M=>by
  refine C6 λ gg U=>?_;obtain⟨p,o,rfl⟩:=Al.mp M;refine U ?_;exact F.zx _ (F.ba _ (BP (Nl b.names [] w (λ p o=>nomatch o) p o)))
 refine hQ B S f (Ff z b.names []) h J cX λ Y hY=>⟨⟨D,g,_,cd,ct,ho,hc,L.uw⟩,λ x sl e=>?_,λ x hx=>?_,λ x y c R e2=>?_,λ a M=>?_⟩
 ·obtain⟨h1,h2,_,d,rfl⟩:=L.qs x sl e;exact⟨h1,h2,λ d q=>(by contradiction)⟩
 ·obtain⟨c,ov,e,i,hv⟩:=N (x,.free) (mem_of_lookup hx) rfl;refine⟨c,ov,by rw[t,if_pos hx];exact e,EM h i,λ sl hs=>?_⟩;obtain⟨_,_,hr,d,rfl⟩:=L.qs x sl hs;obtain⟨v,R,r⟩:=hv _ hr;refine⟨v,R,?_⟩;refine Rp.ag (λ a M=>?_) (r.ac h);rcases Ao.mp M with q |q
  ·exact cX a q
  ·exact hY a q
 ·rw[t] at R e2;split at R
  ·split at e2
   ·exact F.inj x y c R e2
   ·contradiction
  ·contradiction
 ·obtain⟨p,o,rfl⟩:=Al.mp M;have:=F.alive p.2 (F.zx _ (F.ba _ (BP (Nl b.names [] w (λ p o=>nomatch o) p o))));exact⟨this.1,Bc h this.2⟩
theorem N2 {b:List Value}{i:Nat}{a:List Str}(r:RpL W X h b (a.map .str))(k:i<a.length):Rp W X h (b.getD i .none) (.str (a.getD i Str.empty)):=by
 obtain⟨v,e,o⟩:=r.get (k:=i) (d:=.str (a.getD i Str.empty)) (by rw[Aw,AW k,Ax,AW k];rfl);rw[Ax,e];exact o
theorem dP {b:List Str}(r:RpL W X h c (b.map .str)){a:Str}(k:a∈b):PyData.strOk a=true/\a.length<=Bf:=
 r.br (P:=λ _ o=>PV.str a∈o->PyData.strOk a=true/\a.length<=Bf) (λ q=>absurd q AU) (λ v _ d _ s _ i q=>(Ae.mp q).elim (λ e=>by
   subst e;obtain⟨_,_,x,y⟩:=s.ah;exact⟨x,y⟩) i) (List.mem_map_of_mem k)
theorem Uv {k':Nat}{a0 U q2 Y q4 q6 q7 q8:Pos}{J:List Str}{d:Arguments}{y:Str}{T:AM}(Gk:Dt W C k mg mb)(hA:Cc (k+4) A)(B:XB W V z N)(S:XS W V z N Z X s O){I:Nat}{R:A5}(CT:TJ W mg mb R k' I)(c5:mg "cmp_to_key"=some (.ref I))(c6:∃o fd,W.h0.get? I=some o/\o.data=.func fd/\o.cls≠.type "frame"/\o.cls≠.none)(a8:W.h0.NoLimit)
 {c:Expr} {u:Scope} {m:Pos} (L:TG W mg V z O d c u m J T) (b3:J.length=2) {ns:List Str} {x:Str} (hy:O.lookup y=some (.aa (.list (ns.map .str)))) (hn:ns.length<7) {G:Nat->Nat->Bool} (ok:Le ns.length G) {g:Str->Str->Int}
 (c7:∀a∈ns,∀b∈ns,CE C u (J.zip [.aa (.str a),.aa (.str b)]++T) c (.int (g a b))) (c8:∀i j,i<ns.length->j<ns.length->G i j=decide (g (ns.getD i Str.empty) (ns.getD j Str.empty)<0)) (hx:AI V x=true) (g1:BU V "sorted"=true) (g2:BU V "cmp_to_key"=true)
  {M:Flow->Shared->Prop} (hQ:∀p,F3 ns.length G p->GT W V z N Z X s (.next (AN O x (.aa (.list ((p.map λ i=>ns.getD i Str.empty).map .str))))) M):
 wpAny W.M A (exec (.Assign [.Name x U] (.Call (.Name "sorted" q2) [.Name y Y] [⟨some "key",.Call (.Name "cmp_to_key" q4) [.Lambda d c u m] [] q6,q7⟩] q8) a0) z) M E s:=by
 refine C6 λ gg kk=>?_;obtain⟨o,fd,ho,hd,c9,d0⟩:=c6;refine kk ?_;refine BA (t:=.Name x U) rfl rfl rfl (wpAny_Call_Name_kw (BK Gk S.F (S.gd B) g1 (.inr (Gk.blt .sorted)) ?_));refine callWith_kw ?_;rw[A7 q8 z [.Name y Y] rfl];refine Ap (S.F.name hy λ v rv=>AR ?_);obtain⟨l,us,n,rfl,el,lX,lz,rl⟩:=(rv).ah;refine kws_cons (Bu (BK Gk S.F (S.gd B) g2 (.inl c5) ?_));refine B2 (es:=[.Lambda d c u m]) rfl ?_;refine B5 (o:=o) (fd:=fd) (AV (Ap (Qp Gk L S.F (S.gd B) λ b8 b4 f d3 Q a9 _ LO=>AR ⟨⟨((S.gd B).al.trans Q).keep ho c9 d0,hd⟩,?_⟩)));have b0:=S.ac Q a9;have cf:=ZE Gk (LO [] λ a ha=>absurd ha (by exact AU)) b3 a8 (N:=ns) (λ a ha=>dP rl ha) c7;refine CT.call (s:={s with heap:=b8,toks:=b4}) (k:=k) (hA.ag (by omega)) (b0.gd B) cf _ _ λ vK a1 H a2 b1 hK=>?_;obtain⟨K,rfl,_,KL⟩:=hK;refine kws_nil ?_;have a3:XS W V z N Z X {s with heap:=a1,toks:=H} O:=b0.ac (tk:=H) a2 b1;have kk:=Q.trans a2;have b5:a1.get? l=some (Fd us n):=kk.keep el (by simp) (by simp);have a4:=rl.ac kk;have w:us.toList.length=ns.length:=by have:=rl.length;simpa using this
 have h:∀i,i<ns.length->∃t,us.toList.getD i .none=.str (ns.getD i Str.empty) t/\PyData.strOk (ns.getD i Str.empty)=true/\(ns.getD i Str.empty).length<=Bf:=λ i hi=>by
  have r:=N2 a4 hi;generalize us.toList.getD i .none=v at r;exact r.ah
 have CO:TK (XX ns g) us.toList G:=by
  have b9:∀i,i<ns.length->ns.getD i Str.empty∈ns:=λ i hi=>by rw[Ax,AW hi];exact Ge hi
  refine⟨λ i j hi hj=>?_,by rw[w];exact ok,λ v hv=>?_⟩
  ·simp only[w] at hi hj;refine C6 λ gg kk=>?_;obtain⟨t1,e1,o1,z1⟩:=h i hi;obtain⟨t2,e2,o2,z2⟩:=h j hj;refine kk ?_;exact⟨_,by rw[e1,e2];exact if_pos ⟨b9 i hi,b9 j hj⟩,c8 i j hi hj⟩
  ·obtain⟨i,hi,e⟩:=List.mem_iff_getElem.mp hv;obtain⟨t1,e1,_⟩:=h i (by rw[<-w];exact hi);rw[Ax,AW hi] at e1;rw[<-e];have d1:us.toList[i]=_:=e1;rw[d1];rfl
 refine VV (s:={s with heap:=a1,toks:=H}) (k:=k+1) (by rw[w];exact hn) KL hA (a3.gd B) a8 CO ⟨_,b5,rfl,n,by rfl⟩ λ a5 a6 D c2 p gp a7 b2 hD eD=>?_
 replace gp:=(w)▸gp
 have c0:XS W V z N Z X {s with heap:=a5,toks:=a6} O:=a3.ac (tk:=a6) a7 b2;have d2:D∉X:=λ q=>by obtain⟨o,ho⟩:=a3.F.am D q;have d4:a1.get? D=none:=hD;exact BZ d4 ho
 have b3:∀i∈p,i<ns.length:=λ i hi=>AC.mp ((gp.1.mem_iff).mp hi);have rp:∀q:List Nat,(∀i∈q,i<ns.length)->RpL W X a5 (q.map λ i=>us.toList.getD i .none) ((q.map λ i=>ns.getD i Str.empty).map .str):=by
  intro q;induction q with
  |nil=>intro _;exact .nil
  |cons i q ih=>intro hq;exact .cons (N2 (a4.ac a7) (hq i Ac)) (ih λ j hj=>hq j (Ad _ hj))
 have rD:Rp W X a5 (.ref D) (.list ((p.map λ i=>ns.getD i Str.empty).map .str)):=by
  refine .list (vs:=(p.map λ i=>us.toList.getD i .none).toArray) eD d2 ?_ (rp p b3);have:=gp.1.length_eq;simp at this ⊢;have:=DX;have:(6:Nat)<=Bf:=by decide+kernel
  omega
 refine EC (hA.ag (j:=0) (by exact AP _)).handled B c0 (Fr hx) rD λ c1 b6 c3 b7 c4=>?_;exact hQ p gp c1 b6 c3 ((Q.trans (a2.trans a7)).aj.trans (b7.aj λ a ha=>S.F.bq ha)) (Aa a9 (Aa b1 (Aa b2 c4)))
end
section
variable {A:Around}{E:B3}{z:Env}{C:A5}
theorem N7 (S:XS W V z N (Y++Z) (Y++X) s O)(p:O.lookup x=some (.ao (.ref i)))(h:∀y d,O.lookup y≠some (.own d))(C:∀a∈Ay z,a∈Z)(E:∀a∈Z,a∈X)(H:∀a∈Y,a∉X)(t:s.heap.get? i=some (Fd (g.map Value.ref).toArray j))(Q:i∉X)(l:g.length<=Bf)(o:En W s.heap g f)(m:∀r∈g,r∉X):
 XS W V z N Z X s (AN O x (.aa (.list (Cw f)))):=by
 have less:∀b∈X,b∈Y++X:=λ b N=>At _ N;refine⟨S.F.re C E (λ a w=>S.F.alive a (less a w)) (λ _ _=>rfl) (λ y n k=>?_) (λ y D d e A G=>?_),S.le,S.tk,λ a w l=>S.fr a (less a w) λ q=>?_,S.fc⟩
 ·rw[Ba] at k;split at k
  ·rename_i q;subst q;cases k;refine⟨_,p,λ v B r=>?_⟩;have e:v=.ref i:=r;subst e;obtain⟨c,rfl,hc⟩:=o;exact .list t Q (by simpa using l) (by
    show RpL W X _ (g.map Value.ref).toArray.toList _;exact RB c g λ r o=>⟨m r o,hc r o⟩)
  ·refine⟨n,k,λ v B r=>?_⟩;cases n with
   |aa d=>exact Rp.ag less r
   |ao u=>exact r
   |nn u d=>exact⟨r.1,Rp.ag less r.2⟩
   |own d=>exact absurd k (h y d)
 ·rw[Ba] at A;split at A
  ·cases A
  ·exact absurd A (h y d)
 ·rcases Ao.mp q with q |q
  ·exact H a q w
  ·exact l q
theorem fL (q:Dt W C k mg mb)(u:Cc k A)(B:XB W V z N)(S:XS W V z N Z X s O)(H:mg "isinstance"=none/\mb "isinstance"=some (.builtin "isinstance"))(y:O.lookup x=some (.aa (.list xs)))(g1:BU V "isinstance"=true)(g2:BU V "list"=true)(D:Yk C V O .Or a false){c:Flow->Shared->Prop}
 (G:GT W V z N Z X s (.next O) c):wpAny W.M A (exec (.If (.BoolOp .Or (.UnaryOp .Not (.Call (.Name "isinstance" f) [.Name x g,.Name "list" i] [] j) m::a) p) b [] d) z) c E s:=by
 refine J1 (wpAny_isTrue_BoolOp (wpAny_allTrue_Or_cons (wpAny_isTrue_Not (wpAny_isTrue_value ?_))));refine Bu (BK q S.F (S.gd B) g1 (.inr H) ?_);refine B2 rfl ?_;refine Dn rfl (AV (Ap (S.F.name y λ v I=>Ap (BK q S.F (S.gd B) g2 (.inr (q.blt .list)) (AR ?_)))));have r:Rp W X s.heap v (.list xs):=I;obtain⟨_,_,_,rfl,e,n,J,l⟩:=r.ah;refine IsiPair.list_list (prog:=W.prog) (w:=W.w) e rfl (CQ ?_);simp only[Bool.not_true,A3,if_false];refine D ⟨W,A,z,Z,X,_,mg,mb,q,u⟩ s S.F (S.gd B) _ _ λ L Q w h o t=>?_;subst t;simp only[A3,if_false];exact Bd (G Q w (S.ac h o) h.aj o)
theorem U0 (p:Dt W C k mg mb)(q:Cc k A)(F:FI W V z Z X s.heap O)(G:Gd W s)(u:B1 a=true)(v:B1 b=true)(x:CE C V O a d)(y:CE C V O b e)
 (B:∀n r t,A9 W s.heap n->s.toks<=r->s.heap.get? t=none->Rp W X n (.ref t) (.aw [d,e])->Q (.ref t) {s with heap:=n,toks:=r}):wpAny W.M A (eval (.Tuple [a,b] f c) z) Q E s:=by
 rw[Ik,A7 c z _ (by show(B1 a&&(B1 b&&true))=true;rw[u,v];rfl)];refine Ab (AL (Ab ?_));refine Ap (x ⟨W,A,z,Z,X,_,mg,mb,p,q⟩ s F G _ _ λ v1 j N h o D=>?_);refine Ap (y ⟨W,A,z,Z,X,_,mg,mb,p,q⟩ {s with heap:=j,toks:=N} (F.ac h) (G.step h o) _ _ λ v2 w g H l I=>AR ?_);have i:A9 W s.heap w:=h.trans H;have m:=F.ac i;refine BJ (B _ g w.objs.size (i.trans (.push _ _)) (Aa o l) (Gy i (Bv _)) (.aw (Ak _ rfl) (Gl m.am) (by simp[Bf]) (.cons ((D.ac H).ac (.push _ _)) (.cons (I.ac (.push _ _)) .nil)))) (by show 2<=sizeLine;simp[sizeLine])
theorem V9 {G:List PV}{y:List Str}(Gk:Dt W C k mg mb)(hA:Cc (k+2) A)(B:XB W V z N)(f5:Vl W A z N u)(S:XS W V z N Z X s O)(R:TD W mg mb I)(d8:mg "reduce"=some (.ref I))(c2:W.h0.NoLimit)
        (L:TG W mg V z O j c g p y M) (d9:y.length=2) (c3:CE C V O m (.list G)) (e0:B1 m=true) (n1:B1 D=true) (n2:B1 T=true) (h1:CE C V O D Y) (h2:CE C V O T d2)
 {st:Nat->PV} (e3:st 0=.aw [Y,d2]) (e4:∀i x,G[i]? =some x->CE C g (y.zip [.aa (st i),.aa x]++M) c (st (i+1))) (hx:AI V x=true) (g1:BU V "reduce"=true)
  {U:Flow->Shared->Prop} (hQ:GT W V z N Z X s (.next (AN O x (.aa (st G.length)))) U):
 wpAny W.M A (exec (.Assign [.Name x q1] (.Call (.Name "reduce" q2) [.Lambda j c g p,m,.Tuple [D,T] kk q7] [] q8) a0) z) U E s:=by
 have b8:Cc k A:=hA.ag (by omega);have R0:=R;obtain⟨e5,_,_,c4⟩:=R0;obtain⟨e6,c5,e7,c6,c7⟩:=c4.obj;refine BA (t:=.Name x q1) rfl rfl rfl (Bu (BK Gk S.F (S.gd B) g1 (.inl d8) ?_));refine B2 (by show(true&&(B1 m&&(true&&true)))=true;rw[e0];rfl) ?_;refine B5 (o:=e6) (fd:=e5) (AV (Ap (Qp Gk L S.F (S.gd B) λ c8 b9 f a5 b1 b2 cX e8=>?_)));have a6:=S.ac b1 b2;have LO:=e8 X λ a ha=>ha;refine Ap (c3 ⟨W,A,z,Z,X,_,mg,mb,Gk,b8⟩ {s with heap:=c8,toks:=b9} a6.F (a6.gd B) _ _ λ tv b3 a3 a7 b4 rt=>?_);have a1:XS W V z N Z X {s with heap:=b3,toks:=a3} O:=a6.ac (tk:=a3) a7 b4;refine Ap (U0 (s:={s with heap:=b3,toks:=a3}) Gk b8 a1.F (a1.gd B) n1 n2 h1 h2 λ w a4 t a2 b5 ht rT=>?_);have Q:XS W V z N Z X {s with heap:=w,toks:=a4} O:=a1.ac (tk:=a4) a2 b5;refine AR ⟨⟨((B.al.trans a1.le).trans a2).keep c5 c6 c7,e7⟩,?_⟩;have a8:=(LO.ac a7).ac a2;have e9:∃o,w.get? t=some o:=by cases rT with |aw e _ _ _=>exact⟨_,e⟩
 obtain⟨c9,pr,pm,cd,ct,f0,_⟩:=a8.obj;have St:NB W (k+1) none X (.ref f) G (Fm w none) (λ i v h=>Rp W X h v (st i)):=by
  refine⟨λ i v h h' hk r=>r.be λ b o e n hd=>⟨hk b o e hd,n⟩,λ i v h _ B q=>(nomatch q),⟨f,RT "<lambda>" c9 pr c g a5 pm cd ct,rfl,λ h H=>⟨_,H.keep f0 (by simp) (by simp),rfl⟩⟩,λ A' s' i v e x l f1 f6 f7 G' H' f2 hJ rx Q' E' f3=>?_⟩;have d0:A9 W w s'.heap:=H';have LX:NC W s'.heap X f c g y a5 M:=a8.ac d0;have up:∀{v d},Rp W X s'.heap v d->Rp W (a5.map (·.2)++X) s'.heap v d:=λ r=>r.ag λ a ha=>(Ao.mp ha).elim (cX a) id
  refine Qq Gk LX c2 f1 G' (λ b N=>⟨(Q.F.alive b N).1,Bc d0 (Q.F.alive b N).2⟩) (args:=[.aa (st i),.aa x]) (.aa (up hJ) (.aa (up rx) .nil)) d9.symm (e4 i x f2) _ _ λ v' h' tk k l' r=>?_;exact f3 v' h' tk k l' (r.ag λ a ha=>At _ ha)
 have f4:Cc (k+1+1) A:=hA;refine Ln (s:={s with heap:=w,toks:=a4}) (ob:=none) (X:=X) Gk R f4 (Q.gd B) Q.F.alive (rt.ac a2) (λ B' q=>nomatch q) f5.fr (f5.stack Q) (t:=t) ⟨Dx (a1.gd B).al ht,e9⟩ St (by rw[e3];exact rT) λ b6 a9 v d3 b7 J=>?_;have b0:A9 W w b6:=d3;have d4:XS W V z N Z X {s with heap:=b6,toks:=a9} O:=Q.ac (tk:=a9) b0 b7;refine EC b8.handled B d4 (Fr hx) J λ d5 c0 d6 c1 d7=>?_;exact hQ d5 c0 d6 ((b1.trans (a7.trans (a2.trans b0))).aj.trans (c1.aj λ a ha=>S.F.bq ha)) (Aa b2 (Aa b4 (Aa b5 (Aa b7 d7))))
end
section
variable {A:Around}
theorem YY {m:Str->Option Value}{M:Model}{env:Env}(f:Str×Value->PUnit->Sem (ForInStep PUnit))(V:∀n v u,f (n,v) u=(do storeName env n v;pure (.yield ⟨⟩)))(hk:env.scope.kind=.function){cm:Str->Option Value}{a:PUnit->Shared->Prop}
 (x:InCallC s₀ env.locals m env.cells cm s) (W:CZ env s.heap) (H:env.kindOf n=some .local)
 (Z:∀w,InCallC s₀ env.locals (bindL env.kindOf [(n,v)] m) env.cells (bindC env.kindOf [(n,v)] cm) w->CZ env w.heap->1<=w.toks->a ⟨⟩ w):wpAny M A (forIn [(n,v)] ⟨⟩ f) a E s:=by
 obtain⟨Q,g,rfl⟩:=id x.toInCall.same;rw[DD,V];refine Ab (Ab (B9 H x.toInCall.ns (λ d N h O=>Ag ?_) (by rw[hk];rfl)));show wpAny M A (forIn [] _ _) _ E _;simp only[List.forIn_nil];refine Ag (Z _ ⟨⟨⟨d,_,rfl⟩,?_,λ b o e=>?_,x.toInCall.fresh⟩,λ k c hc=>?_,x.apart,x.above⟩ (W.bj O) (AH _ _))
 ·have e:bindL env.kindOf [(n,v)] m=λ y=>if y=n then some v else m y:=by
   unfold bindL;simp only[H,if_true];rfl
  rw[e];exact N
 ·exact h.extBut b o (BN (AJ (Az e) x.toInCall.fresh)) (x.toInCall.keep b o e)
 ·have e:bindC env.kindOf [(n,v)] cm=cm:=by
   unfold bindC;simp only[H,if_true];rfl
  rw[e];exact(x.cell k c hc).sameBut h (Cm (x.above k c (mem_of_lookup hc)))
theorem Zf {v:Value}{M:Model}{E:B3}{a:Scope}{globals:Addr}{n:Str}{f:Str}{g:Option Addr}{code:Value}{d:Addr}{i:Env->Shared->Prop}(hk:a.kind=.function)(V:a.names.lookup n=some .local)
 (W:∀h,h=newEnv a s.heap.objs.size globals (cellsFrom (s.heap.objs.size+1) a.names []) f g code none d->
  ∀k,InCallC s h.locals (bindL h.kindOf [(n,v)] λ _=>none) h.cells (bindC h.kindOf [(n,v)] λ _=>none) k->CZ h k.heap->1<=k.toks->i h k):
 wpAny M A (newFunctionEnv a globals [] [(n,v)] f g code none d) i E s:=by
 simp only[newFunctionEnv,Option.isSome_none,A3,if_false];refine Ab (L5 ?_);refine Ab (wpAny_layCells _ (λ name w N=>by cases O:w==NameKind.cell<;>simp[O]) _ _ _ _ ?_);have H:=cellsFrom_ok a.names (s.heap.push {cls:=.type "frame",data:=.dict #[]}) (s.heap.objs.size+1) [] ⟨λ _ _ Q=>(nomatch Q),List.Pairwise.nil⟩ (by rw[BS];exact Ah _);rw[BS] at H;rw[show({s with heap:=s.heap.push {cls:=.type "frame",data:=.dict #[]}}:Shared).heap.objs.size=s.heap.objs.size+1 from BS ..];refine Ab (YY (s₀:=s) (env:=newEnv a s.heap.objs.size globals (cellsFrom (s.heap.objs.size+1) a.names []) f g code none d) _ (λ _ _ _=>rfl) hk (m:=λ _=>none) (cm:=λ _=>none)
  ⟨⟨⟨_,_,rfl⟩,(Heap.Ns.new s.heap (.type "frame")).keeps (CV _ _),λ b o e=>CV _ _ b o (Am _ e),Ah _⟩,
    λ n c hc=>(H.empty n c (mem_of_lookup hc)).1,H.apart,λ n c Q=>(H.empty n c Q).2⟩
  ⟨_,_,_,CV _ _ _ _ (Ak _ rfl),rfl,rfl⟩ V λ k x Z l=>Ag (W _ rfl k x Z l))
theorem Uz (O:EH W a fd [n] g)(S:fd.scope.names.lookup n=some .local)(T:Cc (k+1) A)(H:A9 W W.h0 s.heap)(p:W.ox s.heap)(r:Rp W [] s.heap v d)
 (U:∀(w:Env)(N:Heap)(h:Nat),w=callEnvC fd s.heap.objs.size a->XB W fd.scope w s.heap->XS W fd.scope w s.heap (Ay w) (Ay w) {s with heap:=N,toks:=h} [(n,.aa d)]->
  wpAny W.M (A.deeper w) (execs g w) (λ f V=>Q (match f with | .ret v=>v |_=>.none) V) (λ e V=>wpAny W.M (A.deeper w) (leaving w e) (λ _ Z=>E e Z) (λ Y Z=>E Y Z) V) {s with heap:=N,toks:=h}):
 wpAny W.M A (call (.ref a) [v]) Q E s:=by
 refine C6 λ gg D=>?_;obtain⟨o,ho,i,G,I⟩:=O.obj;obtain⟨c,oc,vs,t,j,J,L,u,z,B⟩:=O.code;refine D ?_;have M:=H.keep ho G I;have C:s.heap.NoLimit:=by obtain⟨mc,h1,h2⟩:=O.u6;exact⟨mc,Co H h1,h2⟩
 have l:A.depth<recursionLimit:=Cn (Av (Bq ..) T.depth) (by decide+kernel);refine FL (LC l M i O.co O.be O.body (⟨c,oc,vs,t,j,H.keep J z B,L,u⟩) ?_);refine O.bind [v] s H rfl _ _ _ _ ?_;rw[O.uv];refine Zf O.kind S λ w he V x fc R=>?_;subst he;refine⟨C.keeps x.toInCall.keep,codeAny_func ?_⟩;have G0:Gd W {s with toks:=max s.toks 1}:=⟨H,p,Nat.le_max_right _ _⟩;have x0:InCallC {s with toks:=max s.toks 1} (callEnvC fd s.heap.objs.size a).locals (bindL (callEnvC fd s.heap.objs.size a).kindOf (([n]:List Str).zip [v]) λ _=>none) (callEnvC fd s.heap.objs.size a).cells (bindC (callEnvC fd s.heap.objs.size a).kindOf (([n]:List Str).zip [v]) λ _=>none) V:=by
  refine C6 λ gg D=>?_;obtain⟨⟨⟨N,h,e⟩,i2,i3,i4⟩,i5,i6,i7⟩:=x;refine D ?_;exact⟨⟨⟨N,h,e⟩,i2,i3,i4⟩,i5,i6,i7⟩
 have F:=QF (X:=[]) O G0 (λ b m=>(by contradiction)) (JW.rd (.cons r .nil)) x0;obtain⟨N,h,e⟩:=x.toInCall.same;subst e;have fresh:∀b∈Ay (callEnvC fd s.heap.objs.size a),s.heap.get? b=none:=λ b m=>by
  rcases Ae.mp m with q |q
  ·rw[q];exact Bv s.heap
  ·obtain⟨⟨n,c⟩,hm,rfl⟩:=Al.mp q;exact II (Cx (x.above n c hm))
 rw[CN] at F;refine C5 (U (callEnvC fd s.heap.objs.size a) N h rfl ⟨H,p,λ b m=>fresh b ?_⟩ ⟨F,.ae x.toInCall.keep,R,λ b m hz=>absurd m hz,fc⟩) (λ f V u=>?_) λ e V u=>u
 ·rcases m with rfl |⟨y,_,hy⟩
  ·exact Ac
  ·exact BP hy
 ·exact u
end
variable {n:Nat} in
noncomputable def jV:Nat->Expr->List (Pos×Nat)
 |0,_=>[]
 |n+1,e=>(Ha e).es.flatMap (jV n)++(Ha e).ks.flatMap (λ q=>jV n q.value++[(q.pos,0)])++(Ha e).gs.flatMap (λ g=>(g.target::g.iter::g.ifs).flatMap (jV n))++[((Ha e).p,(Ha e).k)]
variable {n:Nat}{q:Pos}{t:Expr}{p:Evs} in
noncomputable def nH:Nat->Stmt->List (Pos×Nat)
 |0,_=>[]
 |n+1,s=>(Fz s).es.flatMap (jV n)++(Fz s).bs.flatMap (λ b=>b.flatMap (nH n))++(Fz s).hs.flatMap (λ h=>match h with | .ExceptHandler t _ q p=>t.toList.flatMap (jV n)++q.flatMap (nH n)++[(p,0)])++[((Fz s).p,0)]
noncomputable def kA (i:Nat):Pos:=⟨i,999999,0,0⟩
noncomputable def mF (b:List Stmt):List (Pos×Nat):=b.flatMap (nH 20)
noncomputable def IS (h:(Nat->Pos)->List Stmt)(k:List Stmt)(i:Nat):Pos:=
 (((mF (h kA)).zip (mF k)).find? λ q=>q.1.1.line==i&&q.1.1.col==999999).elim ⟨0,0,0,0⟩ λ q=>q.2.1
noncomputable def jW (h:(Nat->Nat)->List Stmt)(k:List Stmt)(i:Nat):Nat:=
 (((mF (h λ i=>i+1000000)).zip (mF k)).find? λ q=>q.1.2==i+1000000).elim 0 λ q=>q.2.2
noncomputable def Tg (_:Params->Frag)(_:List Addr):Prop:=True
section
local macro_rules (kind := PySem.W.tacticO_head_) | s => `(tactic| cases ‹¬Tg $(⟨s[1][1][1][0]⟩) $(⟨s[1][1][1][1]⟩)› trivial)
noncomputable def hk:Σ' (K:Params->Frag) (h:List Addr),¬Tg K h->(OpenLaw.row PySem.Challenge.rw_oy0180_01).Holds:=⟨_,_,λ f=>by w_on;k_head⟩
end
noncomputable def R8 (h:Obj):Option FuncData:=match h.data with | .func fd=>some fd |_=>none
variable {a:List Value} in
noncomputable def QJ (h:Obj):Option (Array Value):=match h.data with | .fields a=>some a |_=>none
variable {a:Addr} in
noncomputable def jQ:Value->Option Addr
 | .ref a=>some a
 |_=>none
theorem R7 (h:R8 o=some fd):o.data=.func fd:=by
 obtain⟨k,s,d,w⟩:=o;cases d with
 |func f=>exact congrArg Data.func (Au h)
 |_=>contradiction
theorem Pk (h:QJ o=some a):o.data=.fields a:=by
 obtain⟨k,s,d,w⟩:=o;cases d with
 |fields f=>exact congrArg Data.fields (Au h)
 |_=>contradiction
theorem V8 (h:jQ v=some a):v=.ref a:=by
 cases v with
 |ref b=>exact congrArg Value.ref (Au h)
 |_=>contradiction
theorem Xd {v:Value}(h:v.isStr q=true):∃t,v=.str q t:=by
 cases v with
 |str x t=>exact⟨t,congrArg (Value.str · t) (BB h)⟩
 |_=>contradiction
noncomputable def Se (K:Frag)(a:Addr):FuncData:=((K.lookup a).bind R8).getD default
variable {r:List Stmt} in
noncomputable def MB:List Str->Bool
 |[]=>true
 |x::r=>!r.contains x&&MB r
theorem Lr:∀{l:List Str},MB l=true->l.Nodup:=by
 intro l;induction l with
 |nil=>
  intro _;exact .nil
 |cons x r k=>
  intro h;simp only[MB] at h;simp only[As] at h;refine Db.mpr ⟨λ q=>?_,k h.2⟩;rw[Dw.mpr q] at h;cases h.1
noncomputable def Z0 (K:Frag)(a:Addr)(h:List Str):Option Bool:=(K.lookup a).bind λ o=>(R8 o).bind λ fd=>(jQ fd.code).bind λ c=>(K.lookup c).bind λ k=>(QJ k).bind λ s=>(s[1]?).map λ v=>
 (o.cls== .type "function")&&((k.cls== .type "code")&&(v.isStr fd.qualname&&(fd.closure.isEmpty&&(!fd.scope.isCoroutine&&(!fd.scope.isGenerator&&((fd.scope.kind== .function)&&((fd.globals==mainGlobals)&&((fd.builtins==builtinsNs)&&
  (h.all (λ x=>CM x&&(fd.scope.names.lookup x==some .local||fd.scope.names.lookup x==some .cell))&&(MB h&&(MB (fd.scope.names.map (·.1))&&fd.scope.names.all (λ p=>!(p.2== .free)))))))))))))
theorem DO {a:Addr}{d:List Stmt}{e:List Str}{K:Frag}(I:K.In W.h0)(H:W.h0.NoLimit)(hc:Z0 K a e=some true)(n:(Se K a).body=.stmts d)
 (k:∀(h:List Value)(s:Shared),A9 W W.h0 s.heap->h.length=e.length->BindsTo s (Se K a) ⟨h,[]⟩ (e.zip h)):EH W a (Se K a) e d:=by
 obtain⟨o,i,hc⟩:=Aq.mp hc;obtain⟨p,j,hc⟩:=Aq.mp hc;obtain⟨c,w,hc⟩:=Aq.mp hc;obtain⟨q,N,hc⟩:=Aq.mp hc;obtain⟨r,u,hc⟩:=Aq.mp hc;obtain⟨v,y,hc⟩:=AY.mp hc;have O:Se K a=p:=by unfold Se;rw[i];exact congrArg (·.getD default) j
 generalize Se K a=f at*;subst O;obtain⟨z,hc⟩:=Ai.mp hc;obtain⟨A,hc⟩:=Ai.mp hc;obtain⟨B,hc⟩:=Ai.mp hc;obtain⟨C,hc⟩:=Ai.mp hc;obtain⟨D,hc⟩:=Ai.mp hc;obtain⟨E,hc⟩:=Ai.mp hc;obtain⟨G,hc⟩:=Ai.mp hc;obtain⟨J,hc⟩:=Ai.mp hc;obtain⟨L,hc⟩:=Ai.mp hc;obtain⟨M,hc⟩:=Ai.mp hc;obtain⟨Q,hc⟩:=Ai.mp hc;obtain⟨V,Z⟩:=Ai.mp hc;obtain⟨t,rfl⟩:=Xd B;have l:=BB z;have m:=BB A;exact⟨⟨o,I _ _ i,R7 j,l▸by decide,l▸by decide⟩,⟨c,q,r,t,V8 w,I _ _ N,Pk u,y,m▸by decide,m▸by decide⟩,n,k,Gc.mp C,(FJ _).mp D,(FJ _).mp E,BB G,BB J,BB L,
  λ x g=>by
   obtain⟨a,b⟩:=Ai.mp (AE.mp M x g);exact⟨a,(Bool.or_eq_true_iff.mp b).imp BB BB⟩,Lr Q,Lr V,λ x g=>Bool.noConfusion (show false=true from AE.mp Z (x,.free) (mem_of_lookup g)),H⟩
noncomputable abbrev P1:Program:=PySem.Challenge.pw_oy0180_01
noncomputable def Hm (b:List Stmt):List Stmt×Scope×Pos×Pos×Pos×Pos:=((JJ b 0).b 0,(JJ b 0).sc,(JJ b 0).p,((JJ b 0).e 0).p,((JJ b 1).e 0).p,(JJ b 1).p)
noncomputable def HI:List Stmt:=Bi P1 1
noncomputable def S7:List Stmt:=(Hm HI).1
noncomputable def fH:Scope:=(Hm HI).2.1
noncomputable def ID:Pos:=(Hm HI).2.2.1
noncomputable def nZ:Pos:=(Hm HI).2.2.2.1
noncomputable def qC:Pos:=(Hm HI).2.2.2.2.1
noncomputable def qA:Pos:=(Hm HI).2.2.2.2.2
noncomputable def HC:List Str:=["__init__","__lt__","__gt__","__eq__","__le__","__ge__"]
noncomputable def E5:Str:="cmp_to_key.<locals>.K"
theorem XU:HI=[.ClassDef "K" [.Name "object" nZ] [] S7 [] [] fH none "K" ["obj"] ID,.Return (some (.Name "K" qC)) qA]:=by kernel_rfl
noncomputable def rK (h:Addr)(i:Nat):Jg:=(Jn h S7).getD i ⟨"","","",default,default,[],default,default,[]⟩
theorem OU (h:Addr):Jn h S7=[rK h 0,rK h 1,rK h 2,rK h 3,rK h 4,rK h 5]:=by kernel_rfl
theorem nO {g:Type}{P:g->Prop}{a b c d e f:g}(k:P a)(o:P b)(s:P c)(w:P d)(H:P e)(N:P f):∀x∈[a,b,c,d,e,f],P x:=λ x h=>by
 simp only[Ae,AU,or_false] at h;rcases h with rfl |rfl |rfl |rfl |rfl |rfl<;>assumption
theorem Iz {a:NameKind}(h:V.names.all (λ p=>!(p.2==a))=true):∀x,V.names.lookup x≠some a:=λ x e=>by
 have:=AE.mp h (x,a) (mem_of_lookup e);simp at this
theorem WE (r:Jg)(w:(!r.sc.isCoroutine&&!r.sc.isGenerator&&(r.sc.kind== .function)&&r.sc.names.all (λ p=>!(p.2== .cell))&&CM r.x&&CM r.y&&(r.sc.names.lookup r.x==some .local)&&(r.sc.names.lookup r.y==some .local)&&!(r.x==r.y))=true)
 (H:∀(h:Str)(k:List (Str×Addr))(N O Q a b:Value),bindArgs (Sk r.name h (L6 r.x r.y r.px r.py) r.body r.sc k N O Q) ⟨[a,b],[]⟩=pure [(r.x,a),(r.y,b)]):Q4 r:=by
 simp only[As] at w;obtain⟨⟨⟨⟨⟨⟨⟨⟨V,W⟩,Z⟩,c⟩,d⟩,e⟩,f⟩,g⟩,i⟩:=w;have s:r.x≠r.y:=by simpa using i
 refine⟨by simpa using V,by simpa using W,BB Z,λ x o q=>?_,λ x o=>?_,?_,H⟩
 ·have:=AE.mp c x o
  (rw[q] at this;cases this)
 ·simp only[Ae,AU,or_false] at o;rcases o with rfl |rfl
  ·exact⟨d,BB f⟩
  ·exact⟨e,BB g⟩
 ·simp[s]
theorem cW (r:Jg)(h:Addr)(k:CmpOp)(T:Q4 r)(o:(r.sc.names.lookup ("mycmp":Str)==some .free&&r.sc.names.all (λ p=>!(p.2== .free)||p.1=="mycmp")&&!(r.x==r.y)&&!(r.x=="mycmp")&&!(r.y=="mycmp"))=true)(hc:r.bi=[(("mycmp":Str),h)])
 (s:∃w H N O Q V W Z a,∃b:Nat,r.body=[.Return (some (.Compare (.Call (.Name "mycmp" w) [.Attribute (.Name r.x H) "obj" N,.Attribute (.Name r.y O) "obj" Q] [] V) [k] [.Constant (.int 0) b W] Z)) a]):bZ r h k:=by
 simp only[As] at o;obtain⟨⟨⟨⟨c,d⟩,e⟩,f⟩,g⟩:=o;refine⟨T,hc,BB c,λ x i=>?_,⟨by simpa using e,by simpa using f,by simpa using g⟩,s⟩;have:=AE.mp d (x,.free) (mem_of_lookup i);simpa using this
noncomputable def mP (r:Jg):Nat->Pos:=IS (λ p=>[.Assign [.Attribute (.Name r.x (p 0)) "obj" (p 1)] (.Name r.y (p 2)) (p 3)]) r.body
noncomputable def mC (r:Jg):Nat->Pos:=IS (λ p=>[.Return (some (.Compare (.Call (.Name "mycmp" (p 0)) [.Attribute (.Name r.x (p 1)) "obj" (p 2),.Attribute (.Name r.y (p 3)) "obj" (p 4)] [] (p 5)) [.Lt] [.Constant (.int 0) 0 (p 6)] (p 7))) (p 8)]) r.body
theorem fG:Yh S7 HC where
 abs:=⟨by decide+kernel,by decide+kernel,by decide+kernel⟩
 init:=λ h=>⟨rK h 0,by rw[OU];simp,by kernel_rfl,WE _ (by kernel_rfl) (λ _ _ _ _ _ _ _=>by kernel_rfl),by kernel_rfl,Iz (by kernel_rfl),by
  have:((rK h 0).x==(rK h 0).y)=false:=by kernel_rfl
  simpa using this,mP (rK h 0) 0,mP (rK h 0) 1,mP (rK h 0) 2,mP (rK h 0) 3,by kernel_rfl⟩
 lt:=λ h=>⟨rK h 1,by rw[OU];simp,by kernel_rfl,cW _ _ _ (WE _ (by kernel_rfl) (λ _ _ _ _ _ _ _=>by kernel_rfl)) (by kernel_rfl) (by kernel_rfl) ⟨mC (rK h 1) 0,mC (rK h 1) 1,mC (rK h 1) 2,mC (rK h 1) 3,mC (rK h 1) 4,mC (rK h 1) 5,mC (rK h 1) 6,mC (rK h 1) 7,mC (rK h 1) 8,0,by kernel_rfl⟩⟩
 gt:=λ h=>⟨rK h 2,by rw[OU];simp,by kernel_rfl,cW _ _ _ (WE _ (by kernel_rfl) (λ _ _ _ _ _ _ _=>by kernel_rfl)) (by kernel_rfl) (by kernel_rfl) ⟨mC (rK h 2) 0,mC (rK h 2) 1,mC (rK h 2) 2,mC (rK h 2) 3,mC (rK h 2) 4,mC (rK h 2) 5,mC (rK h 2) 6,mC (rK h 2) 7,mC (rK h 2) 8,0,by kernel_rfl⟩⟩
noncomputable def W0 (c:Addr):Obj:=tabObj #[rawInt ID.line,rawInt ID.col,.ref c]
noncomputable def W4 (v:Nat->Value)(P:Addr):Obj:={cls:=.type "code",data:=.fields #[v 0,v 1,v 2,v 3,v 4,v 5,v 6,v 7,v 8,v 9,v 10,.ref P,v 12,v 13,v 14,v 15,v 16,v 17,v 18]}
noncomputable def UE (m:Nat->Addr)(i:Nat):List Value:=[rawInt (rK 0 i).pos.line,rawInt (rK 0 i).pos.col,.ref (m i)]
noncomputable def WZ (m:Nat->Addr):Obj:=tabObj (UE m 0++UE m 1++UE m 2++UE m 3++UE m 4++UE m 5).toArray
structure iC (h:Heap)(c P:Addr)(v:Nat->Value)(m:Nat->Addr):Prop where
 rz:h.get? 16=some (W0 c)
 code:h.get? c=some (W4 v P)
 sub:h.get? P=some (WZ m)
 tr:182<c/\182<P
 ol:∀i<6,Cd h (.ref (m i)) ((E5++".")++(rK 0 i).name)
noncomputable def pK (h:Heap):Prop:=h.get? 16=some (tabObj #[])\/∃c P v m,iC h c P v m
noncomputable def bV (o s:Addr)(w:List (Pos×Str))(h:Heap):Prop:=pK h/\(∃k,DR h o s k/\Mm h k w)
theorem Rq (T:DR h c P a)(Q:∀b o N,h.get? b=some o->o.data=.fields N->(o.cls=.none\/o.cls=.type "code")->H.get? b=some o):DR H c P a:=by
 refine C6 λ g W=>?_;obtain⟨o,N,s,Z,k,d,O,w,e,f,hc,V,r⟩:=T.hd;refine W ?_;exact⟨⟨o,N,s,Z,k,d,O,w,e,Q _ _ _ f V (.inr hc),hc,V,r⟩,Q _ _ _ T.at_ rfl (.inl rfl),T.ok⟩
theorem Ks (x:Cd h f q)(s:∀b o k,h.get? b=some o->o.data=.fields k->(o.cls=.none\/o.cls=.type "code")->H.get? b=some o):Cd H f q:=
 by obtain⟨c,o,k,t,a,b,hc,d,e⟩:=x;exact⟨c,o,k,t,a,s _ _ _ b d (.inr hc),hc,d,e⟩
theorem TV {v:Nat->Value}{m:Nat->Addr}(T:iC h c P v m)(k:∀b o s,h.get? b=some o->o.data=.fields s->(o.cls=.none\/o.cls=.type "code")->H.get? b=some o):iC H c P v m:=
 ⟨k _ _ _ T.rz rfl (.inl rfl),k _ _ _ T.code rfl (.inr rfl),k _ _ _ T.sub rfl (.inl rfl),T.tr,λ i w=>Ks (T.ol i w) k⟩
theorem TU (s w:Heap)(h:∀b o H,s.get? b=some o->o.data=.fields H->(o.cls=.none\/o.cls=.type "code")->w.get? b=some o)
 (T:bV d e f s):bV d e f w:=by
 obtain⟨N,O,Q,V⟩:=T;refine⟨?_,O,Rq Q h,λ r W Z k=>Ks (V r W Z k) h⟩;rcases N with a |⟨c,P,v,m,a⟩
 ·exact .inl (h _ _ _ a rfl (.inl rfl))
 ·exact .inr ⟨c,P,v,m,TV a h⟩
theorem ZF (w:W.ox=bV g d f)(Q:d∈W.TB)(H:16≠d)(N:d<=182)(s:∀a∈f,∀b∈f,a.1.line=b.1.line->a.1.col=b.1.col->a=b):bX W g d f where
 mem:=Q
 u8:=s
 get:=λ h t=>by rw[w] at t;exact t.2
 pg:=λ h n p O t hP k T G=>by
  simp only[w] at t ⊢;obtain⟨t1,V,Z,q⟩:=t;refine⟨?_,_,T,G⟩;rcases t1 with a |⟨c,P,v,m,a⟩
  ·exact .inl (k _ _ H a)
  ·exact .inr ⟨c,P,v,m,k _ _ H a.rz,k _ _ (Cm (Av N a.tr.1)) a.code,k _ _ (Cm (Av N a.tr.2)) a.sub,a.tr,λ i j=>(a.ol i j).ext Z λ b o l e=>k b o l e⟩
noncomputable def Mg:List Stmt:=Bi P1 42
noncomputable def CF (i:Nat):Stmt:=Mg.getD i (.Pass default)
noncomputable def EV.tc (l:EV):Arguments×Expr×Scope×Pos:=(l.ar,l.x 0,l.sc,l.p)
noncomputable def LR:Arguments×Expr×Scope×Pos:=((Ha ((((Fz (CF 22)).e 0).ks.map (·.value)).getD 0 default)).e 1).tc
noncomputable def HB:Arguments×Expr×Scope×Pos:=(((Fz (CF 29)).e 0).e 1).tc
noncomputable def cN:List (Pos×Str):=[(LR.2.2.2,"law.<locals>.<lambda>"),(HB.2.2.2,"law.<locals>.<lambda>")]
noncomputable def W1 (h:World)(k:Heap):Bl:=⟨P1,h,k,[16,178],bV 180 178 cN,TU⟩
noncomputable abbrev K1 (h:World):Frag:=hk.1 h.params
noncomputable def ob (h:World)(a:Addr):Obj:=((K1 h).lookup a).getD {cls:=.none,data:=.plain}
variable {b:List (Str×PV)} in
noncomputable def aO (h:World)(a:Addr):Array DictEntry:=match(ob h a).data with | .dict b _=>b |_=> #[]
noncomputable def oQ (h:World)(a:Addr):Nat:=match(ob h a).data with | .dict _ k=>k |_=>0
theorem Za {m:Str->Option Value}(I:(K1 w).In h)(s:(K1 w).lookup a=some (ob w a))(H:(ob w a).data=.dict (aO w a) (oQ w a))(N:h.Ns a m)(x:Str):m x=nsFind (aO w a) x:=by
 refine C6 λ W O=>?_;obtain⟨o,Z,b,k,Q,_,V⟩:=N;refine O ?_
 replace k:=Eq.trans (Eq.symm (I _ _ s)) k;cases k
 cases Eq.trans (Eq.symm H) Q
 exact(V x).symm
theorem C7 {b:ExcName->Option Value}(I:(K1 w).In h)(T:Top c a b mg mb h)(x:Str):mg x=nsFind (aO w 3) x:=Za (a:=3) I (by kernel_rfl) (by kernel_rfl) T.g x
theorem Lu {v:Value}{a:List Str}{b:ExcName->Option Value}{c:Program}(T:Top c a b mg mb h){x:Str}(k:x≠"__name__")(e:bootBuiltins x=some v):mb x=some v:=(T.builtins x k).trans e
theorem TT (I:(K1 w).In h)(k:∀P∈[16,178],h.get? P=some (tabObj #[])):(W1 w h).ox h:=
 ⟨.inl (k 16 (by exact Ac)),#[],⟨codeHd_of_K I (by kernel_rfl),k 178 (by decide),trivial⟩,λ r o s q=>by cases q⟩
theorem kG:bX (W1 w h) 180 178 cN:=ZF rfl (by show(178:Nat)∈[16,178];decide) (by decide) (AX rfl) (by
 intro a k b o;have:cN.all (λ a=>cN.all λ b=>!(a.1.line==b.1.line&&a.1.col==b.1.col)||decide (a=b))=true:=by decide+kernel
 intro s H;have:=AE.mp (AE.mp this a k) b o;rw[s,H] at this;simpa using this)
theorem hF {b:ExcName->Option Value}(I:(K1 w).In h)(T:Top c a b mg mb h):∀f:BF,mg f.name=none/\mb f.name=some f.val:=λ f=>by
 cases f<;>exact⟨(C7 I T _).trans (by kernel_rfl),Lu T (by decide+kernel) (by kernel_rfl)⟩
set_option genInjectivity false
set_option genSizeOfSpec false
variable {c:Nat} in
inductive Kt where
 |tz (hd:Option Value) (k:Result->Sem Fin)
 |ret (c:Code) (hd:Option Value) (k:Result->Sem Fin) (κ:Kt)
noncomputable abbrev Pl:=Option (Code×Kt)
variable {i:Nat}{t:Expr}{m:Str->Option Value} in
structure Ot where
 pl:Pl
 t:Sem Fin
 T:List Obj
 m:Nat
 i:Nat
 O:List Obj
 ab:List (Addr×Addr)
variable {n:Nat}{ps:List Str}{prog:Program} in
structure Gv where
 tag:Nat
 prog:Program
 ps:Params
 n:Nat
 t0:Nat
 oa:List Addr
noncomputable def DF:Code->Sem Fin:=PySem.W.Fast.tw11892475500146522536 PySem.W.Fast.tw14364793385576792824
theorem lY (c:Code):denote table c=DF c:=by rw[table_eq_tree,PySem.W.Fast.te11892475500146522536,PySem.W.Fast.te14364793385576792824];rfl
noncomputable def Zb (h:Option Value):Bool:=match h with
 |none=>true
 |some _=>false
noncomputable abbrev Go:=List Nat->Pl->Sem Fin->List Obj->Nat->Nat->List Obj->Ot
noncomputable def Ot.oi (h:Ot)(a b:Addr):Ot:=⟨h.pl,h.t,h.T,h.m,h.i,h.O,(a,b)::h.ab⟩
noncomputable def stop:Go:=λ _ p t T m i O=>⟨p,t,T,m,i,O,[]⟩
variable {c:Nat}{q:Pos} in
noncomputable def dU (h:Go)(st:Ot)(r:Result)(o:List Nat)(p:Pl)(T:List Obj)(m i:Nat)(s:List Obj):Ot:=match p with
 |none=>st
 |some q=>match q.2 with
  | .tz _ k=>h o none (k r) T m i s
  | .ret c _ k w=>h o (some (c,w)) (k r) T m i s
variable {a:Addr} in
noncomputable def K8 (G:Gv)(h:Nat)(T k:List Obj):Option (Addr×Obj):=match Nat.blt h 100 with
 |true=>match T[h]? with
  |some o=>some (G.n+h,o)
  |none=>none
 |false=>match G.oa[h-100]? with
  |some a=>match k[h-100]? with
   |some o=>some (a,o)
   |none=>none
  |none=>none
variable {q:Pos} in
noncomputable def mQ (p:Pl)(h:Option Value)(k:Result->Sem Fin):Kt:=match p with
 |none=>.tz h k
 |some q=>.ret q.1 h k q.2
variable {q:Pos} in
noncomputable def Sy (k:Go)(st:Ot)(h:Code)(o:List Nat)(p:Pl)(T:List Obj)(m i:Nat)(s:List Obj):Ot:=match p with
 |some q=>match h.quiet with
  |true=>k o (some (h,q.2)) (DF h) T m i s
  |false=>st
 |none=>st
variable {q:Pos} in
noncomputable def WI (G:Gv)(o:Go)(st:Ot)(a:Addr)(s:Obj->Sem Fin)(w:List Nat)(p:Pl)(T:List Obj)(m i:Nat)(k:List Obj):Ot:=match w with
 |x::h=>match K8 G x T k with
  |some q=>(o h p (s q.2) T m i k).oi a q.1
  |none=>st
 |[]=>st
noncomputable def Sx (G:Gv)(k:Go)(st:Ot)(h:Obj)(o:Addr->Sem Fin)(s:List Nat)(p:Pl)(T:List Obj)(m i:Nat)(w:List Obj):Ot:=match h.isFreed with
 |true=>st
 |false=>k s p (o (G.n+m)) (T++[h]) (m+1) i w
noncomputable def YU (h:Go)(st:Ot)(a b:Addr)(k:Obj)(o:Unit->Sem Fin)(x:Nat)(s:List Nat)(p:Pl)(T:List Obj)(m i:Nat)(w:List Obj):Ot:=match Nat.blt x 100 with
 |true=>(h s p (o ()) (T.set x k) m i w).oi a b
 |false=>match Nat.beq x 100 with
  |true=>(h s p (o ()) T m i (w.set 0 k)).oi a b
  |false=>st
variable {q:Pos} in
noncomputable def dG (G:Gv)(o:Go)(st:Ot)(a:Addr)(f:Obj->Obj)(s:Unit->Sem Fin)(w:List Nat)(p:Pl)(T:List Obj)(m i:Nat)(k:List Obj):Ot:=match w with
 |x::h=>match K8 G x T k with
  |some q=>match(f q.2).isFreed with
   |true=>st
   |false=>YU o st a q.1 (f q.2) s x h p T m i k
  |none=>st
 |[]=>st
noncomputable def XZ (o:Go)(st:Ot)(h:Code)(k:Option Value)(s:Result->Sem Fin)(w:List Nat)(p:Pl)(T:List Obj)(m i:Nat)(H:List Obj):Ot:=match Zb k with
 |true=>o w (some (h,mQ p k s)) (DF h) T m i H
 |false=>st
variable {a f:Addr} in
noncomputable def Xn (G:Gv)(s:Go):Go:=λ h p t T m i O=>match t with
 | .pure w=>match w with
   | .done f=>dU s (stop h p t T m i O) (.ok f) h p T m i O
   | .again H=>Sy s (stop h p t T m i O) H h p T m i O
 | .raise e=>dU s (stop h p t T m i O) (.error e) h p T m i O
 | .rule _ k=>s h p (k ()) T m i O
 | .at _ k=>s h p (k ()) T m i O
 | .point _ k=>s h p (k ()) T m i O
 | .ask k=>s h p (k ⟨G.prog,G.ps⟩) T m i O
 | .load a _ k=>WI G s (stop h p t T m i O) a k h p T m i O
 | .alloc o k=>Sx G s (stop h p t T m i O) o k h p T m i O
 | .update a _ f k=>dG G s (stop h p t T m i O) a f k h p T m i O
 | .fresh k=>s h p (k (G.t0+i)) T m (i+1) O
 | .call H N _ _ k=>XZ s (stop h p t T m i O) H N k h p T m i O
 |_=>stop h p t T m i O
noncomputable def kN (G:Gv):Nat->Go:=Nat.rec stop (λ _ h=>Xn G h)
section
theorem PB {i m:Nat}{P:Ot->Prop}{b:Go}{st:Ot}{c:List Nat}{p:Pl}{T d:List Obj}{a:Code}(x:P (Sy b st a c p T m i d)):P st\/∃q,p=some q/\a.quiet=true/\P (b c (some (a,q.2)) (DF a) T m i d):=by
 unfold Sy at x;cases p with
 |none=>exact .inl x
 |some q=>
  cases e:a.quiet with
  |true=>rw[e] at x;exact .inr ⟨q,rfl,rfl,x⟩
  |false=>rw[e] at x;exact .inl x
theorem Qk {a:Addr}{i m:Nat}{P:Ot->Prop}{G:Gv}{d:Go}{st:Ot}{f:List Nat}{p:Pl}{T b:List Obj}{c:Obj->Sem Fin}(x:P (WI G d st a c f p T m i b)):P st\/∃y h q,K8 G y T b=some q/\P ((d h p (c q.2) T m i b).oi a q.1):=by
 cases f with
 |nil=>exact .inl x
 |cons y h=>
  unfold WI at x;dsimp only at x;cases e:K8 G y T b with
  |none=>replace x:=(e)▸x;exact .inl x
  |some q=>rw[e] at x;exact .inr ⟨y,h,q,e,x⟩
theorem PA {i m:Nat}{P:Ot->Prop}{G:Gv}{b:Go}{st:Ot}{c:List Nat}{p:Pl}{T d:List Obj}{a:Addr->Sem Fin}(x:P (Sx G b st o a c p T m i d)):P st\/(o.isFreed=false/\P (b c p (a (G.n+m)) (T++[o]) (m+1) i d)):=by
 unfold Sx at x;cases e:o.isFreed with
 |true=>rw[e] at x;exact .inl x
 |false=>rw[e] at x;exact .inr ⟨rfl,x⟩
theorem RE {a:Addr}{i m:Nat}{P:Ot->Prop}{d:Go}{st:Ot}{f:List Nat}{p:Pl}{T g:List Obj}{b:Addr}{c:Unit->Sem Fin}{y:Nat}(x:P (YU d st a b o c y f p T m i g)):P st\/(Nat.blt y 100=true/\P ((d f p (c ()) (T.set y o) m i g).oi a b))\/(y=100/\P ((d f p (c ()) T m i (g.set 0 o)).oi a b)):=by
 unfold YU at x;cases e:Nat.blt y 100 with
 |true=>rw[e] at x;exact .inr (.inl ⟨rfl,x⟩)
 |false=>
  replace x:=(e)▸x
  dsimp only at x;cases h:Nat.beq y 100 with
  |true=>rw[h] at x;exact .inr (.inr ⟨Nat.eq_of_beq_eq_true h,x⟩)
  |false=>rw[h] at x;exact .inl x
theorem Rg {a:Addr}{i m:Nat}{P:Ot->Prop}{G:Gv}{d:Go}{st:Ot}{g:List Nat}{p:Pl}{T b:List Obj}{f:Obj->Obj}{c:Unit->Sem Fin}(x:P (dG G d st a f c g p T m i b)):P st\/∃y h q,K8 G y T b=some q/\(f q.2).isFreed=false/\P (YU d st a q.1 (f q.2) c y h p T m i b):=by
 cases g with
 |nil=>exact .inl x
 |cons y h=>
  unfold dG at x;dsimp only at x;cases e:K8 G y T b with
  |none=>replace x:=(e)▸x;exact .inl x
  |some q=>
   rw[e] at x;dsimp only at x;cases k:(f q.2).isFreed with
   |true=>rw[k] at x;exact .inl x
   |false=>rw[k] at x;exact .inr ⟨y,h,q,e,k,x⟩
theorem QV {i m:Nat}{P:Ot->Prop}{d:Go}{st:Ot}{f:List Nat}{p:Pl}{T g:List Obj}{b:Code}{a:Option Value}{c:Result->Sem Fin}(x:P (XZ d st b a c f p T m i g)):P st\/(Zb a=true/\P (d f (some (b,mQ p a c)) (DF b) T m i g)):=by
 unfold XZ at x;cases e:Zb a with
 |true=>rw[e] at x;exact .inr ⟨rfl,x⟩
 |false=>rw[e] at x;exact .inl x
end
variable {qi:Value} in
structure Fs (n:Nat)(oa:List Addr)(h₀ h:Heap)(T:List Obj)(m:Nat)(O:List Obj):Prop where
 hz:h₀.objs.size=n
 size:h.objs.size=n+m
 len:T.length=m
 new:∀(k:Nat)(o:Obj),T[k]? =some o->h.get? (n+k)=some o
 qi:∀(k:Nat)(a:Addr)(o:Obj),oa[k]? =some a->O[k]? =some o->h.get? a=some o
 keep:∀b o,h₀.get? b=some o->oa[0]?≠some b->h.get? b=some o
 lt:∀a∈oa,a<n
 ne:∀(k:Nat)(a:Addr),oa[k]? =some a->oa[0]? =some a->k=0
section
theorem Fs.alloc (D:Fs n d c h T m f)(H:o.isFreed=false):Fs n d c (h.push o) (T++[o]) (m+1) f where
 hz:=D.hz
 size:=by rw[BS,D.size];rfl
 len:=by rw[AA,D.len];rfl
 new:=λ k s e=>by
  replace e:=Eq.trans (Eq.symm (List.getElem?_append)) e
  split at e
  ·exact Am _ (D.new k s e)
  ·rename_i q;have hk:k=m:=by
    rw[D.len] at q e;cases w:k-m with
    |zero=>exact JX (Nat.sub_eq_zero_iff_le.mp w) (BC.mp q)
    |succ j=>(first |exact BZ w e |obtain rfl:=AF w e |cases Eq.trans (Eq.symm w) e |(rw[w] at e;contradiction))
   subst hk;rw[D.len,Nat.sub_self] at e;cases e;rw[<-D.size];exact Ak _ H
 qi:=λ k a s N O=>Am _ (D.qi k a s N O)
 keep:=λ b s e q=>Am _ (D.keep b s e q)
 lt:=D.lt
 ne:=D.ne
theorem SE {f:Obj->Obj}(e:h.get? a=some o)(k:(f o).isFreed=false):(h.update a f).get? a=some (f o):=by
 first |exact Br f e k |exact Br _ e k
theorem KI {f:Obj->Obj}(k:b≠a)(e:h.get? b=some o):(h.update a f).get? b=some o:=((Be h a f).2 b k).trans e
theorem Fs.sd {T:List Obj}(D:Fs n d c h T m g){f:Obj->Obj}(e:T[j]? =some o)(N:(f o).isFreed=false):Fs n d c (h.update (n+j) f) (T.set j (f o)) m g where
 hz:=D.hz
 size:=(Be h _ f).1.trans D.size
 len:=by simp only[List.length_set,D.len]
 new:=λ k w s=>by
  replace s:=Eq.trans (Eq.symm (List.getElem?_set)) s
  split at s
  ·rename_i q;subst q;split at s
   ·cases s;exact SE (D.new _ o e) N
   ·contradiction
  ·rename_i q;exact KI (λ z=>q (Nat.add_left_cancel z).symm) (D.new k w s)
 qi:=λ k a w H O=>KI (BN (AJ (D.lt a (C4 H)) (Bq ..))) (D.qi k a w H O)
 keep:=λ b w H q=>KI (BN (AJ (D.hz▸Az H) (Bq ..))) (D.keep b w H q)
 lt:=D.lt
 ne:=D.ne
theorem Fs.se {g:List Obj}(D:Fs n d c h T m g){f:Obj->Obj}(w:d[0]? =some a)(e:g[0]? =some o)(O:(f o).isFreed=false):Fs n d c (h.update a f) T m (g.set 0 (f o)) where
 hz:=D.hz
 size:=(Be h _ f).1.trans D.size
 len:=D.len
 new:=λ k H Q=>KI (Cm (AJ (D.lt a (C4 w)) (Bq ..))) (D.new k H Q)
 qi:=λ k b H N s=>by
  replace s:=Eq.trans (Eq.symm (List.getElem?_set)) s
  split at s
  ·rename_i q;subst q;split at s
   ·cases s
    cases w.symm.trans N
    exact SE (D.qi 0 a o w e) O
   ·contradiction
  ·rename_i q;exact KI (λ z=>q (D.ne k b N (by rw[z];exact w)).symm) (D.qi k b H N s)
 keep:=λ b H N q=>KI (λ z=>q (by subst z;exact w)) (D.keep b H N q)
 lt:=D.lt
 ne:=D.ne
theorem Fs.at (D:Fs n c b h T m d){G:Gv}(k:G.n=n)(s:G.oa=c){q:Addr×Obj}(e:K8 G x T d=some q):h.get? q.1=some q.2:=by
 unfold K8 at e;split at e
 ·split at e
  ·rename_i o w;cases e;exact k▸D.new _ o w
  ·cases e
 ·split at e
  ·rename_i a H;split at e
   ·rename_i o N;cases e;exact D.qi _ a o (s▸H) N
   ·contradiction
  ·cases e
theorem Xr {G:Gv}{q:Addr×Obj}(k:Nat.blt x 100=true)(e:K8 G x T a=some q):q.1=G.n+x/\T[x]? =some q.2:=by
 unfold K8 at e
 replace e:=(k)▸e
 dsimp only at e;cases h:T[x]? with
 |none=>(first |exact BZ h e |obtain rfl:=AF h e |cases Eq.trans (Eq.symm h) e |(replace e:=(h)▸e;contradiction))
 |some o=>(first |exact BZ h e |obtain rfl:=AF h e |cases Eq.trans (Eq.symm h) e |(replace e:=(h)▸e;cases e));exact⟨rfl,rfl⟩
theorem Xq {G:Gv}{q:Addr×Obj}(e:K8 G 100 T b=some q):G.oa[0]? =some q.1/\b[0]? =some q.2:=by
 replace e:(match G.oa[0]? with |some a=>(match b[0]? with |some o=>some (a,o) |none=>none) |none=>none)=some q:=e
 cases k:G.oa[0]? with
 |none=>(first |exact BZ k e |obtain rfl:=AF k e |cases Eq.trans (Eq.symm k) e |(replace e:=(k)▸e;contradiction))
 |some a=>
  replace e:=(k)▸e
  dsimp only at e;cases h:b[0]? with
  |none=>(first |exact BZ h e |obtain rfl:=AF h e |cases Eq.trans (Eq.symm h) e |(replace e:=(h)▸e;contradiction))
  |some o=>(first |exact BZ h e |obtain rfl:=AF h e |cases Eq.trans (Eq.symm h) e |(replace e:=(h)▸e;cases e));exact⟨rfl,rfl⟩
theorem Fs.qv {T:List Obj}{G:Gv}(D:Fs G.n G.oa a h T m b){q:Addr×Obj}{f:Obj->Obj}(k:Nat.blt x 100=true)(e:K8 G x T b=some q)(o:(f q.2).isFreed=false):Fs G.n G.oa a (h.update q.1 f) (T.set x (f q.2)) m b:=by
 obtain⟨s,w⟩:=Xr k e;rw[s];exact D.sd w o
theorem Fs.qw {b:List Obj}{G:Gv}(D:Fs G.n G.oa a h T m b){q:Addr×Obj}{f:Obj->Obj}(k:x=100)(e:K8 G x T b=some q)(o:(f q.2).isFreed=false):Fs G.n G.oa a (h.update q.1 f) T m (b.set 0 (f q.2)):=by
 subst k;obtain⟨s,w⟩:=Xq e;exact D.se s w o
end
variable {f:Addr} in
noncomputable def fC (r:Result):Sem Fin:=match r with | .ok f=>.pure (.done f) | .error e=>.raise e
section
variable (prog:Program)(w:World)(A:Around)(Q:Fin->Shared->Prop)(E:B3)
variable {c:Nat} in
noncomputable def hW:Kt->Around
 | .tz h _=>A.mark h
 | .ret c h _ k=>((hW k).under c).mark h
variable {f:Addr} in
noncomputable def kW (s:Around)(R:Result->Shared->Prop):Fin->Shared->Prop:=λ h k=>match h with | .done f=>R (.ok f) k | .again o=>o.quiet=true/\codeAny (model prog w) s o R k
variable {c:Nat} in
noncomputable def U5:Kt->Result->Shared->Prop
 | .tz _ k=>λ r s=>wpAny (model prog w) A (k r) Q E s
 | .ret c _ k h=>λ r s=>wpOwn (model prog w) (hW A h) c (k r) (kW prog w (hW A h) (U5 h)) (λ e o=>U5 h (.error e) o) s
variable {q:Pos} in
noncomputable def Mn (p:Pl)(t:Sem Fin)(h:Shared):Prop:=match p with
 |none=>wpAny (model prog w) A t Q E h
 |some q=>wpOwn (model prog w) (hW A q.2) q.1 t (kW prog w (hW A q.2) (U5 prog w A Q E q.2)) (λ e k=>U5 prog w A Q E q.2 (.error e) k) h
variable {q:Pos} in
noncomputable def sC (p:Pl):Around:=match p with
 |none=>A
 |some q=>(hW A q.2).under q.1
end
section
variable {A:Around}{Q:Fin->Shared->Prop}{E:B3}
theorem Mn.oy {c:Type}{m:Sem c}{d:c->Sem Fin}(h:∀k,wpAny (model b w) (sC A p) m (λ a o=>Mn b w A Q E p (d a) o) k s):Mn b w A Q E p (m >>=d) s:=by
 cases p with
 |none=>exact Ab (h _)
 |some q=>exact wpOwn_bind (wpOwn_of_wpAny (h _))
theorem Mn.stack {b:List (Code×Pos)->Sem Fin}(k:∀st,PySem.W.X.Lies A st->Mn a w A Q E none (b st) s):Mn a w A Q E none (.stack b) s:=λ o p h=>k _ (X.lies_of h) o p h
theorem Mn.code (h:Mn a w A Q E (some (b,c)) (DF b) s):codeAny (model a w) (hW A c) b (U5 a w A Q E c) s:=by
 rw[<-lY] at h;exact codeAny_of_own h
theorem Mn.call {k:Result->Sem Fin}(o:Zb a=true)(H:Mn b w A Q E (some (c,mQ p a k)) (DF c) s):Mn b w A Q E p (.call c a g l k) s:=by
 have h:a≠some byPass:=by rintro rfl;exact Bool.noConfusion o
 have z:=Mn.code H
 (try clear H;try clear o;try clear k;try clear l;try clear g;try clear a;try clear c)
 cases p with
 |none=>exact X.x_call z h
 |some q=>exact X.y_call _ _ _ _ _ _ _ _ _ _ _ _ _ h z
theorem Mn.ret {q:Code×Kt}(h:U5 a w A Q E q.2 r s):Mn a w A Q E (some q) (fC r) s:=by
 cases r with
 |ok f=>exact λ _ _ _ _=>h
 |error e=>exact λ _ _ _ _=>h
theorem Mn.qx {i:Nat}{a:Program}{p:Pl}{G:Gv}{b:Go}{st:Ot}{r:Result}{d:List Nat}{m:Nat}{T e:List Obj}{P:Ot->Prop}(h:P (dU b st r d p T m i e))(O:p=none->P st->Mn a w A Q E p (fC r) s)
 (H:∀N(k:Result->Sem Fin),P (b d N (k r) T m i e)->Mn a w A Q E N (k r) s):Mn a w A Q E p (fC r) s:=by
 cases p with
 |none=>exact O rfl h
 |some q=>
  refine Mn.ret ?_;obtain⟨c,o⟩:=q;cases o with
  |tz V k=>exact H none k h
  |ret c V k o=>exact H (some (c,o)) k h
end
structure LZ (prog:Program)(w:World)(A:Around)(Q:Fin->Shared->Prop)(E:B3)(G:Gv)(h₀:Heap)(g:Array GenState)(d:Drawn)(os:OsState)(o:Ot):Prop where
 ab:∀x∈o.ab,x.1=x.2
 og:∀h,Fs G.n G.oa h₀ h o.T o.m o.O->Mn prog w A Q E o.pl o.t ⟨h,g,d,G.t0+o.i,os⟩
section
variable {A:Around}{Q:Fin->Shared->Prop}{E:B3}
theorem LZ.oi {a:Addr}{g:Array GenState}{e:Heap}{os:OsState}{c:Program}{G:Gv}{d:Drawn}{f:Ot}{b:Addr}(x:LZ c w A Q E G e g d os (f.oi a b)):a=b/\LZ c w A Q E G e g d os f:=⟨x.ab _ (.head _),λ y h=>x.ab y (.tail _ h),x.og⟩
theorem MU {g:Array GenState}{c:Heap}{os:OsState}{b:Program}{G:Gv}{d:Drawn}(z:G.prog=b/\G.ps=w.params):∀(H:Nat)(V:List Nat)(p:Pl)(t:Sem Fin)(T:List Obj)(m i:Nat)(O:List Obj)(h:Heap),Fs G.n G.oa c h T m O->LZ b w A Q E G c g d os (kN G H V p t T m i O)->Mn b w A Q E p t ⟨h,g,d,G.t0+i,os⟩:=by
 intro H;induction H with
 |zero=>exact λ V p t T m i O h D x=>x.og h D
 |succ n s=>
  intro V p t T m i O h D x
  replace x:LZ b w A Q E G c g d os (Xn G (kN G n) V p t T m i O):=x
  cases t with
  |pure j=>
   cases j with
   |done f=>exact Mn.qx (G:=G) (r:=.ok f) x (λ _ y=>y.og h D) λ B k y=>s _ _ _ _ _ _ _ _ D y
   |again C=>
    rcases PB (P:=LZ b w A Q E G c g d os) x with x |⟨q,rfl,I,x⟩
    ·exact x.og h D
    ·exact λ _ _ hc J=>⟨I,Mn.code (s _ _ _ _ _ _ _ _ D x)⟩
  |raise e=>exact Mn.qx (G:=G) (r:=.error e) x (λ _ y=>y.og h D) λ B k y=>s _ _ _ _ _ _ _ _ D y
  |rule r k=>exact Mn.oy (m:=rule r) λ _=>KB (s _ _ _ _ _ _ _ _ D x)
  |«at» q k=>exact Mn.oy (m:=standAt q) λ _=>AL (s _ _ _ _ _ _ _ _ D x)
  |point l k=>exact Mn.oy (m:=Sem.point l .pure) λ _=>λ _ _ _=>s _ _ _ _ _ _ _ _ D x
  |ask k=>
   obtain⟨rfl,e⟩:=z;exact Mn.oy (m:=ask) λ _=>wpAny_askSetting (e▸s _ _ _ _ _ _ _ _ D x)
  |load a q k=>
   rcases Qk (P:=LZ b w A Q E G c g d os) x with x |⟨y,u,W,e,x⟩
   ·exact x.og h D
   ·obtain⟨rfl,N⟩:=x.oi;exact Mn.oy (m:=loadPart W.1 q) λ _=>wpAny_loadPart (D.at rfl rfl e) (s _ _ _ _ _ _ _ _ D N)
  |alloc o k=>
   rcases PA (P:=LZ b w A Q E G c g d os) x with x |⟨Z,x⟩
   ·exact x.og h D
   ·exact Mn.oy (m:=alloc o) λ _=>L5 (by rw[D.size];exact s _ _ _ _ _ _ _ _ (D.alloc Z) x)
  |update a q f k=>
   rcases Rg (P:=LZ b w A Q E G c g d os) x with x |⟨y,u,W,e,Z,x⟩
   ·exact x.og h D
   ·rcases RE (P:=LZ b w A Q E G c g d os) x with x |⟨v,x⟩ |⟨v,x⟩
    ·exact x.og h D
    ·obtain⟨rfl,N⟩:=x.oi;exact Mn.oy (m:=updatePart W.1 q f) λ _=>J0 (D.at rfl rfl e) (s _ _ _ _ _ _ _ _ (D.qv v e Z) N)
    ·obtain⟨rfl,N⟩:=x.oi;exact Mn.oy (m:=updatePart W.1 q f) λ _=>J0 (D.at rfl rfl e) (s _ _ _ _ _ _ _ _ (D.qw v e Z) N)
  |fresh k=>exact Mn.oy (m:=fresh) λ _=>wpAny_fresh (s _ _ _ _ _ _ _ _ D x)
  |call C M R l k=>
   rcases QV (P:=LZ b w A Q E G c g d os) x with x |⟨L,x⟩
   ·exact x.og h D
   ·exact Mn.call L (s _ _ _ _ _ _ _ _ D x)
  |_=>exact x.og h D
end
set_option genInjectivity false
set_option genSizeOfSpec false
inductive Wr {α:Type}(X:α):Type where |mk
noncomputable def gW {A:Prop}{a:Type}{X:a}(_:A->Wr X):Wr X:=⟨⟩
noncomputable def Yo {a:Type}{X:a}(_:Wr X):a:=X
noncomputable def rb (a b:Value):Bool:= @BEq.beq Value (@instBEqOfDecidableEq Value PySem.W.Fast.tw7966671052430208091) a b
theorem YS (a b:Value):@BEq.beq Value (@instBEqOfDecidableEq Value PySem.W.Fast.tw7966671052430208091) a b=rb a b:=rfl
theorem Wg (a b:Value):@bne Value (@instBEqOfDecidableEq Value PySem.W.Fast.tw7966671052430208091) a b= !(rb a b):=rfl
noncomputable def itb {a:Type}(b:Bool)(x y:a):a:= @ite a (b=true) (instDecidableEqBool b true) x y
theorem W9 {c:Type}(a b:Value)(x y:c):@ite c (@BEq.beq Value (@instBEqOfDecidableEq Value PySem.W.Fast.tw7966671052430208091) a b=true) (instDecidableEqBool (@BEq.beq Value (@instBEqOfDecidableEq Value PySem.W.Fast.tw7966671052430208091) a b) true) x y=itb (@BEq.beq Value (@instBEqOfDecidableEq Value PySem.W.Fast.tw7966671052430208091) a b) x y:=rfl
theorem UH {c:Type}(a b:Value)(x y:c):@ite c (@bne Value (@instBEqOfDecidableEq Value PySem.W.Fast.tw7966671052430208091) a b=true) (instDecidableEqBool (@bne Value (@instBEqOfDecidableEq Value PySem.W.Fast.tw7966671052430208091) a b) true) x y=itb (@bne Value (@instBEqOfDecidableEq Value PySem.W.Fast.tw7966671052430208091) a b) x y:=rfl
theorem UG {d:Type}(a b c:Value)(r:Bool)(x y:d):@ite d ((@BEq.beq Value (@instBEqOfDecidableEq Value PySem.W.Fast.tw7966671052430208091) a b||r)=true) (instDecidableEqBool (@BEq.beq Value (@instBEqOfDecidableEq Value PySem.W.Fast.tw7966671052430208091) a b||r) true) x y=itb (@BEq.beq Value (@instBEqOfDecidableEq Value PySem.W.Fast.tw7966671052430208091) a b||r) x y:=rfl
theorem W8 {a:Type}(l:List Value)(v:Value)(r:Bool)(x y:a):@ite a ((r|| @PySem.W.Fast.tw3471404346716756564 Value (@instBEqOfDecidableEq Value PySem.W.Fast.tw7966671052430208091) l v)=true) (instDecidableEqBool (r|| @PySem.W.Fast.tw3471404346716756564 Value (@instBEqOfDecidableEq Value PySem.W.Fast.tw7966671052430208091) l v) true) x y=itb (r|| @PySem.W.Fast.tw3471404346716756564 Value (@instBEqOfDecidableEq Value PySem.W.Fast.tw7966671052430208091) l v) x y:=rfl
variable {y:Str} in
noncomputable def jm (j:Nat->Nat->Bool)(a b:Value):Bool:=match a with
 | .ref x=>(match b with
   | .ref y=>j x y
   |_=>false)
 |_=>rb a b
theorem Wf (a b:Value):rb a b=decide (a=b):=by
 show@decide (a=b) (PySem.W.Fast.tw7966671052430208091 a b)=_;exact decide_eq_decide.mpr Iff.rfl
theorem fK:jm Nat.beq=rb:=by
 refine funext λ a=>funext λ b=>?_;cases a with
 |ref x=>
  cases b with
  |ref y=>
   show Nat.beq x y=rb (.ref x) (.ref y);rw[Wf,BT.beq_eq];exact decide_eq_decide.mpr ⟨λ e=>congrArg _ e,λ e=>Value.ref.inj e⟩
  |_=>exact((Wf _ _).trans (decide_eq_false λ e=>by cases e)).symm
 |_=>rfl
noncomputable def Pp (l:List Value)(v:Value):Bool:= @PySem.W.Fast.tw3471404346716756564 Value (@instBEqOfDecidableEq Value PySem.W.Fast.tw7966671052430208091) l v
theorem XW (l:List Value)(v:Value):@PySem.W.Fast.tw3471404346716756564 Value (@instBEqOfDecidableEq Value PySem.W.Fast.tw7966671052430208091) l v=Pp l v:=rfl
noncomputable def Z2 (h:Value)(k:List Value):List Value:=PySem.W.R.filterR (λ x=> @bne Value (@instBEqOfDecidableEq Value PySem.W.Fast.tw7966671052430208091) x h) k
noncomputable def RM (c:Value):Sem (Option Value):=PySem.W.Fast.tw5634887268946762882 c
theorem Zo (c:Value):PySem.W.Fast.tw5634887268946762882 c=RM c:=rfl
noncomputable def Ra (l:List Value):Sem (List Value):=PySem.W.Fast.tw5811856771081047543 l PySem.W.Fast.tw9541985092090588186
theorem Zz (l:List Value):PySem.W.Fast.tw5811856771081047543 l PySem.W.Fast.tw9541985092090588186=Ra l:=rfl
noncomputable def cZ (g:Value->Sem Bool)(h:Value)(k:List Value):Sem Bool:= @List.anyM Sem PySem.W.Fast.tw12456147031677567982 Value g (Z2 h k)
theorem Tz (g:Value->Sem Bool)(h:Value)(k:List Value):@List.anyM Sem PySem.W.Fast.tw12456147031677567982 Value g (PySem.W.R.filterR (λ x=> @bne Value (@instBEqOfDecidableEq Value PySem.W.Fast.tw7966671052430208091) x h) k)=cZ g h k:=rfl
noncomputable def sA (J:Value->List Value->Sem Bool){g:Value->Sem Bool}(_:cZ g=J->Wr g):Wr g:=⟨⟩
noncomputable def gE:Value->Sem Bool:=by
 apply Yo
 focus
  have e:Wr PySem.W.Fast.tw4202317264376624991:=⟨⟩
  delta PySem.W.Fast.tw4202317264376624991 at e
  dsimp (config:={zeta:=false,proj:=false,iota:=false,beta:=false,eta:=false}) only[Tz] at e;apply sA λ _ _=>.pure false;intro h;rw[h] at e;exact⟨⟩
noncomputable def mS (a:Value->Sem (Option Value))(b:List Value->Sem (List Value))(j:Value->List Value->Sem Bool):Builtin:=by
 apply Yo;apply gW (A:=RM=a)
 focus
  intro h;apply gW (A:=Ra=b);intro k;apply gW (A:=∀g,cZ g=j);intro o;have e:Wr PySem.W.Fast.tw4202317264376624991:=⟨⟩
  delta PySem.W.Fast.tw4202317264376624991 at e
  dsimp (config:={zeta:=false,proj:=false,iota:=false,beta:=false,eta:=false}) only[Tz,Zo,Zz] at e;rw[h,k,o] at e;refine(?f:∀(Y:Builtin),Wr Y->Wr Y) _ e;exact λ _ _=>⟨⟩
theorem mR:PySem.W.Fast.tw4202317264376624991=mS RM Ra (cZ gE):=by kernel_rfl
noncomputable def oH (j:Value->Value->Bool):Builtin:=by
 apply Yo;apply gW (A:=rb=j)
 focus
  intro h;have e:Wr @PySem.W.Fast.tw1054471737866971170:=⟨⟩
  delta PySem.W.Fast.tw1054471737866971170 at e
  dsimp (config:={zeta:=false,proj:=false,iota:=false,beta:=false,eta:=false}) only[W9,UH,UG] at e;dsimp (config:={zeta:=false,proj:=false,iota:=false,beta:=false,eta:=false}) only[YS,Wg] at e;rw[h] at e;refine(?f:∀(Y:Builtin),Wr Y->Wr Y) _ e;exact λ _ _=>⟨⟩
theorem oG:@PySem.W.Fast.tw1054471737866971170=oH rb:=by kernel_rfl
noncomputable def dO (j:List Value->Value->Bool):Value->Value->Sem Bool:=by
 apply Yo;apply gW (A:=Pp=j)
 focus
  intro h;have e:Wr @PySem.W.Fast.tw16098473122060591676:=⟨⟩
  delta PySem.W.Fast.tw16098473122060591676 at e
  dsimp (config:={zeta:=false,proj:=false,iota:=false,beta:=false,eta:=false}) only[W8] at e;dsimp (config:={zeta:=false,proj:=false,iota:=false,beta:=false,eta:=false}) only[XW] at e;rw[h] at e;refine(?f:∀(Y:Value->Value->Sem Bool),Wr Y->Wr Y) _ e;exact λ _ _=>⟨⟩
theorem mB:@PySem.W.Fast.tw16098473122060591676=dO Pp:=by kernel_rfl
noncomputable def Vw:Value->Value->Sem Bool:=PySem.W.Fast.tw16098473122060591676
theorem TM (a b:Value):PySem.W.Fast.tw16098473122060591676 a b=Vw a b:=rfl
noncomputable def nF (j:Value->Value->Sem Bool):Value->Value->Sem Value:=by
 apply Yo;apply gW (A:=Vw=j)
 focus
  intro h;have e:Wr @PySem.W.Fast.tw1166467894219422925:=⟨⟩
  delta PySem.W.Fast.tw1166467894219422925 at e
  dsimp (config:={zeta:=false,proj:=false,iota:=false,beta:=false,eta:=false}) only[TM] at e;rw(occs:=.pos [3]) [h] at e;refine(?f:∀(Y:Value->Value->Sem Value),Wr Y->Wr Y) _ e;exact λ _ _=>⟨⟩
theorem nE:@PySem.W.Fast.tw1166467894219422925=nF Vw:=by kernel_rfl
noncomputable def nG:Value->Value->Sem Value:=PySem.W.Fast.tw1166467894219422925
theorem YM (a b:Value):PySem.W.Fast.tw1166467894219422925 a b=nG a b:=rfl
noncomputable def nD (j:Value->Value->Sem Value):Builtin:=by
 apply Yo;apply gW (A:=nG=j)
 focus
  intro h;have e:Wr @PySem.W.Fast.tw13830915341099135465:=⟨⟩
  delta PySem.W.Fast.tw13830915341099135465 at e
  dsimp (config:={zeta:=false,proj:=false,iota:=false,beta:=false,eta:=false}) only[YM] at e;rw[h] at e;refine(?f:∀(Y:Builtin),Wr Y->Wr Y) _ e;exact λ _ _=>⟨⟩
theorem nC:@PySem.W.Fast.tw13830915341099135465=nD nG:=by kernel_rfl
noncomputable def O8 (a b:Value):Bool:=PySem.Builtin.List.listSameRef a b
theorem WG (a b:Value):PySem.Builtin.List.listSameRef a b=O8 a b:=rfl
theorem W7 {c:Type}(a b:Value)(r h:Bool)(x y:c):@ite c ((PySem.Builtin.List.listSameRef a b||r||h)=true) (instDecidableEqBool (PySem.Builtin.List.listSameRef a b||r||h) true) x y=itb (PySem.Builtin.List.listSameRef a b||r||h) x y:=rfl
noncomputable def oO (j:Value->Value->Bool):Value->Value->Value->Sem Fin:=by
 apply Yo;apply gW (A:=O8=j)
 focus
  intro h;have e:Wr @PySem.W.Fast.tw8938917530802602619:=⟨⟩
  delta PySem.W.Fast.tw8938917530802602619 at e
  dsimp (config:={zeta:=false,proj:=false,iota:=false,beta:=false,eta:=false}) only[W7] at e;dsimp (config:={zeta:=false,proj:=false,iota:=false,beta:=false,eta:=false}) only[WG] at e;rw[h] at e;refine(?f:∀(Y:Value->Value->Value->Sem Fin),Wr Y->Wr Y) _ e;exact λ _ _=>⟨⟩
theorem oM:@PySem.W.Fast.tw8938917530802602619=oO O8:=by kernel_rfl
noncomputable def oP:Value->Value->Value->Sem Fin:=PySem.W.Fast.tw8938917530802602619
theorem Z9 (a b c:Value):PySem.W.Fast.tw8938917530802602619 a b c=oP a b c:=rfl
noncomputable def oC (j:Value->Value->Value->Sem Fin):Builtin:=by
 apply Yo;apply gW (A:=oP=j)
 focus
  intro h;have e:Wr @PySem.W.Fast.tw5741333931599015106:=⟨⟩
  delta PySem.W.Fast.tw5741333931599015106 at e
  dsimp (config:={zeta:=false,proj:=false,iota:=false,beta:=false,eta:=false}) only[Z9] at e;rw[h] at e;refine(?f:∀(Y:Builtin),Wr Y->Wr Y) _ e;exact λ _ _=>⟨⟩
theorem oB:@PySem.W.Fast.tw5741333931599015106=oC oP:=by kernel_rfl
noncomputable def ez:Sem Unit:=PySem.W.Fast.tw15066281185411960212 0
theorem Z8:PySem.W.Fast.tw15066281185411960212 0=ez:=rfl
noncomputable def oV (j:Sem Unit):Str->Str->List Value->List (Str×Value)->List Stmt->Scope->List Str->Nat->Env->Pos->Option Value->Sem Value:=by
 apply Yo;apply gW (A:=ez=j)
 focus
  intro h;have e:Wr @PySem.W.Fast.tw1785580099245652887:=⟨⟩
  delta PySem.W.Fast.tw1785580099245652887 at e
  dsimp (config:={zeta:=false,proj:=false,iota:=false,beta:=false,eta:=false}) only[Z8] at e;rw[h] at e;refine(?f:∀(Y:Str->Str->List Value->List (Str×Value)->List Stmt->Scope->List Str->Nat->Env->Pos->Option Value->Sem Value),Wr Y->Wr Y) _ e;exact λ _ _=>⟨⟩
theorem hU:@PySem.W.Fast.tw1785580099245652887=oV ez:=by kernel_rfl
noncomputable def qE (K:List (Code×Pos)->Nat->Sem Unit):Sem Unit:=PySem.W.R.bindR stack λ st=>PySem.W.R.bindR PySem.W.Fast.tw2211186353215096513 λ l=>K st l
noncomputable def rZ {K:List (Code×Pos)->Nat->Sem Unit}(_:PySem.W.Fast.tw15066281185411960212 0=qE K):Wr K:=⟨⟩
noncomputable def mG:List (Code×Pos)->Nat->Sem Unit:=by
 apply Yo;apply rZ;unfold qE;rfl
noncomputable def PF (st:List (Code×Pos)):Sem Unit:=PySem.W.R.bindR PySem.W.Fast.tw2211186353215096513 λ l=>mG st l
theorem cT:ez=PySem.W.R.bindR stack PF:=by kernel_rfl
set_option genInjectivity false
set_option genSizeOfSpec false
variable {n:Nat}{t:Expr}{hs:Heap} in
structure Pz where
 w:World
 n:Nat
 t:Nat
 hz:Nat
 oa:List Addr
 O:List Obj
 fs:List Nat
 hs:List (List Nat)
 iL:Nat
 iN:Nat
 iK:Nat
 iS:Nat
 tS:Nat
noncomputable def cV (h:World):FuncData:=match(ob h 21).data with | .func fd=>fd |_=>default
variable (z:Pz)
noncomputable def Pz.G (h:Nat):Gv:=⟨h,P1,z.w.params,z.n+50,z.t,z.oa⟩
noncomputable def Pz.env:Env:=callEnvC (cV z.w) z.hz 21
noncomputable def Pz.nj (k x:Nat)(h:Ot)(p:Pl)(t:Sem Fin):Ot:=kN (z.G k) (z.fs.getD x 0) (z.hs.getD x []) p t h.T h.m h.i h.O
noncomputable def Pz.nx (k x:Nat)(h:Ot)(t:Sem Fin):Ot:=z.nj k x h h.pl t
noncomputable def Pz.start:Ot:=⟨none,.pure (.done .next),[],0,0,z.O,[]⟩
noncomputable def mZ (t:Sem Fin):List (Code×Pos)->Sem Fin:=match t with
 | .stack k=>k
 |t=>λ _=>t
noncomputable abbrev ad (h:Nat):Value:=.ref (z.n+50+h)
noncomputable def Pz.t0 (e:Sem Unit):Sem Fin:=PySem.W.R.bindR (oV e "K" E5 [.type "object"] [] S7 fH ["obj"] ID.line z.env ID none) λ v=>.pure (.done (.ret v))
noncomputable def Pz.A1 (m:List (Code×Pos)->Sem Unit):Ot:=z.nx 0 0 z.start (z.t0 (PySem.W.R.bindR stack m))
noncomputable def Pz.U (m:Sem Unit):Sem Fin:=mZ (z.A1 λ _=>m).t []
noncomputable def Pz.A2 (st:List (Code×Pos)):Ot:=kN (z.G 0) 1 [101] (z.A1 PF).pl (z.U (PF st)) (z.A1 PF).T (z.A1 PF).m (z.A1 PF).i (z.A1 PF).O
noncomputable def Pz.A:Ot:=z.nx 0 1 (z.A1 PF) (z.U (.pure ()))
noncomputable def Pz.qd:Args:=⟨[.type "type",.str "K" z.t,ad z 0,ad z 2],[]⟩
noncomputable def Pz.B (h:Nat)(a:Value->Sem (Option Value))(b:List Value->Sem (List Value))(j:Value->List Value->Sem Bool):Ot:=z.nx h 2 z.A (mS a b j z.qd)
noncomputable def Pz.qc:Args:=⟨[ad z z.iN,ad z z.iL],[]⟩
noncomputable def Pz.C (h:Nat)(a:Value->Sem (Option Value))(b:List Value->Sem (List Value))(j:Value->List Value->Sem Bool)(k:Value->Value->Bool):Ot:=z.nj h 3 (z.B 0 RM Ra (cZ gE)) (z.B 0 a b j).pl (oC (oO k) z.qc)
noncomputable def Pz.D (h:Nat)(a:Value->Sem (Option Value))(b:List Value->Sem (List Value))(j:Value->List Value->Sem Bool):Ot:=z.nj h 4 (z.C 0 RM Ra (cZ gE) O8) (z.C 0 a b j O8).pl (z.C (h+1) a b j λ _ _=>false).t
noncomputable def ZK:List Value:=[.type "object"]
noncomputable def hN (_:Value):Sem (Option Value):=.pure none
noncomputable def lN (_:List Value):Sem (List Value):=.pure ZK
noncomputable def Pz.E:Ot:=z.nx 0 5 (z.D 0 RM Ra (cZ gE)) (z.D 2 hN lN λ _ _=>.pure false).t
noncomputable def Pz.qb:Args:=⟨[ad z z.iS,ad z z.iK,ad z z.iK],[]⟩
noncomputable def Pz.F (h:Nat)(j:List Value->Value->Bool):Ot:=z.nx h 6 z.E (nD (nF (dO j)) z.qb)
noncomputable def Pz.G2:Ot:=z.nx 0 7 (z.F 0 Pp) (z.F 1 λ _ _=>true).t
noncomputable def Pz.qa:Args:=⟨[ad z z.iS,.str "__init_subclass__" (z.t+z.tS)],[]⟩
noncomputable def Pz.Hh (h:Nat)(j:Nat->Nat->Bool):Ot:=z.nx h 8 z.G2 (oH (jm j) z.qa)
noncomputable def Pz.I:Ot:=z.nx 0 9 (z.Hh 0 Nat.beq) (z.Hh 1 λ _ _=>true).t
noncomputable def z1 (h:World)(n t k:Nat)(o:Array (Option Value)):Pz:=⟨h,n,t,k,[16,2,3,4,20],[tabObj #[],ob h 2,ob h 3,⟨.type "module",some 0,.plain,o⟩,ob h 20],[34,260,10,1,22,50,3,13,5,24],[[1,2,104,100,100,100,100,102,103,102],[2,2,102,2,2,2,2,2,2,2,2,2,2,2,2,2,2,2,5,4,4,4,4,102,103,102,2,2,2,5,4,4,4,4,102,103,102,2,2,2,5,4,4,4,4,102,103,102,2,2,2,5,4,4,4,4,102,103,102,2,2,2,5,4,4,4,4,102,103,102,2,2,2,5,4,4,4,4,102,103,102,2,2,2,2,2,2,2,2,2],[0,2,0,2,2,7],[7],[7,56,56,56,56,56,57,57,57,58,58,58,57,57,57,57,57,57,57],[58,58,58,58,58,58,58,57,57,57,57,57,58,58,58,58,57,57,57,57,57,57,57,7,14,22,30,38,46,54,55,59,58,60,60,60],[58,58,58],[60,60,60,60,60,60,60,60],[60,60,60,101,58],[58,58,61,58,58,58,58,58,58,58]],7,56,58,60,76⟩
noncomputable def z2 (h:World)(n t k:Nat)(o:Array (Option Value))(c P:Addr)(v:Nat->Value)(m:Nat->Addr):Pz:=⟨h,n,t,k,[16,2,3,4,20,c,P],[W0 c,ob h 2,ob h 3,⟨.type "module",some 0,.plain,o⟩,ob h 20,W4 v P,WZ m],[22,159,10,1,22,50,3,13,5,24],[[1,2,104,100,102,103,102],[2,2,102,2,2,2,2,2,2,2,2,2,2,2,2,2,2,2,105,106,102,103,102,2,2,2,105,106,102,103,102,2,2,2,105,106,102,103,102,2,2,2,105,106,102,103,102,2,2,2,105,106,102,103,102,2,2,2,105,106,102,103,102,2,2,2,2,2,2,2,2,2],[0,2,0,2,2,4],[4],[4,17,17,17,17,17,18,18,18,19,19,19,18,18,18,18,18,18,18],[19,19,19,19,19,19,19,18,18,18,18,18,19,19,19,19,18,18,18,18,18,18,18,4,5,7,9,11,13,15,16,20,19,21,21,21],[19,19,19],[21,21,21,21,21,21,21,21],[21,21,21,101,19],[19,19,22,19,19,19,19,19,19,19]],4,17,19,21,23⟩
set_option genInjectivity false
set_option genSizeOfSpec false
noncomputable def IQ (h:Ot):Prop:=h.ab.map (·.1)=h.ab.map (·.2)
theorem IQ.all {b:Ot}(h:IQ b):∀x∈b.ab,x.1=x.2:=by
 unfold IQ at h
 revert h
 generalize b.ab=l;intro h;induction l with
 |nil=>exact λ _ q=>nomatch q
 |cons a l k=>
  rw[A0,A0,List.cons.injEq] at h;intro x o;cases o with
  |head=>exact h.1
  |tail _ q=>exact k h.2 x q
noncomputable abbrev Yd:Value->List Value->Sem Bool:=cZ gE
variable (z:Pz)
variable {p1 p2:Pos} in
structure TA:Prop where
 s1:∀K,(z.A1 K).t=.stack (mZ (z.A1 K).t)
 s2:∀K st,mZ (z.A1 K).t st=z.U (K st)
 s3:∀st,(z.A2 st).t=z.U (mG st 1000)
 p1:(z.A1 PF).pl=none
 p2:∀st,(z.A2 st).pl=none
 t2:∀st,(z.A2 st).T=(z.A1 PF).T
 m2:∀st,(z.A2 st).m=(z.A1 PF).m
 i2:∀st,(z.A2 st).i=(z.A1 PF).i
 o2:∀st,(z.A2 st).O=(z.A1 PF).O
 a1:IQ (z.A1 PF)
 a2:∀st,IQ (z.A2 st)
 aA:IQ z.A
 aB:IQ (z.B 0 RM Ra Yd)
 aC:IQ (z.C 0 RM Ra Yd O8)
 aD:IQ (z.D 0 RM Ra Yd)
 aE:IQ z.E
 aF:IQ (z.F 0 Pp)
 aG:IQ z.G2
 aH:IQ (z.Hh 0 Nat.beq)
 aI:IQ z.I
 eA:z.A.t=mS RM Ra Yd z.qd
 eB:(z.B 0 RM Ra Yd).t=oC (oO O8) z.qc
 eC:∀a b j j2,(z.C 0 a b j j2).t=(z.C 1 a b j (λ _ _=>j2 (ad z z.iN) (ad z z.iL))).t
 eD1:∀a b j,(z.D 0 a b j).t=PySem.W.R.bindR (a (.type "type")) (λ v=>(z.D 0 (λ _=>.pure v) b j).t)
 eD2:∀b j,(z.D 0 hN b j).t=PySem.W.R.bindR (b [.type "object"]) (λ v=>(z.D 0 hN (λ _=>.pure v) j).t)
 eD3:∀j,(z.D 0 hN lN j).t=PySem.W.R.bindR (j (ad z z.iK) [ad z z.iK,.type "object"]) (λ v=>(z.D 2 hN lN (λ _ _=>.pure v)).t)
 eE:z.E.t=nD (nF (dO Pp)) z.qb
 eF:∀j,(z.F 0 j).t=(z.F 1 (λ _ _=>j [ad z z.iK,.type "object"] (ad z z.iK))).t
 eG:z.G2.t=oH rb z.qa
 eH:∀j,(z.Hh 0 j).t=(z.Hh 1 (λ _ _=>j (z.n+50+z.iK) (z.n+50+z.iK))).t
 eI:z.I.t=.pure (.done (.ret (ad z z.iK)))
 pI:z.I.pl=none
theorem jP (k:World)(n t o:Nat)(s:Array (Option Value)):TA (z1 k n t o s):=by
 constructor<;>intros<;>(try unfold IQ)<;>kernel_rfl
theorem jO (k:World)(n t o:Nat)(s:Array (Option Value))(c P:Addr)(v:Nat->Value)(m:Nat->Addr):TA (z2 k n t o s c P v m):=by
 constructor<;>intros<;>(try unfold IQ)<;>kernel_rfl
theorem eU (h:a≠b):O8 (.ref a) (.ref b)=false:=by
 show decide (a=b)=false;exact decide_eq_false h
theorem aP (v:Value)(l:List Value):Pp (v::l) v=true:=by
 unfold Pp;rw(occs:=.all) [<-PySem.W.Fast.te7966671052430208091,<-PySem.W.Fast.te3471404346716756564,Hp,beq_self_eq_true,Bool.true_or]
theorem Z1:Z2 (.ref a) [.ref a,.type "object"]=ZK:=by
 unfold Z2;rw(occs:=.all) [<-PySem.W.Fast.te7966671052430208091,<-PySem.W.R.filterR_eq,B8 (by rw(occs:=.all) [bne_self_eq_false];exact Ce),B7 (by kernel_rfl)];rfl
theorem bS:@List.anyM Sem PySem.W.Fast.tw12456147031677567982 Value gE ZK=.pure false:=by kernel_rfl
theorem iA:Yd (.ref a) [.ref a,.type "object"]=.pure false:=by
 show@List.anyM Sem PySem.W.Fast.tw12456147031677567982 Value gE (Z2 (.ref a) [.ref a,.type "object"])=_;rw(occs:=.all) [Z1,bS]
theorem Zn:RM (.type "type")=.pure none:=by kernel_rfl
theorem eW:Ra [.type "object"]=.pure ZK:=by kernel_rfl
noncomputable def pX (h:Obj)(st:List (Code×Pos))(t:Sem Unit):Sem Unit:=match t with
 | .stack k=>k st
 | .load _ _ k=>k h
 |t=>t
theorem kJ (st:List (Code×Pos)):mG st 1000=pX {cls:=.none,data:=.dict #[] 0} st (pX {cls:=.none,data:=.dict #[] 0} st (PySem.W.X.enterQ 0)):=by
 have h:PySem.W.X.enterQ 0=PySem.W.R.bindR stack PF:=by
  rw(occs:=.all) [<-cT,<-PySem.W.X.enterQ_eq];show _=PySem.W.Fast.tw15066281185411960212 0;rw(occs:=.all) [PySem.W.Fast.te15066281185411960212]
 rw(occs:=.all) [h];kernel_rfl
theorem ZJ {A:Around}{st:List (Code×Pos)}(l:PySem.W.X.Lies A st)(h:A.depth<recursionLimit):mG st 1000=.pure ():=by
 rw(occs:=.all) [kJ];show cond (X.nearF st 0 1000) _ (cond (X.overF st 0 1000) _ (cond (X.warmF st 0 1000) _ (pure ())))=_;rw(occs:=.all) [show X.nearF st 0 1000=false from l.near' h 0,show X.overF st 0 1000=false from l.over h 0,show X.warmF st 0 1000=false from l.warm h 0];rfl
section
variable {A:Around}{Q:Fin->Shared->Prop}{E:B3}
noncomputable abbrev Ow (z:Pz)(k:Around)(o:Fin->Shared->Prop)(s:B3)(h:Heap)(g:Array GenState)(d:Drawn)(os:OsState)(w:Ot):Prop:=LZ P1 z.w k o s (z.G 0) h g d os w
theorem Ow.nx {g:Array GenState}{c:Heap}{os:OsState}{z:Pz}{d:Drawn}{b i:Ot}{p:Pl}{f:Nat}{j:List Nat}{t:Sem Fin}(a:IQ b)(x:Ow z A Q E c g d os i)(k:i=kN (z.G 0) f j p t b.T b.m b.i b.O)(o:p=b.pl)(e:b.t=t):Ow z A Q E c g d os b:=
 ⟨a.all,λ h D=>by subst o;exact e▸MU (G:=z.G 0) ⟨rfl,rfl⟩ _ _ _ _ _ _ _ _ h D (k▸x)⟩
theorem So {g:Array GenState}{a:Heap}{os:OsState}{z:Pz}{d:Drawn}(R:TA z)(k:z.iN≠z.iL)(o:A.depth<recursionLimit)(x:Ow z A Q E a g d os z.I):Ow z A Q E a g d os (z.A1 PF):=by
 have s:Ow z A Q E a g d os (z.Hh 0 Nat.beq):=.nx R.aH x (by unfold Pz.I Pz.nx Pz.nj;rfl) rfl (by rw(occs:=.all) [R.eH,show Nat.beq (z.n+50+z.iK) (z.n+50+z.iK)=true from Nat.beq_refl _]);have w:Ow z A Q E a g d os z.G2:=.nx R.aG s (by unfold Pz.Hh Pz.nx Pz.nj;rfl) rfl (R.eG.trans (by rw(occs:=.all) [fK]));have H:Ow z A Q E a g d os (z.F 0 Pp):=.nx R.aF w (by unfold Pz.G2 Pz.nx Pz.nj;rfl) rfl (by rw(occs:=.all) [R.eF,aP]);have N:Ow z A Q E a g d os z.E:=.nx R.aE H (by unfold Pz.F Pz.nx Pz.nj;rfl) rfl R.eE;have O:Ow z A Q E a g d os (z.D 0 RM Ra Yd):=by
  refine .nx R.aD N (by unfold Pz.E Pz.nx Pz.nj;rfl) rfl ?_;rw(occs:=.all) [R.eD1,Zn];refine(R.eD2 Ra Yd).trans ?_;rw(occs:=.all) [eW];refine(R.eD3 Yd).trans ?_;rw(occs:=.all) [iA];rfl
 have V:Ow z A Q E a g d os (z.C 0 RM Ra Yd O8):=by
  refine .nx R.aC O (by unfold Pz.D Pz.nj;rfl) rfl ?_;rw(occs:=.all) [R.eC,eU λ e=>k (Nat.add_left_cancel e)]
 have W:Ow z A Q E a g d os (z.B 0 RM Ra Yd):=.nx R.aB V (by unfold Pz.C Pz.nj;rfl) rfl R.eB;have Z:Ow z A Q E a g d os z.A:=.nx R.aA W (by unfold Pz.B Pz.nx Pz.nj;rfl) rfl R.eA;have b:∀st,PySem.W.X.Lies A st->Ow z A Q E a g d os (z.A2 st):=λ st l=>.nx (R.a2 st) Z (by rw(occs:=.all) [R.t2,R.m2,R.i2,R.o2];unfold Pz.A Pz.nx Pz.nj;rfl) (R.p1.trans (R.p2 st).symm) (by rw(occs:=.all) [R.s3,ZJ l o]);refine⟨R.a1.all,λ h D=>?_⟩;rw(occs:=.all) [R.p1,R.s1];refine Mn.stack λ st l=>?_;rw(occs:=.all) [R.s2];have y:=b st l;unfold Pz.A2 at y;rw(occs:=.all) [R.p1] at y;exact MU (G:=z.G 0) ⟨rfl,rfl⟩ _ _ _ _ _ _ _ _ h D y
end
set_option genInjectivity false
set_option genSizeOfSpec false
variable (z:Pz)
variable {a:List Value} in
noncomputable def Rf (h:Option Obj):Array Value:=match h with
 |some ⟨_,_,.fields a,_⟩=>a
 |_=> #[]
noncomputable abbrev at_ (h:Nat):Addr:=z.n+50+h
noncomputable def Pz.pm:Value:=(nsFind (aO z.w 3) "__name__").getD .none
noncomputable def Pz.mr (i:Nat):Jg:=rK (z.hz+1) i
noncomputable def Pz.qual (i:Nat):Str:=(E5++".")++(z.mr i).name
noncomputable def Pz.t8 (i:Nat)(h k:Value):Obj:=Tq (z.mr i).name (z.qual i) (L6 (z.mr i).x (z.mr i).y (z.mr i).px (z.mr i).py) (z.mr i).body (z.mr i).sc (z.mr i).bi z.pm h k
noncomputable def K7 (k:World)(h:Str)(o:Nat)(v:Value):DictEntry:=⟨PyData.keyHash k.params h,.str h o,v⟩
noncomputable def Vq (h:World)(k:Nat->Nat)(u:Nat->Value):Array DictEntry:= #[K7 h "__module__" (k 0) (u 0),K7 h "__firstlineno__" (k 1) (u 1),K7 h "__slots__" (k 2) (u 2),K7 h "__init__" (k 3) (u 3),K7 h "__lt__" (k 4) (u 4),K7 h "__gt__" (k 5) (u 5),K7 h "__eq__" (k 6) (u 6),K7 h "__le__" (k 7) (u 7),K7 h "__ge__" (k 8) (u 8),K7 h "__hash__" (k 9) (u 9),K7 h "__static_attributes__" (k 10) (u 10),K7 h "obj" (k 11) (u 11),K7 h "__doc__" (k 12) (u 12)]
structure SA (tk:Nat->Nat)(u:Nat->Value)(f:Nat->Nat)(cv:Nat->Value):Prop where
 cls:∃sl,z.I.T[z.iK]? =some ⟨.type "type",none,.cls {qF (at_ z z.iK) (at_ z (z.iK-1)) "K" E5 with hasDict:=false,slotNames:=["obj"]},sl⟩/\(sl[4]?).join=some (.builtin "object.__new__")
 mem:∃tk,z.I.T[z.iK+1]? =some (RN "obj" tk (at_ z z.iK))
 ns:z.I.T[z.iK-1]? =some (XO (Vq z.w tk u) 3)
 um:∀i<6,u (3+i)=.ref (at_ z (f i))
 uo:u 11=.ref (at_ z (z.iK+1))
 ud:u 12=.none
 mt:∀i<6,∃ct,z.I.T[f i]? =some (z.t8 i (cv i) ct)
theorem l6 {P:Nat->Prop}(a:P 0)(b:P 1)(c:P 2)(d:P 3)(e:P 4)(f:P 5):∀i<6,P i
 |0,_=>a |1,_=>b |2,_=>c |3,_=>d |4,_=>e |5,_=>f
  |n+6,h=>absurd h (by omega)
section
variable (w:World)(n t hz:Nat)(sl:Array (Option Value))
theorem rU:SA (z1 w n t hz sl) (λ i=>t+[8,12,16,24,33,42,51,60,69,70,72,74,75].getD i 0) (λ i=>[.str "cpy313.functools" (t+13),.int 4 (t+11),.ref (n+50+7),.ref (n+50+14),.ref (n+50+22),.ref (n+50+30),.ref (n+50+38),.ref (n+50+46),.ref (n+50+54),.none,.ref (n+50+55),.ref (n+50+59),.none].getD i .none) (λ i=>14+8*i) (λ i=>ad (z1 w n t hz sl) (13+8*i)) where
 cls:=⟨#[some (.ref (n+50+0)),none,some (.str "K" t),some (.str E5 (t+9)),some (.builtin "object.__new__"),some (.bool false)],by kernel_rfl,rfl⟩
 mem:=⟨t+73,by kernel_rfl⟩
 ns:=by kernel_rfl
 um:=l6 rfl rfl rfl rfl rfl rfl
 uo:=rfl
 ud:=rfl
 mt:=l6 ⟨.none,by kernel_rfl⟩ ⟨.ref (n+50+15),by kernel_rfl⟩ ⟨.ref (n+50+23),by kernel_rfl⟩ ⟨.ref (n+50+31),by kernel_rfl⟩ ⟨.ref (n+50+39),by kernel_rfl⟩ ⟨.ref (n+50+47),by kernel_rfl⟩
theorem rS (c P:Addr)(v:Nat->Value)(m:Nat->Addr):SA (z2 w n t hz sl c P v m) (λ i=>t+[2,6,10,11,12,13,14,15,16,17,19,21,22].getD i 0) (λ i=>[.str "cpy313.functools" (t+7),.int 4 (t+5),.ref (n+50+4),.ref (n+50+5),.ref (n+50+7),.ref (n+50+9),.ref (n+50+11),.ref (n+50+13),.ref (n+50+15),.none,.ref (n+50+16),.ref (n+50+20),.none].getD i .none) (λ i=>5+2*i) (λ i=>.ref (m i)) where
 cls:=⟨#[some (.ref (n+50+0)),none,some (.str "K" t),some (.str E5 (t+3)),some (.builtin "object.__new__"),some (.bool false)],by kernel_rfl,rfl⟩
 mem:=⟨t+20,by kernel_rfl⟩
 ns:=by kernel_rfl
 um:=l6 rfl rfl rfl rfl rfl rfl
 uo:=rfl
 ud:=rfl
 mt:=l6 ⟨.none,by kernel_rfl⟩ ⟨.ref (n+50+6),by kernel_rfl⟩ ⟨.ref (n+50+8),by kernel_rfl⟩ ⟨.ref (n+50+10),by kernel_rfl⟩ ⟨.ref (n+50+12),by kernel_rfl⟩ ⟨.ref (n+50+14),by kernel_rfl⟩
variable {c:Nat}{q:Pos}{m:Str->Option Value} in
structure iM (vv:Nat->Nat->Value):Prop where
 c:(z1 w n t hz sl).I.T[5]? =some (W4 (vv 6) (n+50+4))
 tb:(z1 w n t hz sl).I.T[4]? =some (WZ λ i=>n+50+(13+8*i))
 o:(z1 w n t hz sl).I.O[0]? =some (W0 (n+50+5))
 q:∃tk,vv 6 1=.str E5 tk
 m:∀i<6,∃tk vs,(z1 w n t hz sl).I.T[13+8*i]? =some {cls:=.type "code",data:=.fields vs}/\vs[1]? =some (.str ((z1 w n t hz sl).qual i) tk)
theorem sB:iM w n t hz sl λ _ k=>(Rf ((z1 w n t hz sl).I.T[5]?)).getD k .none where
 c:=by kernel_rfl
 tb:=by kernel_rfl
 o:=by kernel_rfl
 q:=⟨t+3,by kernel_rfl⟩
 m:=l6 ⟨t+18,Rf ((z1 w n t hz sl).I.T[13]?),by kernel_rfl,by kernel_rfl⟩ ⟨t+26,Rf ((z1 w n t hz sl).I.T[21]?),by kernel_rfl,by kernel_rfl⟩ ⟨t+35,Rf ((z1 w n t hz sl).I.T[29]?),by kernel_rfl,by kernel_rfl⟩ ⟨t+44,Rf ((z1 w n t hz sl).I.T[37]?),by kernel_rfl,by kernel_rfl⟩ ⟨t+53,Rf ((z1 w n t hz sl).I.T[45]?),by kernel_rfl,by kernel_rfl⟩ ⟨t+62,Rf ((z1 w n t hz sl).I.T[53]?),by kernel_rfl,by kernel_rfl⟩
end
set_option genInjectivity false
set_option genSizeOfSpec false
theorem bQ:@buildClass=oV (PySem.W.R.bindR stack PF):=by
 rw[PySem.W.Fast.te1785580099245652887,hU,cT]
theorem Fs.start (s:h.objs.size=n)(w:∀(k:Nat)(a:Addr)(o:Obj),(P::b)[k]? =some a->c[k]? =some o->h.get? a=some o)(z:∀a∈P::b,a<n)(H:P∉b):Fs n (P::b) h h [] 0 c:=
 ⟨s,s,rfl,λ _ _ e=>(nomatch e),w,λ _ _ e _=>e,z,λ k a N O=>by
   cases O
   cases k with
   |zero=>rfl
   |succ k=>exact absurd (C4 (l:=b) N) H⟩
section
variable {A:Around}{E:B3}
theorem Nk {P:Addr}{g:Array GenState}{os:OsState}{z:Pz}{d:Drawn}(R:TA z)(H:z.iN≠z.iL){b:List Addr}(V:z.oa=P::b)(Z:P∉b)(c:A.depth<recursionLimit)(e:h.objs.size=z.n+50)
 (i:∀(k:Nat)(a:Addr)(o:Obj),(P::b)[k]? =some a->z.O[k]? =some o->h.get? a=some o) (j:∀a∈P::b,a<z.n+50)
 (l:∀w,Fs (z.n+50) (P::b) h w z.I.T z.I.m z.I.O->Q (ad z z.iK) ⟨w,g,d,z.t+z.I.i,os⟩):
 wpAny (model P1 z.w) A (buildClass "K" E5 [.type "object"] [] S7 fH ["obj"] ID.line z.env ID none) Q E ⟨h,g,d,z.t,os⟩:=by
 let W:Fin->Shared->Prop:=λ N s=>match N with | .done (.ret v)=>Q v s |_=>False
 have x:Ow z A W E h g d os z.I:=⟨R.aI.all,λ w D=>by rw[R.pI,R.eI];exact Ag (l w (V▸D))⟩;have y:=So R H c x;have D:Fs (z.G 0).n (z.G 0).oa h h [] 0 z.O:=by
  show Fs (z.n+50) z.oa h h [] 0 z.O;rw[V];exact Fs.start e i j Z
 have m:Mn P1 z.w A W E none (z.t0 (PySem.W.R.bindR stack PF)) ⟨h,g,d,z.t+0,os⟩:=by
  unfold Pz.A1 Pz.nx Pz.nj at y;exact MU (G:=z.G 0) ⟨rfl,rfl⟩ _ _ _ _ _ _ _ _ h D y
 intro n p O;have k:=m n p O;unfold Pz.t0 at k;rw[<-bQ,<-PySem.W.R.bindR_eq] at k;rw[show ∀(a:Sem Value)(f:Value->Sem Fin),Sem.bind a f=a >>=f from λ _ _=>rfl,Sem.wp_bind'] at k;exact k
end
section
noncomputable def W2:List Str:=["__module__","__firstlineno__","__slots__","__init__","__lt__","__gt__","__eq__","__le__","__ge__","__hash__","__static_attributes__","obj","__doc__"]
theorem MQ {a:Nat->Nat}{u:Nat->Value}:(Vq w a u).toList.map (·.key)=W2.zipIdx.map λ x=>.str x.1 (a x.2):=by kernel_rfl
theorem ZN {a:Nat->Nat}{u:Nat->Value}:StrKeys (Vq w a u):=λ e h=>by
 have q:e.key∈(Vq w a u).toList.map (·.key):=List.mem_map_of_mem (Gq.mpr h)
 rw[MQ] at q;obtain⟨x,_,k⟩:=Al.mp q;exact⟨_,_,k.symm⟩
theorem W3 {c:Nat->Nat}{u:Nat->Value}:UniqKeys (Vq w c u):=by
 have q:((Vq w c u).toList.map (·.key)).Pairwise λ a b=>∀n,a.isStr n=true->b.isStr n=true->False:=by
  rw[MQ,List.pairwise_map];refine List.Pairwise.imp (R:=λ a b=>a.1≠b.1) (λ h n k o=>h ?_) (by decide+kernel);exact(BB k).trans (BB o).symm
 exact List.pairwise_map.mp q
theorem Qr {a:Nat->Nat}{u:Nat->Value}(h:x∉W2):nsFind (Vq w a u) x=none:=by
 unfold nsFind findBy;rw[Option.map_eq_none_iff,Array.find?_eq_none];intro e k;have q:e.key∈(Vq w a u).toList.map (·.key):=List.mem_map_of_mem (Gq.mpr k)
 rw[MQ] at q;obtain⟨y,o,hk⟩:=Al.mp q;rw[<-hk];intro z;exact h (BB z▸(List.mem_zipIdx o).2.2▸Ge _)
end
set_option genInjectivity false
set_option genSizeOfSpec false
section
noncomputable def kM (h:World)(k:Nat->Nat)(u:Nat->Value)(x:Str):Option Value:=if x="obj"\/x="__doc__" then none else nsFind (Vq h k u) x
theorem OW (h:Addr):∀i<6,(rK h i).name=HC.getD i "":=l6 (by kernel_rfl) (by kernel_rfl) (by kernel_rfl) (by kernel_rfl) (by kernel_rfl) (by kernel_rfl)
theorem ZM (h:World)(k:Nat->Nat)(u:Nat->Value)(o:i<6)(s:Addr):kM h k u (rK s i).name=some (u (3+i)):=by
 rw[OW s i o];exact l6 (P:=λ i=>kM h k u (HC.getD i "")=some (u (3+i))) (by unfold kM;rw[if_neg (by decide+kernel)];kernel_rfl) (by unfold kM;rw[if_neg (by decide+kernel)];kernel_rfl) (by unfold kM;rw[if_neg (by decide+kernel)];kernel_rfl) (by unfold kM;rw[if_neg (by decide+kernel)];kernel_rfl) (by unfold kM;rw[if_neg (by decide+kernel)];kernel_rfl) (by unfold kM;rw[if_neg (by decide+kernel)];kernel_rfl) i o
theorem ZL {z:Pz}{b:Nat->Nat}{u:Nat->Value}(h:Ni.contains x=false)(o:x∉HC):kM z.w b u x=none:=by
 unfold kM;split
 ·rfl
 ·rename_i q;refine Qr λ s=>?_;have k:∀k∈W2,Ni.contains k=true\/k∈HC\/k="obj"\/k="__doc__":=by decide+kernel
  rcases k x s with a |a |a
  ·cases Eq.trans (Eq.symm h) a
  ·exact o a
  ·exact q a
theorem fJ {z:Pz}{a:Nat->Nat}{u:Nat->Value}(x:Str)(h:u 11=.ref b)(k:u 12=.none):nsFind (Vq z.w a u) x=Vy (Vy (gT (kM z.w a u) "__qualname__") "obj" (.ref b)) "__doc__" .none x:=by
 unfold Vy gT;split
 ·rename_i e;subst e;exact(show nsFind (Vq z.w a u) "__doc__"=some (u 12) by kernel_rfl).trans (congrArg some k)
 ·rename_i o;split
  ·rename_i e;subst e;exact(show nsFind (Vq z.w a u) "obj"=some (u 11) by kernel_rfl).trans (congrArg some h)
  ·rename_i s;split
   ·rename_i e;subst e;exact Qr (by decide+kernel)
   ·unfold kM;rw[if_neg λ q=>q.elim s o]
theorem WX {z:Pz}{b f:Nat->Nat}{u c:Nat->Value}(F:SA z b u f c)(D:Fs (z.n+50) d h H z.I.T z.I.m z.I.O)(hc:∀i<6,Cd H (c i) (z.qual i)):Ys H (at_ z z.iK) E5 "obj" z.pm HC (Jn (z.hz+1) S7):=by
 obtain⟨V,w,N⟩:=F.cls;obtain⟨s,O⟩:=F.mem;refine⟨kM z.w b u,⟨_,_,_,s,D.new _ _ w,rfl,rfl,rfl,N,⟨⟨_,_,D.new _ _ F.ns,ZN,W3,λ x=>fJ x F.uo F.ud⟩⟩,D.new _ _ O⟩,?_,λ x=>ZL⟩;have k:∀i<6,∃a,kM z.w b u (rK (z.hz+1) i).name=some (.ref a)/\JZ H a ((E5++".")++(rK (z.hz+1) i).name) z.pm (rK (z.hz+1) i):=λ i o=>by
  obtain⟨Q,e⟩:=F.mt i o;exact⟨_,(ZM _ _ _ o _).trans (congrArg some (F.um i o)),c i,Q,D.new _ _ e,hc i o⟩
 rw[OU];exact nO (k 0 (by decide)) (k 1 (by decide)) (k 2 (by decide)) (k 3 (by decide)) (k 4 (by decide)) (k 5 (by decide))
end
variable {args:List PV} in
noncomputable def Oa (l:List Arg):Arguments:={posonlyargs:=[],args:=l,vararg:=none,kwonlyargs:=[],kw_defaults:=[],kwarg:=none,defaults:=[]}
theorem nR {f:List Value}(h:f.length=5):∃a b c d e,f=[a,b,c,d,e]:=by
 refine C6 λ s k=>?_;obtain⟨a,r,rfl,q⟩:=WK h;obtain⟨b,r,rfl,o⟩:=WK q;obtain⟨c,d,e,rfl⟩:=fB o;refine k ?_;exact⟨a,b,c,d,e,rfl⟩
variable {i:Nat}{a:List Str}{p:Evs} in
noncomputable def Sv (f:Nat->Pos):List Str->Nat->List Arg
 |[],_=>[]
 |p::a,i=>⟨p,none,f i⟩::Sv f a (i+1)
noncomputable def H1 (o:List Str):Prop:=∀(k:FuncData)(f:Nat->Pos),k.params=Oa (Sv f o 0)->k.defaults=.none->k.kwdefaults=.none->∀h:List Value,h.length=o.length->bindArgs k ⟨h,[]⟩=(pure (o.zip h):Sem (List (Str×Value)))
theorem GS (B:H1 a){f:Nat->Pos}(s:fd.params=Oa (Sv f a 0))(w:fd.defaults=.none)(hk:fd.kwdefaults=.none)(k:Bl)(h:List Value)(o:Shared)(_:A9 k k.h0 o.heap)(H:h.length=a.length):BindsTo o fd ⟨h,[]⟩ (a.zip h):=.of_eq (B fd f s w hk h H)
theorem Pw:H1 ["sequences"]:=λ k f o s hk h w=>by
 obtain⟨a,rfl⟩:=Uw w;cases k;subst o;subst s;subst hk;rfl
theorem Px:H1 ["resp","peer"]:=λ k f o s hk h w=>by
 obtain⟨a,b,rfl⟩:=Qn w;cases k;subst o;subst s;subst hk;rfl
theorem bP:H1 ["resp"]:=λ k f o s hk h w=>by
 obtain⟨a,rfl⟩:=Uw w;cases k;subst o;subst s;subst hk;rfl
theorem Ml:H1 ["mode"]:=λ k f o s hk h w=>by
 obtain⟨a,rfl⟩:=Uw w;cases k;subst o;subst s;subst hk;rfl
theorem NU:H1 ["name","place"]:=λ k f o s hk h w=>by
 obtain⟨a,b,rfl⟩:=Qn w;cases k;subst o;subst s;subst hk;rfl
theorem Eu:H1 ["names","spots","ports","wished","spoiled"]:=λ k f o s hk h w=>by
 obtain⟨a,b,c,d,e,rfl⟩:=nR w;cases k;subst o;subst s;subst hk;rfl
theorem Nw:H1 ["state","reply"]:=λ k f o s hk h w=>by
 obtain⟨a,b,rfl⟩:=Qn w;cases k;subst o;subst s;subst hk;rfl
theorem Jd:H1 ["hours","dues","pairs"]:=λ k f o s hk h w=>by
 obtain⟨a,b,c,rfl⟩:=fB w;cases k;subst o;subst s;subst hk;rfl
theorem Nx:H1 ["names","pairs"]:=λ k f o s hk h w=>by
 obtain⟨a,b,rfl⟩:=Qn w;cases k;subst o;subst s;subst hk;rfl
theorem Vf:H1 ["script"]:=λ k f o s hk h w=>by
 obtain⟨a,rfl⟩:=Uw w;cases k;subst o;subst s;subst hk;rfl
theorem Ya:H1 ["mycmp"]:=λ k f o s hk h w=>by
 obtain⟨a,rfl⟩:=Uw w;cases k;subst o;subst s;subst hk;rfl
noncomputable abbrev Ds (h:World)(a:Addr):FuncData:=Se (K1 h) a
noncomputable abbrev EW (h:World)(k:Heap):=(K1 h).In k
noncomputable abbrev Hq (k:World)(o:Heap)(n:Addr)(h:Env)(s:Heap):=XB (W1 k o) (Ds k n).scope h s
noncomputable abbrev GW (h:World)(k:Heap)(C:A5)(o:Nat)(s w:Str->Option Value):=Dt (W1 h k) C o s w
noncomputable def IK (h:World)(a:Addr)(j:Nat):Pos:=match(Ds h a).params.args[j]? with |some x=>x.pos |none=>default
theorem kQ {b:ExcName->Option Value}(I:EW w h)(T:Top c a b mg mb h):EH (W1 w h) 35 (Ds w 35) ["sequences"] (Bi P1 4):=DO I T.nolimit (by kernel_rfl) (by kernel_rfl) (GS Pw (f:=IK w 35) (by kernel_rfl) (by kernel_rfl) (by kernel_rfl) _)
theorem M1 {b:ExcName->Option Value}(I:EW w h)(T:Top c a b mg mb h):EH (W1 w h) 79 (Ds w 79) ["resp","peer"] (Bi P1 9):=DO I T.nolimit (by kernel_rfl) (by kernel_rfl) (GS Px (f:=IK w 79) (by kernel_rfl) (by kernel_rfl) (by kernel_rfl) _)
theorem Pj {b:ExcName->Option Value}(I:EW w h)(T:Top c a b mg mb h):EH (W1 w h) 86 (Ds w 86) ["resp"] (Bi P1 10):=DO I T.nolimit (by kernel_rfl) (by kernel_rfl) (GS bP (f:=IK w 86) (by kernel_rfl) (by kernel_rfl) (by kernel_rfl) _)
theorem QI {b:ExcName->Option Value}(I:EW w h)(T:Top c a b mg mb h):EH (W1 w h) 93 (Ds w 93) ["mode"] (Bi P1 12):=DO I T.nolimit (by kernel_rfl) (by kernel_rfl) (GS Ml (f:=IK w 93) (by kernel_rfl) (by kernel_rfl) (by kernel_rfl) _)
theorem Tj {b:ExcName->Option Value}(I:EW w h)(T:Top c a b mg mb h):EH (W1 w h) 100 (Ds w 100) ["mode"] (Bi P1 13):=DO I T.nolimit (by kernel_rfl) (by kernel_rfl) (GS Ml (f:=IK w 100) (by kernel_rfl) (by kernel_rfl) (by kernel_rfl) _)
theorem Ly {b:ExcName->Option Value}(I:EW w h)(T:Top c a b mg mb h):EH (W1 w h) 140 (Ds w 140) ["mode"] (Bi P1 34):=DO I T.nolimit (by kernel_rfl) (by kernel_rfl) (GS Ml (f:=IK w 140) (by kernel_rfl) (by kernel_rfl) (by kernel_rfl) _)
theorem Ti {b:ExcName->Option Value}(I:EW w h)(T:Top c a b mg mb h):EH (W1 w h) 147 (Ds w 147) ["name","place"] (Bi P1 36):=DO I T.nolimit (by kernel_rfl) (by kernel_rfl) (GS NU (f:=IK w 147) (by kernel_rfl) (by kernel_rfl) (by kernel_rfl) _)
theorem Th {b:ExcName->Option Value}(I:EW w h)(T:Top c a b mg mb h):EH (W1 w h) 152 (Ds w 152) ["names","spots","ports","wished","spoiled"] (Bi P1 37):=DO I T.nolimit (by kernel_rfl) (by kernel_rfl) (GS Eu (f:=IK w 152) (by kernel_rfl) (by kernel_rfl) (by kernel_rfl) _)
theorem Xv {b:ExcName->Option Value}(I:EW w h)(T:Top c a b mg mb h):EH (W1 w h) 159 (Ds w 159) ["state","reply"] (Bi P1 38):=DO I T.nolimit (by kernel_rfl) (by kernel_rfl) (GS Nw (f:=IK w 159) (by kernel_rfl) (by kernel_rfl) (by kernel_rfl) _)
theorem M0 {b:ExcName->Option Value}(I:EW w h)(T:Top c a b mg mb h):EH (W1 w h) 166 (Ds w 166) ["mode"] (Bi P1 39):=DO I T.nolimit (by kernel_rfl) (by kernel_rfl) (GS Ml (f:=IK w 166) (by kernel_rfl) (by kernel_rfl) (by kernel_rfl) _)
theorem Tk {b:ExcName->Option Value}(I:EW w h)(T:Top c a b mg mb h):EH (W1 w h) 171 (Ds w 171) ["hours","dues","pairs"] (Bi P1 40):=DO I T.nolimit (by kernel_rfl) (by kernel_rfl) (GS Jd (f:=IK w 171) (by kernel_rfl) (by kernel_rfl) (by kernel_rfl) _)
theorem QH {b:ExcName->Option Value}(I:EW w h)(T:Top c a b mg mb h):EH (W1 w h) 176 (Ds w 176) ["names","pairs"] (Bi P1 41):=DO I T.nolimit (by kernel_rfl) (by kernel_rfl) (GS Nx (f:=IK w 176) (by kernel_rfl) (by kernel_rfl) (by kernel_rfl) _)
theorem fY {b:ExcName->Option Value}(I:EW w h)(T:Top c a b mg mb h):EH (W1 w h) 181 (Ds w 181) ["script"] Mg:=DO I T.nolimit (by kernel_rfl) (by kernel_rfl) (GS Vf (f:=IK w 181) (by kernel_rfl) (by kernel_rfl) (by kernel_rfl) _)
theorem Xw {b:ExcName->Option Value}(I:EW w h)(T:Top c a b mg mb h):EH (W1 w h) 21 (Ds w 21) ["mycmp"] (Bi P1 1):=DO I T.nolimit (by kernel_rfl) (by kernel_rfl) (GS Ya (f:=IK w 21) (by kernel_rfl) (by kernel_rfl) (by kernel_rfl) _)
set_option genInjectivity false
set_option genSizeOfSpec false
theorem dE (h:World)(n t k:Nat)(o:Array (Option Value))(c P:Addr)(v:Nat->Value)(m:Nat->Addr):(z2 h n t k o c P v m).I.O[0]? =some (W0 c):=by kernel_rfl
theorem XQ (h:World):cV h=Ds h 21:=by kernel_rfl
theorem Vx (z:Pz)(h:i<6):z.qual i=(E5++".")++(rK 0 i).name:=by
 show(E5++".")++(rK (z.hz+1) i).name=_;rw[OW _ i h,OW _ i h]
section
theorem Hf {a:Heap}(s:A9 (W1 w a) a h)(e:a.get? b=some o)(H:b≠16)(N:b≠178):h.get? b=some o:=by
 rcases s.1 b o e with k |⟨k,_⟩ |⟨k,_⟩
 ·exact k
 ·exact nomatch k.symm.trans e
 ·rcases Ae.mp k with k |k
  ·exact absurd k H
  ·exact absurd (BI.mp k) N
theorem XP {d:ExcName->Option Value}(I:EW w a)(T:Top e b d mg mb a)(k:A9 (W1 w a) a h):h.get? 2=some (ob w 2)/\h.get? 3=some (ob w 3)/\(∃s,h.get? 4=some ⟨.type "module",some 0,.plain,s⟩)/\h.get? 20=some (ob w 20)/\180<h.objs.size:=by
 refine⟨Hf k (I _ _ (by kernel_rfl)) (by decide) (by decide),Hf k (I _ _ (by kernel_rfl)) (by decide) (by decide),?_,Hf k (I _ _ (by kernel_rfl)) (by decide) (by decide),Az (Hf k (I 180 (ob w 180) (by kernel_rfl)) (by decide) (by decide))⟩;obtain⟨W,o,H,_,N,O,Q,V⟩:=T.bmain;have q:mg "__builtins__"=some (.ref 4):=(C7 I T _).trans (by kernel_rfl);cases Eq.trans (Eq.symm q) H;obtain⟨c,Z,f,s⟩:=o;cases O;cases Q;cases V;exact⟨s,Hf k N (by decide) (by decide)⟩
variable {A:Around}{E:B3}
theorem qH {P:Addr->Obj->Prop}{os:List Obj}:∀(k:Nat)(x:Addr)(y:Obj),([]:List Addr)[k]? =some x->os[k]? =some y->P x y:=λ _ _ _ e=>nomatch e
theorem Vu {a:Addr}{P:Addr->Obj->Prop}{b:List Addr}{os:List Obj}(w:P a o)(A:∀(h:Nat)(x:Addr)(y:Obj),b[h]? =some x->os[h]? =some y->P x y)(h:Nat)(x:Addr)(y:Obj)(k:(a::b)[h]? =some x)(s:(o::os)[h]? =some y):P x y:=by
 cases h with
 |zero=>cases k;cases s;exact w
 |succ h=>exact A h x y k s
theorem al1 (h:a<n)(k:∀x∈b,x<n)(x:Addr)(o:x∈a::b):x<n:=by
 cases o with
 |head=>exact h
 |tail _ q=>exact k x q
theorem qJ:∀x∈([]:List Addr),x<n:=λ _ q=>nomatch q
theorem U8 {g:Array GenState}{f:Heap}{j:List Str}{l:ExcName->Option Value}{os:OsState}{p:Program}{d:Drawn}{t hz:Nat}(I:EW w f)(T:Top p j l mg mb f)(a0:A9 (W1 w f) f h)(y:(W1 w f).ox h)(V:A.depth<recursionLimit)
 (R:∀H G K,A9 (W1 w f) h H->t<=G->h.get? K=none->Ys H K E5 "obj" ((mg "__name__").getD .none) HC (Jn (hz+1) S7)->Q (.ref K) ⟨H,g,d,G,os⟩):
 wpAny (model P1 w) A (buildClass "K" E5 [.type "object"] [] S7 fH ["obj"] ID.line (callEnvC (Ds w 21) hz 21) ID none) Q E ⟨h,g,d,t,os⟩:=by
 obtain⟨J,L,⟨N,M⟩,O,Bf⟩:=XP I T a0;have s:h.objs.size=(h.objs.size-50)+50:=(Nat.sub_add_cancel (Cx (Cn (by decide) Bf))).symm;generalize hn:h.objs.size-50=n at s;have nm:(mg "__name__").getD .none=(nsFind (aO w 3) "__name__").getD .none:=by rw[C7 I T]
 rw[nm] at R;have fresh:∀{oa:List Addr}{H:Heap}{z:Pz},z.n=n->Fs (z.n+50) oa h H z.I.T z.I.m z.I.O->∀k,h.get? (at_ z k)=none:=λ e D k=>by
  cases q:h.get? (at_ _ k) with
  |none=>rfl
  |some o=>
   have:=Az q;rw[s,<-e] at this;exact absurd this (BC.mpr (Bq _ _))
 rcases y.1 with t0 |⟨c,P,v,m,t0⟩
 ·have z:=Nk (z:=z1 w n t hz N) (A:=A) (E:=E) (g:=g) (d:=d) (os:=os) (h:=h) (Q:=Q) (jP _ _ _ _ _) (show(56:Nat)≠7 by decide) rfl (by decide) V s (Vu (P:=λ a o=>h.get? a=some o) t0 (Vu J (Vu L (Vu M (Vu O qH)))))
   (s▸al1 (Az t0) (al1 (Az J) (al1 (Az L) (al1 (Az M) (al1 (Az O) qJ))))) λ H D=>?_
  ·show wpAny (model P1 w) A (buildClass "K" E5 [.type "object"] [] S7 fH ["obj"] ID.line (callEnvC (Ds w 21) hz 21) ID none) Q E ⟨h,g,d,t,os⟩;rw[<-XQ];exact z
  ·have C:=sB w n t hz N;have x:∀b o,b≠16->h.get? b=some o->H.get? b=some o:=λ b o S e=>D.keep b o e λ q=>S (Au q).symm;have B:H.get? 16=some (W0 (n+50+5)):=D.qi 0 16 _ rfl C.o;have W:∀i<6,Cd H (.ref (n+50+(13+8*i))) ((z1 w n t hz N).qual i):=λ i Z=>by
    obtain⟨G,vs,e1,e2⟩:=C.m i Z;exact⟨_,_,vs,G,rfl,D.new _ _ e1,rfl,rfl,e2⟩
   have u:∀{b o},h.get? b=some o->o.cls=.type "code"->b≠16:=λ e hc q=>by
    subst q;obtain rfl:=AF t0 e;cases hc
   refine R H _ _ ⟨λ b o e=>?_,λ _=>⟨.inr ⟨n+50+5,n+50+4,_,λ i=>n+50+(13+8*i),B,D.new _ _ C.c,D.new _ _ C.tb,⟨AJ (by decide) (Bb (s▸Bf:181<=n+50) 5),AJ (by decide) (Bb (s▸Bf:181<=n+50) 4)⟩,λ i Z=>Vx (z1 w n t hz N) Z▸W i Z⟩,?_⟩⟩ (Bq _ _) (fresh (z:=z1 w n t hz N) rfl D _) (WX (rU w n t hz N) D W)
   ·by_cases q:b=16
    ·subst q;obtain rfl:=AF t0 e;exact .inr (.inr ⟨by show(16:Nat)∈[16,178];simp,#[],_,rfl,B.trans (by show _=some (tabObj (#[]++ #[rawInt ID.line,rawInt ID.col,.ref (n+50+5)]));rfl)⟩)
    ·exact .inl (x b o q e)
   ·obtain⟨ps,T2,G2⟩:=y.2;exact⟨ps,T2.extBut (a:=16) (λ b o S e=>x b o S e) (by decide) (by decide),λ r hr cv U=>(G2 r hr cv U).at_ λ b o e hc=>x b o (u e hc) e⟩
 ·have z:=Nk (z:=z2 w n t hz N c P v m) (A:=A) (E:=E) (g:=g) (d:=d) (os:=os) (h:=h) (Q:=Q) (jO _ _ _ _ _ _ _ _ _) (show(17:Nat)≠4 by decide) rfl
   (by
    have Y:=t0.tr.1;have a2:=t0.tr.2;intro q;simp only[Ae,AU,or_false] at q;rcases q with q |q |q |q |q |q
    ·cases q
    ·cases q
    ·cases q
    ·cases q
    ·rw[<-q] at Y;exact absurd Y (by decide)
    ·rw[<-q] at a2;exact absurd a2 (by decide)) V s (Vu (P:=λ a o=>h.get? a=some o) t0.rz (Vu J (Vu L (Vu M (Vu O (Vu t0.code (Vu t0.sub qH)))))))
   (s▸al1 (Az t0.rz) (al1 (Az J) (al1 (Az L) (al1 (Az M) (al1 (Az O) (al1 (Az t0.code) (al1 (Az t0.sub) qJ))))))) λ H D=>?_
  ·show wpAny (model P1 w) A (buildClass "K" E5 [.type "object"] [] S7 fH ["obj"] ID.line (callEnvC (Ds w 21) hz 21) ID none) Q E ⟨h,g,d,t,os⟩;rw[<-XQ];exact z
  ·have x:∀b o,h.get? b=some o->H.get? b=some o:=λ b o e=>by
    by_cases q:b=16
    ·subst q;rw[t0.rz] at e;cases e;exact D.qi 0 16 _ rfl (dE w n t hz N c P v m)
    ·exact D.keep b o e λ q'=>q (Au q').symm
   refine R H _ _ (.ae x) (Bq _ _) (fresh (z:=z2 w n t hz N c P v m) rfl D _) (WX (rS w n t hz N c P v m) D λ i Z=>?_);rw[Vx _ Z];exact(t0.ol i Z).at_ λ b o e _=>x b o e
end
section
variable {A:Around}{E:B3}{C:A5}
theorem XR (k:World)(h:Nat):(callEnvC (Ds k 21) h 21).cells.lookup ("mycmp":Str)=some (h+1):=by kernel_rfl
theorem gU (h:World)(k:Nat):qualnameIn (callEnvC (Ds h 21) k 21) "K" "K"=E5:=by kernel_rfl
theorem XT {a:Heap}{e:ExcName->Option Value}(I:EW w a)(T:Top g c e mg mb a)(Gk:Dt (W1 w a) C i mg mb)(hA:Cc (k+1) A)(G:Gd (W1 w a) s)(f:Value)
 (hQ:∀u tk K x,A9 (W1 w a) s.heap u->s.toks<=tk->s.heap.get? K=none->Ys u K E5 "obj" ((mg "__name__").getD .none) HC (Jn x S7)->u.IsCell x (some f)->a.get? x=none->Q (.ref K) {s with heap:=u,toks:=tk}):
 wpAny (W1 w a).M A (call (.ref 21) [f]) Q E s:=by
 have fo:EH (W1 w a) 21 (Ds w 21) ["mycmp"] [.ClassDef "K" [.Name "object" nZ] [] S7 [] [] fH none "K" ["obj"] ID,.Return (some (.Name "K" qC)) qA]:=by have:=Xw I T;rw[show Bi P1 1=_ from XU] at this;exact this
 have y:(Ds w 21).scope.names.lookup ("mycmp":Str)=some .cell:=by kernel_rfl
 have z:(Ds w 21).scope.names.lookup ("K":Str)=some .local:=by kernel_rfl
 have D:mg "object"=none/\mb "object"=some (.type "object"):=⟨(C7 I T _).trans (by kernel_rfl),Lu T (by decide+kernel) (by kernel_rfl)⟩;refine EB fo hA G (X:=[]) (λ b q=>by cases q) (args:=[.ao f]) (.ao .nil) rfl λ J a0 L he B a1 Z S=>?_;have o:=S.gd B;refine Aj ?_;rw[arm_exec_ClassDef];refine Ab (Ag (Ab (AL (Ab ?_))));unfold buildClassGuard;rw[S.F.blt];refine Ab (wpAny_nsGet (Co o.al Gk.b) ?_);rw[Lu T (by decide+kernel) (x:="__build_class__") (v:=.builtin "__build_class__") (by kernel_rfl)];refine Ag (Ab (Bk (Ab ?_)));rw[A7 ID J [.Name "object" nZ] rfl];refine AV (Ap (BK Gk S.F o (by kernel_rfl) (.inr D) (AR (Ab (AL (Bk ?_))))));subst he;rw[gU];have S':=S;refine U8 (hz:=s.heap.objs.size) I T o.al o.oz (Cn (Av (Bq ..) (hA.down (callEnvC (Ds w 21) s.heap.objs.size 21)).depth) (by decide+kernel)) λ a2 O K j N hK kk=>?_;refine Ab (Ag (Ab (AL (Ab ?_))));have H:=S.ac (tk:=O) j N;refine wpAny_bindName (H.putName B (x:="K") (sl:=.ao (.ref K)) (by unfold AI;rw[z];decide+kernel) rfl (λ d q=>nomatch q) λ l V h W m=>Ag ?_);refine Aj (CR (FI.ao h.F (by rw[Ba,if_pos rfl]) ?_));have hk:=W.ap H.F H.fc;have n:=XR w s.heap.objs.size;obtain⟨a3,a4,p,r,t⟩:=h.F.cell "mycmp" (.inl y);obtain rfl:=AF n p;obtain⟨v,M,R⟩:=t (.ao f) (by rw[Ba,if_neg (by decide+kernel)];exact An);have U:v=f:=R;subst U;subst M;have Y:s.heap.get? K=none:=by
  exact A9.bf S.le hK
 exact hQ l V K _ h.le (Aa Z (Aa N m)) Y (kk.ap hk) r (h.F.alive _ (h.F.zx _ (h.F.ba _ (BP n)))).1
end
variable {a:List Value} in
noncomputable def jL (h:Obj):Option (Array Value):=if h.cls== .type "tuple"&&h.dict.isNone&&h.slots.isEmpty then(match h.data with | .seq a _=>if a.size<=Bf then some a else none |_=>none) else none
theorem V1 {a:Array Value}(h:jL o=some a):∃m,o=Jk a m/\a.size<=Bf:=by
 obtain⟨k,s,w,H⟩:=o;obtain⟨q,h⟩:=F8 h;obtain⟨q,N⟩:=Ai.mp q;obtain⟨O,Q⟩:=Ai.mp q;obtain rfl:k=.type "tuple":=BB O;obtain rfl:s=none:=Option.isNone_iff_eq_none.mp Q;obtain rfl:H= #[]:=Array.isEmpty_iff.mp N;cases w with
 |seq V m=>
  obtain⟨z,e⟩:=IE h;exact e▸⟨m,rfl,z⟩
 |_=>contradiction
variable {a:Addr}{v:Value}{i n:Nat} in
noncomputable def jT (K:Frag):Nat->Value->Option PV
 |0,_=>none
 |n+1,v=>match v with
  | .int i _=>some (.int i)
  | .str x _=>if J2 x then some (.str x) else none
  | .ref a=>(K.lookup a).bind λ o=>(jL o).bind λ h=>(h.toList.mapM (jT K n)).map .aw
  |_=>none
theorem Zs {f:Value->Option PV}(H:∀v d,f v=some d->Rp W X h v d):∀{k:List Value}{o:List PV},k.mapM f=some o->RpL W X h k o:=by
 intro k;induction k with
 |nil=>
  intro o e;cases e;exact .nil
 |cons v k s=>
  intro o e
  replace e:=Eq.trans (Eq.symm (Ho)) e
  obtain⟨d,N,e⟩:=Aq.mp e;obtain⟨O,w,e⟩:=Aq.mp e;cases e;exact .cons (H v d N) (s w)
set_option tactic.hygienic true in
theorem jS {K:Frag}(I:K.In W.h0)(N:∀a∈X,W.h0.get? a=none):∀(n:Nat)(v:Value)(d:PV),jT K n v=some d->Rp W X W.h0 v d:=by
 intro n;induction n with
 |zero=>
  intro v d e
  contradiction
 |succ n s=>
  intro v d e;cases v with
  |int i t=>cases e;exact .int _ _
  |str x t=>
   obtain⟨k,e⟩:=F8 e;have k:=Ai.mp k;cases e;exact .str _ _ k.1 (of_decide_eq_true k.2)
  |ref a=>
   refine C6 λ Z O=>?_;obtain⟨o,Q,e⟩:=Aq.mp e;obtain⟨b,V,e⟩:=Aq.mp e;obtain⟨c,w,rfl⟩:=AY.mp e;obtain⟨m,rfl,z⟩:=V1 V;refine O ?_;have H:=I a _ Q;exact .aw H (λ q=>by replace H:=Eq.trans (Eq.symm (N a q)) H;contradiction) z (Zs (λ v d h=>s v d h) w)
  |_=>contradiction
noncomputable def kU (l:List (Int×Str)):PV:=.aw (l.map λ p=>.aw [.int p.1,.str p.2])
noncomputable def gA:List (List (Int×Str)):=[[(40960,"l"),(49152,"s"),(32768,"-"),(24576,"b"),(16384,"d"),(8192,"c"),(4096,"p")],[(256,"r")],[(128,"w")],[(2112,"s"),(2048,"S"),(64,"x")],[(32,"r")],[(16,"w")],[(1032,"s"),(1024,"S"),(8,"x")],[(4,"r")],[(2,"w")],[(513,"t"),(512,"T"),(1,"x")]]
noncomputable def Tl:PV:=.aw (gA.map kU)
noncomputable def iU (x:Str):Option PV:=if x="_filemode_table" then some Tl else none
noncomputable def Ga (h:World)(a:Addr):ClassData:=match(ob h a).data with | .cls k=>k |_=>{name:="",bases:=[],mro:=[],ns:=0,qualname:=""}
noncomputable def NK (h:World)(a:Addr)(i:Nat):Option Value:=(ob h a).slots.getD i none
set_option tactic.hygienic true in
theorem K3 (I:EW w h)(k:(K1 w).lookup a=some (ob w a))(o:(ob w a).data=.dict (aO w a) (oQ w a))(s:(aO w a).toList.all (λ e=>match e.key with | .str _ _=>true |_=>false)=true):h.Ns a (λ x=>nsFind (aO w a) x):=
 ⟨ob w a,aO w a,oQ w a,I _ _ k,o,(λ e H=>(by
  have:=AE.mp s e (by simpa using H);split at this
  ·rename_i n t q;exact⟨n,t,q⟩
  ·simp at this)),λ x=>rfl⟩
theorem fR {b:ExcName->Option Value}(I:EW w h)(T:Top c a b mg mb h)(s:importsNone c=true){C:A5}(H:C.gv=iU)(N:∀x g,C.fn x=some g->iI (W1 w h) k mg x g)(O:∀r,C.rw r=none:=by exact λ _=>rfl):GW w h C k mg mb where
 row:=λ r Z e=>nomatch (O r).symm.trans e
 g:=T.g
 b:=T.b
 blt:=hF I T
 uq:=⟨(C7 I T _).trans (by kernel_rfl),Lu T (by decide+kernel) (by kernel_rfl)⟩
 uk:=by
  refine C6 λ f Q=>?_;obtain⟨i,⟨o,j,l,V,_⟩,_⟩:=(T.seer s).mods;refine Q ?_;exact⟨o,V⟩
 aa:=λ x d e=>by
  replace e:=(H)▸e
  unfold iU at e;split at e
  ·rename_i q;subst q;cases e;exact⟨.ref 133,(C7 I T _).trans (by kernel_rfl),λ X W=>jS (W:=W1 w h) (K:=K1 w) I W 5 (.ref 133) Tl (by kernel_rfl)⟩
  ·contradiction
 fn:=N
noncomputable def Tv:List Value:=[.ref 45,.type "Exception",.type "BaseException",.type "object"]
theorem XC {b:ExcName->Option Value}(I:EW w h)(T:Top c a b mg mb h):El (W1 w h) mg "error_reply" 58 Tv where
 na:=(C7 I T _).trans (by kernel_rfl)
 cls:=⟨(Ga w 58).name,(Ga w 58).qualname,57,(Ga w 58).bases,(Ga w 58).hasDict,(Ga w 58).slotNames,(Ga w 58).subclasses,(Ga w 58).abstract,(Ga w 58).collection,(ob w 58).dict,NK w 58 0,NK w 58 1,NK w 58 2,NK w 58 3,NK w 58 5,"Exception","Exception.__new__","Exception.__init__",[.type "Exception",.type "BaseException",.type "object"],_,"Exception",
  F.excBase_Exception,I 58 _ (by kernel_rfl),K3 (a:=57) I (by kernel_rfl) (by kernel_rfl) (by kernel_rfl),by kernel_rfl,.own (cd:=Ga w 45) (I 45 {cls:=.type "type",dict:=(ob w 45).dict,data:=.cls (Ga w 45),slots:=(ob w 45).slots} (by kernel_rfl)) (K3 (a:=44) I (by kernel_rfl) (by kernel_rfl) (by kernel_rfl)) (by kernel_rfl) .base,by kernel_rfl,
  .own (cd:=Ga w 45) (I 45 {cls:=.type "type",dict:=(ob w 45).dict,data:=.cls (Ga w 45),slots:=(ob w 45).slots} (by kernel_rfl)) (K3 (a:=44) I (by kernel_rfl) (by kernel_rfl) (by kernel_rfl)) (by kernel_rfl) .base,F.excStr_Exception⟩
theorem cU {b:ExcName->Option Value}(I:EW w h)(T:Top c a b mg mb h):El (W1 w h) mg "error_proto" 70 Tv where
 na:=(C7 I T _).trans (by kernel_rfl)
 cls:=⟨(Ga w 70).name,(Ga w 70).qualname,69,(Ga w 70).bases,(Ga w 70).hasDict,(Ga w 70).slotNames,(Ga w 70).subclasses,(Ga w 70).abstract,(Ga w 70).collection,(ob w 70).dict,NK w 70 0,NK w 70 1,NK w 70 2,NK w 70 3,NK w 70 5,"Exception","Exception.__new__","Exception.__init__",[.type "Exception",.type "BaseException",.type "object"],_,"Exception",
  F.excBase_Exception,I 70 _ (by kernel_rfl),K3 (a:=69) I (by kernel_rfl) (by kernel_rfl) (by kernel_rfl),by kernel_rfl,.own (cd:=Ga w 45) (I 45 {cls:=.type "type",dict:=(ob w 45).dict,data:=.cls (Ga w 45),slots:=(ob w 45).slots} (by kernel_rfl)) (K3 (a:=44) I (by kernel_rfl) (by kernel_rfl) (by kernel_rfl)) (by kernel_rfl) .base,by kernel_rfl,
  .own (cd:=Ga w 45) (I 45 {cls:=.type "type",dict:=(ob w 45).dict,data:=.cls (Ga w 45),slots:=(ob w 45).slots} (by kernel_rfl)) (K3 (a:=44) I (by kernel_rfl) (by kernel_rfl) (by kernel_rfl)) (by kernel_rfl) .base,F.excStr_Exception⟩
noncomputable def Wd:List Stmt:=(JJ (Bi P1 3) 1).b 0
noncomputable def SO (q:Nat->Pos):List Stmt:=TE q Wd
noncomputable def rQ:Nat->Pos:=IS SO (Bi P1 3)
theorem Wc:Bi P1 3=SO rQ:=by kernel_rfl
noncomputable def bA:Scope:=((JJ ((JJ (Bi P1 4) 1).b 0) 0).e 0).sc
noncomputable def bE:Nat->Pos:=IS (λ p=>Np bA p λ _=>0) (Bi P1 4)
theorem aZ:Bi P1 4=Np bA bE (λ _=>0):=by kernel_rfl
noncomputable def IH:Expr:=((((JJ ((JJ (Bi P1 38) 1).b 0) 0).e 0).e 1).e 1).x 0
noncomputable def QD:Expr:=((JJ (Bi P1 38) 4).e 0).x 1
noncomputable def ZV:Expr:=((JJ (Bi P1 38) 3).e 1).x 1
noncomputable def hP:Nat->Pos:=IS (λ p=>Gn "spoiled" IH QD ZV p λ _=>0) (Bi P1 38)
noncomputable def hK:Nat->Nat:=jW (λ k=>Gn "spoiled" IH QD ZV (λ _=>default) k) (Bi P1 38)
theorem Wb (Q V:Str)(W:FuncBody)(Z:Scope)(d:Addr)(e:List (Str×Addr))(h o:Value)(s:Option Addr)(w H:Value)(N:Addr)(f g i:Pos)(O:List Expr)(T:Addr)(x a b c:Value):
 ∃k:Option (Array Value)->Sem (List (Str×Value)),bindArgs ⟨Q,V,{posonlyargs:=[],args:=[⟨"function",none,f⟩,⟨"sequence",none,g⟩,⟨"initial",none,i⟩],vararg:=none,kwonlyargs:=[],kw_defaults:=[],kwarg:=none,defaults:=O},W,Z,d,e,.ref T,.none,h,o,s,w,H,N⟩ ⟨[a,b,c],[]⟩=seqItems? (.ref T) >>=k/\
  k (some #[x])=pure ((["function","sequence","initial"]:List Str).zip [a,b,c]):=⟨_,rfl,rfl⟩
theorem Ua (s:fd.params={posonlyargs:=[],args:=[⟨"function",none,q0⟩,⟨"sequence",none,q1⟩,⟨"initial",none,q2⟩],vararg:=none,kwonlyargs:=[],kw_defaults:=[],kwarg:=none,defaults:=dfl})(w:fd.defaults=.ref Tt)(hk:fd.kwdefaults=.none)
 (H:W.h0.get? Tt=some (Jk #[.ref x] n)) (h:List Value) (o:Shared) (R:A9 W W.h0 o.heap) (N:h.length=3):BindsTo o fd ⟨h,[]⟩ ((["function","sequence","initial"]:List Str).zip h):=by
 obtain⟨a,b,c,rfl⟩:=fB N;cases fd;subst s;subst w;subst hk;obtain⟨k,O,Q⟩:=Wb _ _ _ _ _ _ _ _ _ _ _ _ q0 q1 q2 dfl Tt (.ref x) a b c;exact BindsTo.of_defaults rfl (R.keep H (by simp) (by simp)) rfl O Q
theorem UR {b:ExcName->Option Value}(I:EW w h)(T:Top c a b mg mb h):EH (W1 w h) 30 (Ds w 30) ["function","sequence","initial"] (Bi P1 3):=
 DO I T.nolimit (by kernel_rfl) (by kernel_rfl) (Ua (q0:=IK w 30 0) (q1:=IK w 30 1) (q2:=IK w 30 2) (dfl:=(Ds w 30).params.defaults) (Tt:=23) (x:=22) (n:=0) (by kernel_rfl) (by kernel_rfl) (by kernel_rfl) (I 23 _ (by kernel_rfl)))
theorem jR {b:ExcName->Option Value}(I:EW w h)(T:Top d a b mg mb h):TD (W1 w h) mg mb 30:=
 have c:(ob w 22).cls=.type "object":=BB (show((ob w 22).cls== .type "object")=true by kernel_rfl)
 ⟨Ds w 30,rQ,Wd,(by have:=UR I T;rw(occs:=.all) [Wc] at this;exact this),by kernel_rfl,by kernel_rfl,by kernel_rfl,by kernel_rfl,by kernel_rfl,by kernel_rfl,(C7 I T _).trans (by kernel_rfl),Lu T (by decide+kernel) (by kernel_rfl),22,ob w 22,(C7 I T _).trans (by kernel_rfl),I 22 _ (by kernel_rfl),c▸by decide,c▸by decide,c▸nofun⟩
theorem bG {b:ExcName->Option Value}(I:EW w h)(T:Top c a b mg mb h)(hP:4≠P):h.BuiltinsAt mg P:=by
 refine C6 λ W k=>?_;obtain⟨Z,o,s,H,N,O,Q,V⟩:=T.bmain;refine k ?_;have e:mg "__builtins__"=some (.ref 4):=(C7 I T _).trans (by kernel_rfl);cases Eq.trans (Eq.symm e) s;exact⟨4,o,e,H,by decide,hP,N,O,Q,V⟩
theorem oR {b:ExcName->Option Value}(I:EW w h)(T:Top d a b mg mb h)(N:GW w h C k mg mb):TJ (W1 w h) mg mb C k 21:=
 ⟨λ A s k n f c O G V Q E W=>XT I T N O G (.ref f) λ Z e K g H l i j o m=>W _ Z e H l ⟨K,rfl,i,S7,E5,_,HC,g,f,fG,j,o,m,V.ac H⟩⟩
theorem oU:TL (Ds w 35).scope bA bE where
 S:=⟨by kernel_rfl,by kernel_rfl,by kernel_rfl,by kernel_rfl⟩
 seq:=by kernel_rfl
 u4:=by kernel_rfl
 u3:=by kernel_rfl
 u2:=by kernel_rfl
 u1:=Iz (by kernel_rfl)
 u0:=by kernel_rfl
 u9:=by kernel_rfl
theorem lC (n:Nat):swapsWithSole [.Name "sequences" (bE 23)] (.ListComp (.Name "s" (bE 24)) [⟨.Name "s" (bE 25),.Name "sequences" (bE 26),[.Name "s" (bE 27)],0⟩] bA (bE 28)) (bE 29).line (callEnvC (Ds w 35) n 35)=pure true:=by kernel_rfl
theorem ZT:IP (Ds w 159).scope "spoiled" IH QD where
 st:=by kernel_rfl
 uu:=by kernel_rfl
 wds:=by kernel_rfl
 u7:=by kernel_rfl
 g1:=by kernel_rfl
 g2:=by kernel_rfl
 gs:=by kernel_rfl
 ni:=by kernel_rfl
 nl:=by kernel_rfl
 x3:=.inl rfl
theorem YZ (I:EW w h)(g:A9 (W1 w h) h H):OldK h H:=by
 have code:∀b,b∈[16,178]->isCodeTable h b:=λ b W=>by
  simp only[Ae,AU,or_false] at W;rcases W with rfl |rfl
  ·obtain⟨o,N,O,i,s,j,Z,Q,l,a,c,d,f,_⟩:=(codeHd_of_K (c:=20) (P:=16) I (by kernel_rfl));exact⟨20,o,N,a,c,d,f⟩
  ·obtain⟨o,N,O,i,s,j,Z,Q,l,a,c,d,f,_⟩:=(codeHd_of_K (c:=180) (P:=178) I (by kernel_rfl));exact⟨180,o,N,a,c,d,f⟩
 refine⟨λ b o e=>?_,λ b o e=>Bc g ⟨o,e⟩⟩;rcases g.1 b o e with k |⟨n,_⟩ |⟨W,N,V,rfl,k⟩
 ·exact .inl k
 ·have m:h.get? b=none:=n;exact BZ m e
 ·exact .inr (.inl ⟨code b W,rfl,N,V,rfl,k⟩)
theorem TN (k:Well P h v (.list b)):∃a o,v=.ref a/\h.get? a=some {cls:=.type "list",data:=.seq (List.toArray o)}:=by
 cases k with
 |list e _=>exact⟨_,_,rfl,e⟩
theorem dS {X:(Str->Option Value)->Heap->Prop}{d:DefRec}(D:d.name="law")(core:∀(w:World)(s:Shared)(k g:Str->Option Value)(h:List Str)(N:ExcName->Option Value),EW w s.heap->(∀P∈[16,178],s.heap.get? P=some (tabObj #[]))->Top c h N k g s.heap->
 ∀(J:List Int)(v:Value),Rp (W1 w s.heap) [] s.heap v (.list (J.map .int))->∀(Q:B3)(E:B3),(∀i y,A9 (W1 w s.heap) s.heap i->Q (.bool true) {s with heap:=i,toks:=y})->wpAny (W1 w s.heap).M callerA (call (.ref 181) [v]) Q E s):
 WalkO c l X (kmHook hk.1 hk.2.1 (λ _=>by kernel_rfl) [16,178]).says (OpenLaw.row PySem.Challenge.rw_oy0180_01).toRowW d b λ f v=>call f v:=by
 intro w z O k g G Y L o pm cd M dV kV R j m S n U args A as V W p q r;clear R j m S;have I:=km_in_of Y;have Tb:=km_tabs_of Y;have T:=G.T;have e:k "law"=some (.ref 181):=(C7 I T _).trans (by kernel_rfl);have e':k "law"=some (.ref L):=D▸n;cases Eq.trans (Eq.symm e) e';refine C6 λ gg kk=>?_
 wrow_args V W p q r
 refine kk ?_;rename_i hL _ w1 _ B _ t _;obtain⟨_,_,u,C⟩:=TN w1;cases u
 ·obtain⟨o',x,a0,n',Z⟩:=hL;obtain rfl:=AF C x;cases Z;refine core w O k g _ _ I Tb T _ _ (.list C (by simp) ?_ (RpL.o9 B)) _ _ λ i y H=>?_
  ·have:=B.length;have a1:(63:Nat)<=Bf:=by decide+kernel
   simp;omega
  ·exact⟨.inl ⟨.bool true,.bool true,[],rfl,λ _=>rfl,.bool true,(by kernel_rfl),λ _=>⟨.nil,λ a u=>nomatch u⟩⟩,YZ I H,rfl,.of_eq U⟩
theorem M4 {a:Type}(h:List a):h.filter (λ _=>true)=h:=Dk.mpr λ _ _=>rfl
noncomputable def g1 (f:PV->Option PV)(args:List PV):Option PV:=args.casesOn none λ a r=>r.casesOn (f a) λ _ _=>none
noncomputable def g2 (f:PV->PV->Option PV)(args:List PV):Option PV:=args.casesOn none λ a r=>g1 (f a) r
noncomputable def iT (f:Int->Option PV)(a:PV):Option PV:=PV.casesOn a none (λ _=>none) f (λ _=>none) (λ _=>none) (λ _=>none) (λ _=>none) (λ _=>none)
noncomputable def nI (f:Str->Option PV)(a:PV):Option PV:=PV.casesOn a none (λ _=>none) (λ _=>none) f (λ _=>none) (λ _=>none) (λ _=>none) (λ _=>none)
theorem K9 {f:PV->Option PV}(h:g1 f args=some d):∃a,args=[a]/\f a=some d:=by
 cases args with
 |nil=>contradiction
 |cons a r=>cases r with
  |nil=>exact⟨a,rfl,h⟩
  |cons=>contradiction
theorem fU {f:PV->PV->Option PV}(h:g2 f args=some d):∃a b,args=[a,b]/\f a b=some d:=by
 cases args with
 |nil=>contradiction
 |cons a r=>obtain⟨b,rfl,h⟩:=K9 h;exact⟨a,b,rfl,h⟩
theorem Kd {f:Int->Option PV}(h:iT f a=some d):∃i,a=.int i/\f i=some d:=by
 cases a with
 |int i=>exact⟨i,rfl,h⟩
 |_=>contradiction
theorem SS {f:Str->Option PV}(h:nI f a=some d):∃i,a=.str i/\f i=some d:=by
 cases a with
 |str i=>exact⟨i,rfl,h⟩
 |_=>contradiction
theorem Oi {a b:Type}{f:a->Option b}{g:a->b}:∀{k:List a},(∀x∈k,f x=some (g x))->k.mapM f=some (k.map g):=by
 intro k;induction k with
 |nil=>
  intro _;exact rfl
 |cons x k o=>
  intro h;rw[Ho,h x Ac,o λ y s=>h y (Ad _ s)];rfl
section
variable {C:A5}
theorem Vv.aa (h:O.lookup x=some (.aa d)):Vv C V O (.Name x p) d:=.bh (.aa h)
theorem CE.neg (h:CE C V O e (.int i)):CE C V O (.UnaryOp .USub e p) (.int (-i)):=λ c=>.mk λ Q E s S=>
 wpAny_UnaryOp ((h c).bo S λ v s S _ r=>by obtain⟨t,q⟩:=r.ah;exact q▸neg_int (S.qh (.int _ _)))
theorem Cu.M2 {m n:Type}{l:List m}{g:m->PV}{g2:n->PV}(k:m->List n)(f:m->n->PV)(s:LJ C V O i (l.map g))(H:Dm V d=true)(N:(DM t1).all (λ x=>((BD d O).lookup x).isNone)=true)
 (w:∀a∈l,∃h,EN d t1 (g a) (BD d O)=some h/\LJ C d h j ((k a).map g2)/\(DM q).all (λ x=>(h.lookup x).isNone)=true/\∀b∈k a,∃o,EN d q (g2 b) h=some o/\CE C d o t (f a b))
 (Q:(l.flatMap λ a=>(k a).map (f a)).length<=Bf):Cu C V O (.ListComp t [⟨t1,i,[],0⟩,⟨q,j,[],0⟩] d p) (.list (l.flatMap λ a=>(k a).map (f a))):=by
 have e:(λ a=>((k a).filter λ _=>true).map (f a))=λ a=>(k a).map (f a):=funext λ a=>by rw[M4]
 have:=Cu.T2 (p:=p) (ifs:=[]) k (λ _ _=>true) f s H N (λ a W=>by obtain⟨r,a,b,c,w⟩:=w a W;exact⟨r,a,b,c,λ y Z=>by obtain⟨r,a,b⟩:=w y Z;exact⟨r,a,.nil,λ _=>b⟩⟩) (by rw[e];exact Q);exact(e)▸this
theorem Cu.bp {xs:List PV}(q:PV->Bool)(f:PV->PV)(k:LJ C V O d xs)(o:Dm V a=true)(s:(DM t).all (λ x=>((BD a O).lookup x).isNone)=true)
 (w:∀x∈xs,∃h,EN a t x (BD a O)=some h/\NA C a h b (q x)/\(q x=true->CE C a h c (f x))) (H:xs.length<=Bf):Cu C V O (.ListComp c [⟨t,d,b,0⟩] a p) (.list ((xs.filter q).map f)):=
 .T (g:=λ x=>x) q f ((List.map_id' xs).symm▸k) o s w H
theorem Cu.all {b:List PV}(f:PV->PV)(k:LJ C V O d b)(o:Dm V a=true)(s:(DM t).all (λ x=>((BD a O).lookup x).isNone)=true)
 (w:∀x∈b,∃h,EN a t x (BD a O)=some h/\CE C a h c (f x)) (H:b.length<=Bf):Cu C V O (.ListComp c [⟨t,d,[],0⟩] a p) (.list (b.map f)):=
 .M (g:=λ x=>x) f ((List.map_id' b).symm▸k) o s w H
theorem LJ.bl (h:BU V "range"=true)(k:CE C V O e (.int (n:Nat)))(o:B1 e=true)(s:n<100):LJ C V O (.Call (.Name "range" q) [e] [] p) ((List.range n).map λ(i:Nat)=>PV.int (i:Nat)):=by
 refine .range (ds:=[.int (n:Nat)]) h (.cons k .nil o) ?_;show(if 0<=((n:Nat):Int)/\((n:Nat):Int)<=100000 then some ((List.range ((n:Nat):Int).toNat).map (λ(i:Nat)=>PV.int (0+(i:Int)*1))) else none)=_;refine Eq.trans (if_pos ⟨by omega,by omega⟩) ?_;congr 1;apply By;intro i _;congr 1;omega
theorem QU {Cl a:Addr}{e:List PV}{i g:Pos}{A:Around}{b:Env}{c:List Env}{d:Str}(q:Dt W C k mg mb)(t:Cc k A)(F:FI W V b Z X s.heap O)(G:Gd W s){f:Str}{args:List Expr}(u:BU V f=true)(r:Q9 C V O args e)(v:mg f=some (.ref a))(x:W.h0.get? a=some o)(y:o.data=.func fd)(m:o.cls≠.type "frame")(n:o.cls≠.none)
 (j:∀w h l,A9 W s.heap w->s.toks<=h->RpL W X w l e->Rz W A (call (.ref a) l) {s with heap:=w,toks:=h} c Cl d):Rz W A (eval (.Call (.Name f g) args [] i) b) s c Cl d:=λ Q E z=>by
 refine Bu (BK q F G u (.inl v) ?_);refine B2 (es:=args) r.1 ?_;exact B5 (o:=o) (fd:=fd) (Km args (r.2 ⟨W,A,b,Z,X,_,mg,mb,q,t⟩ s F G _ _ λ l w h H N p=>⟨⟨(G.al.trans H).keep x m n,y⟩,(j w h l H N p).aq H N z⟩))
theorem Wo (h:List PV)(n:Nat):Iw h none (some (n:Int)) none=h.take n:=by
 have e:sliceBounds none (some (n:Int)) none h.length=(0,((min n h.length:Nat):Int),1):=by
  simp only[sliceBounds,Option.getD_none];have k:¬((n:Int)<0):=DL.mpr (Bs n);exact congrArg (λ x=>((0:Int),x,(1:Int))) (Oy n h.length)
 rw[PZ h _ _ _ (js:=(List.range (min n h.length)).map (0+·)) (by
  rw[e];have:=sliceRange_one 0 (min n h.length);exact this),Ob]
 simp
theorem KS (h:List PV)(n:Nat)(k:h.length<=Bf):Cz (.list h) none (some (n:Int)) none=some (.list (h.take n)):=by
 unfold Cz;simp only[Wo];rw[Mh ⟨by simp,ED▸Aa (ER ..) k⟩]
end
section
variable {C:A5}
noncomputable def Ph:List PV->Option PV:=g1 (iT λ m=>some (.int (Builtin.bitAnd m 4095)))
theorem Z7 {b:ExcName->Option Value}(I:EW w h)(T:Top c a b mg mb h)(o:GW w h C k mg mb):Fa (W1 w h) (k+1) 93 Ph:=by
 refine Lx (QI I T) λ args d e=>?_;obtain⟨_,rfl,e⟩:=K9 e;obtain⟨m,rfl,e⟩:=Kd e;cases e;refine⟨rfl,λ A s N H B=>?_⟩
 conv in Bi P1 12=>whnf
 exact Hx (Fn o H B (.bh (.ai (.aa (d:=.int m) (by kernel_rfl)) .int rfl)))
noncomputable def Os:List PV->Option PV:=g1 (iT λ m=>some (.int (Builtin.bitAnd m 61440)))
theorem gJ {b:ExcName->Option Value}(I:EW w h)(T:Top c a b mg mb h)(o:GW w h C k mg mb):Fa (W1 w h) (k+1) 100 Os:=by
 refine Lx (Tj I T) λ args d e=>?_;obtain⟨_,rfl,e⟩:=K9 e;obtain⟨m,rfl,e⟩:=Kd e;cases e;refine⟨rfl,λ A s N H B=>?_⟩
 conv in Bi P1 13=>whnf
 exact Hx (Fn o H B (.bh (.ai (.aa (d:=.int m) (by kernel_rfl)) .int rfl)))
end
theorem Ez (h:x.length+y.length<=Bf):FE .Add (.str x) (.str y)=some (.str (x++y)):=by
 show(if x.length+y.length<=Bf then some (PV.str (x++y)) else none)=_;rw[if_pos h]
theorem kZ (x y:Str):H8 .Eq (.str x) (.str y)=some (decide (x=y)):=rfl
theorem Ww (x y:Str):H8 .NotEq (.str x) (.str y)=some (!decide (x=y)):=rfl
theorem QM (x y:Int):H8 .Eq (.int x) (.int y)=some (decide (x=y)):=rfl
theorem YQ {x z:Str}(k:J2 y=true)(o:J2 z=true)(h:(y==z)=false)(s:x.length+(x.length+1)*z.length<=16777216)(w:J2 (Txt.replace x y z)=true):
 (J2 y&&J2 z&&!(y==z)&&decide (x.length+(x.length+1)*z.length<=16777216)&&J2 (Txt.replace x y z))=true:=by
 simp only[k,o,h,w,decide_eq_true s];rfl
theorem MM (x y:Str):(x++y).length=x.length+y.length:=by
 show(x.cps++y.cps).size=x.cps.size+y.cps.size;simp
noncomputable def Yp (x:Str):Str:=Txt.replace x "\"" "\"\""
noncomputable def iR:Nat->Str
 |0=>"" |1=>" made" |2=>" \"new\"" |3=>"" |4=>" made" |_=>" \"new\""
noncomputable def Eb (x:Str)(n:Nat):Str:=if x=""/\n=1 then "257 made" else((("257 \"":Str)++Yp x)++"\"")++iR n
noncomputable def F5 (x:Str):Bool:=J2 x&&J2 (Yp x)&&decide (x.length<=1000)&&decide ((Yp x).length<=3000)
noncomputable def MV:List PV->Option PV:=g2 λ a b=>nI (λ x=>iT (λ i=>if F5 x=true/\0<=i/\i<6 then some (.str (Eb x i.toNat)) else none) b) a
section
variable {C:A5}
theorem gI {b:ExcName->Option Value}(I:EW w h)(T:Top c a b mg mb h)(N:GW w h C k mg mb):Fa (W1 w h) (k+1) 147 MV:=by
 refine Lx (Ti I T) λ args d e=>?_;obtain⟨_,_,rfl,e⟩:=fU e;obtain⟨x,rfl,e⟩:=SS e;obtain⟨i,rfl,e⟩:=Kd e
 ·obtain⟨⟨Q,g,j⟩,e⟩:=IE e;subst e;unfold F5 at Q;simp only[As,decide_eq_true_eq] at Q;obtain⟨⟨⟨M,l⟩,z1⟩,z2⟩:=Q;obtain⟨n,rfl⟩:∃n:Nat,i=(n:Int):=⟨i.toNat,(BX g).symm⟩;have Z:n<6:=B4.mp j;refine⟨rfl,λ A m R O B=>?_⟩
  conv in Bi P1 36=>whnf
  have o:∀{p r t u v y z:Pos}{D E:Nat},I4 C (Ds w 147).scope ((["name","place"]:List Str).zip ([PV.str x,PV.int n].map CB.aa)) (.BoolOp .And [.Compare (.Name "name" p) [.Eq] [.Constant (.str "") D r] t,.Compare (.Name "place" u) [.Eq] [.Constant (.int 1) E v] y] z) (decide (x="")&&(decide ((n:Int)=1)&&true)):=λ{_ _ _ _ _ _ _ _ _}=>
   .all (.n6 (.an (.aa (d:=.str x) (by kernel_rfl)) (.af (d:=.str "") (by kernel_rfl)) rfl (kZ _ _)) λ _=>.n6 (.an (.aa (d:=.int n) (by kernel_rfl)) .int rfl (QM _ _)) λ _=>.nil)
  by_cases s:x=""/\n=1
  ·have hc:(decide (x="")&&(decide ((n:Int)=1)&&true))=true:=by rw[s.1,s.2];rfl
   rw[hc] at o;refine Hx (DY N O B o ?_);refine Cp (Fn N O B (.bh (.af ?_)));unfold Eb;rw[show(n:Int).toNat=n from rfl,if_pos s];kernel_rfl
  ·have hc:(decide (x="")&&(decide ((n:Int)=1)&&true))=false:=by
    cases q:(decide (x="")&&(decide ((n:Int)=1)&&true)) with
    |false=>rfl
    |true=>
     simp only[As,decide_eq_true_eq,and_true] at q;exact absurd ⟨q.1,Int.ofNat.inj q.2⟩ s
   rw[hc] at o;refine Jl (DY N O B o (by exact DN)) ?_;have V:∀k,k<=15->5+(Yp x).length+k<=Bf:=λ k hk=>by rw[BE 5,BV];exact Aa (AK (AK hk 5) _) (Aa (Bb z2 20) (by decide+kernel))
   have W:("257 \"":Str).length=5:=by decide+kernel
   have H:("\"":Str).length=1:=by decide+kernel
   have f:(("257 \"":Str)++Yp x).length=5+(Yp x).length:=by rw[MM,W]
   have G:((("257 \"":Str)++Yp x)++"\"").length=5+(Yp x).length+1:=by rw[MM,f,H]
   have J:(iR n).length<=6:=by
    have:∀n<6,(iR n).length<=6:=by decide+kernel
    exact this n Z
   refine Hx (Fn N O B (.bh (.ai (.ai (.ai (.af (d:=.str "257 \"") (by kernel_rfl)) (.sg (by decide+kernel) (.aa (d:=.str x) (by kernel_rfl)) (YQ (by decide+kernel) (by decide+kernel) (by decide+kernel) (by
    have S:("\"\"":Str).length=2:=by decide+kernel
    exact Aa (DW z1 (Nat.mul_le_mul_right 2 (DU z1))) (AX rfl)) l)) (Ez (by exact V 0 (AP _)))) (.af (d:=.str "\"") (by kernel_rfl)) (Ez (by rw[show Txt.replace x "\"" "\"\""=Yp x from rfl,f,H];exact V 1 (EQ _)))) (.sub (b:=.list [.str "",.str " made",.str " \"new\""]) (kd:=.int ((n:Int).fmod 3)) (d:=.str (iR n)) (.bh (.list (.cons (.af (d:=.str "") (by kernel_rfl)) (.cons (.af (d:=.str " made") (by kernel_rfl)) (.cons (.af (d:=.str " \"new\"") (by kernel_rfl)) .nil rfl) rfl) rfl) (by decide+kernel))) (.ai (.aa (d:=.int n) (by kernel_rfl)) .int rfl) (λ _ _=>rfl) ?_) ?_)))
   ·exact(show ∀n:Nat,n<6->Dd (.list [.str "",.str " made",.str " \"new\""]) (.int ((n:Int).fmod 3))=some (.str (iR n)) from by
     repeat (refine Mq ?_ (by kernel_rfl))
     exact Jj) n Z
   ·have L:((("257 \"":Str)++Yp x)++"\"").length+(iR n).length<=Bf:=by rw[G,BV];exact V _ (Aa (AK J 1) (AX rfl))
    refine(Ez L).trans ?_;unfold Eb;rw[show(n:Int).toNat=n from rfl,if_neg s]
end
noncomputable def DJ (c:Nat):Str:=⟨#[c]⟩
noncomputable def A4 (l:List Nat):Str:=⟨l.toArray⟩
theorem Ec (a b:List Nat):A4 a++A4 b=A4 (a++b):=by
 show(⟨a.toArray++b.toArray⟩:Str)=⟨(a++b).toArray⟩;simp
theorem BY (a:List Nat):(A4 a).length=a.length:=by show a.toArray.size=_;simp
theorem VG (x:Str)(i:Int):Dd (.str x) (.int i)=if NQ i=true then((seqIndex? i x.length).bind (x.cps[·]?)).map (λ c=>PV.str ⟨#[c]⟩) else none:=rfl
theorem Mu {i:Nat}(h:i=a.length)(k:(a++c::b).length<=Bf):Dd (.str (A4 (a++c::b))) (.int (i:Int))=some (.str (DJ c)):=by
 subst h;have o:(A4 (a++c::b)).length=a.length+(b.length+1):=by rw[BY];simp
 have s:NQ ((a.length:Nat):Int)=true:=by
  exact Tm (AJ (by rw[AA];exact I9 (EQ _)) k)
 have w:seqIndex? ((a.length:Nat):Int) (a.length+(b.length+1))=some a.length:=by
  exact My (I9 (EQ _))
 have H:(A4 (a++c::b)).cps[a.length]? =some c:=by
  show(a++c::b).toArray[a.length]? =_;simp
 refine(show Dd (.str (A4 (a++c::b))) (.int ((a.length:Nat):Int))=_ from VG _ _).trans ?_;rw[if_pos s,o,w];simp only[Option.bind_some,H,Option.map_some];rfl
noncomputable def Da (l:List Nat):List Nat:=l.flatMap λ c=>if c=34 then[34,34] else[c]
noncomputable def FV (x d:Str)(i n:Int):AM:=[("resp",.aa (.str x)),("dirname",.aa (.str d)),("i",.aa (.int i)),("n",.aa (.int n))]
noncomputable def HA (x d:Str)(i n:Int)(c:Str):AM:=[("resp",.aa (.str x)),("dirname",.aa (.str d)),("i",.aa (.int i)),("n",.aa (.int n)),("c",.aa (.str c))]
noncomputable def WW:List Str:=["resp","dirname","i","n"]
section
variable {C:A5}{A:Around}{z:Env}
noncomputable def EX:Expr×List Stmt×List Stmt:=((JJ (Bi P1 10) 5).x 0,(JJ (Bi P1 10) 5).b 0,(JJ (Bi P1 10) 5).b 1)
theorem Vp (x y:Int):H8 .Lt (.int x) (.int y)=some (decide (x<y)):=rfl
theorem oF (x y:Int):H8 .GtE (.int x) (.int y)=some (decide (y<=x)):=rfl
theorem Vi (x y:Int):FE .Add (.int x) (.int y)=some (.int (x+y)):=rfl
theorem Nm (c:Nat):decide (DJ c="\"")=decide (c=34):=by
 have:("\"":Str)=DJ 34:=by kernel_rfl
 rw[this];by_cases q:c=34
 ·subst q;simp
 ·rw[decide_eq_false q];refine decide_eq_false λ e=>q ?_;have:(DJ c).cps=(DJ 34).cps:=by rw[e]
  have:#[c]= #[34]:=this;simpa using this
theorem OK (o:GW w h C k mg mb)(s:Cc k A)(B:Hq w h 86 z N){b:List Nat}(H:(a++c::b).length<=Bf)
 (O:D3 (W1 w h) A (Ds w 86).scope z N (execs r z) (HA (A4 (a++c::b)) d ((a.length:Nat)+1) f (DJ c)) n):
 D3 (W1 w h) A (Ds w 86).scope z N (execs (.Assign [.Name "c" p] (.Subscript (.Name "resp" q) (.Name "i" t) u) v::.Assign [.Name "i" x] (.BinOp (.Name "i" i) .Add (.Constant (.int 1) m j) l) g::r) z) (FV (A4 (a++c::b)) d (a.length:Nat) f) n:=by
 refine Dl (A6 o s B (x:="c") (.sub (.aa (d:=.str (A4 (a++c::b))) (by kernel_rfl)) (.aa (d:=.int (a.length:Nat)) (by kernel_rfl)) (λ _ _=>rfl) (Mu rfl H)) (by kernel_rfl)) ?_;refine Dl (A6 o s B (x:="i") (.ai (.aa (d:=.int (a.length:Nat)) (by kernel_rfl)) .int (Vi _ _)) (by kernel_rfl)) ?_;have e:AN (AN (FV (A4 (a++c::b)) d (a.length:Nat) f) "c" (.aa (.str (DJ c)))) "i" (.aa (.int ((a.length:Nat)+1)))=HA (A4 (a++c::b)) d ((a.length:Nat)+1) f (DJ c):=by kernel_rfl
 rw[e];exact O
theorem RQ (h:List Nat)(x:Nat)(l:List Nat):((h.length:Nat):Int)<((h++x::l).length:Nat):=B4.mpr (by rw[AA];exact I9 (EQ _))
theorem Zu (h:List Nat)(x y:Nat)(l:List Nat):((h.length:Nat):Int)+1<((h++x::y::l).length:Nat):=B4.mpr (by rw[AA];exact Nat.add_lt_add_left (Nat.succ_lt_succ (EQ _)) _)
theorem Zx (O:GW w h C k mg mb)(Q:Cc k A)(B:Hq w h 86 z N)(r:a.head?≠some 34):∀(H o:List Nat)(d:List Nat),(o++(Da H++34::a)).length<=Bf->d.length+H.length<=Bf->
 iB (W1 w h) A C (Ds w 86).scope z N EX.1 EX.2.1 EX.2.2 (H.length+1) (FV (A4 (o++(Da H++34::a))) (A4 d) (o.length:Nat) ((o++(Da H++34::a)).length:Nat)) (.next (FV (A4 (o++(Da H++34::a))) (A4 (d++H)) ((o++(Da H++[34])).length:Nat) ((o++(Da H++34::a)).length:Nat))):=by
 intro H;induction H with
 |nil=>
  intro o d V t;have f:(o++34::a).length<=Bf:=V;refine .brk (ρb:=FV (A4 (o++(Da []++34::a))) (A4 (d++[])) ((o++(Da []++[34])).length:Nat) ((o++(Da []++34::a)).length:Nat)) ?_ ?_
  ·conv in EX.1=>whnf
   refine .an (.aa (d:=.int (o.length:Nat)) (by kernel_rfl)) (.aa (d:=.int ((o++(Da []++34::a)).length:Nat)) (by kernel_rfl)) rfl ((Vp _ _).trans ?_);exact congrArg some (decide_eq_true (RQ o 34 a))
  ·conv in EX.2.1=>whnf
   show D3 _ _ _ _ _ _ (FV (A4 (o++34::a)) (A4 d) (o.length:Nat) ((o++34::a).length:Nat)) _;refine OK O Q B f ?_;have Z:FV (A4 (o++(Da []++34::a))) (A4 (d++[])) ((o++(Da []++[34])).length:Nat) ((o++(Da []++34::a)).length:Nat)=FV (A4 (o++34::a)) (A4 d) ((o.length:Nat)+1) ((o++34::a).length:Nat):=by
    rw[CN];have:(o++(Da []++[34])).length=o.length+1:=by simp[Da]
    rw[this];rfl
   rw[Z];have g:Ci WW (HA (A4 (o++34::a)) (A4 d) ((o.length:Nat)+1) ((o++34::a).length:Nat) (DJ 34))=FV (A4 (o++34::a)) (A4 d) ((o.length:Nat)+1) ((o++34::a).length:Nat):=by kernel_rfl
   rw[<-g];refine IR (D3.o7 ?_ CP);refine DY O Q B (c:=true) (.an (.aa (d:=.str (DJ 34)) (by kernel_rfl)) (.af (d:=.str "\"") (by kernel_rfl)) rfl ((kZ _ _).trans (by rw[Nm];rfl))) ?_;rw[if_pos rfl];refine IR (DY O Q B (c:=true) ?_ (by rw[if_pos rfl];exact Cp J6));cases a with
   |nil=>
    have t1:∀v:Bool,(decide (((o++[34]).length:Nat)<=((o.length:Nat):Int)+1)||v)=true:=λ v=>by
     rw[decide_eq_true (by simp)];rfl
    refine Eq.mp (congrArg _ (t1 false)) (.all (.ng (.an (.aa (d:=.int ((o.length:Nat)+1)) (by kernel_rfl)) (.aa (d:=.int ((o++[34]).length:Nat)) (by kernel_rfl)) rfl (oF _ _)) λ q=>?_));rw[decide_eq_true (by simp)] at q;cases q
   |cons t0 W=>
    have y:t0≠34:=λ q=>r (by rw[q];rfl);have z2:((o++[34])++t0::W).length<=Bf:=by simpa using f
    have D:o++34::t0::W=(o++[34])++t0::W:=by simp
    have p:Dd (.str (A4 (o++34::t0::W))) (.int ((o.length:Nat)+1))=some (.str (DJ t0)):=by
     rw[D];have:=Mu (a:=o++[34]) (b:=W) (c:=t0) (i:=o.length+1) (by simp) z2;exact this
    have t1:(decide (((o++34::t0::W).length:Nat)<=((o.length:Nat):Int)+1)||((!decide (DJ t0="\""))||false))=true:=by
     rw[Nm,decide_eq_false y];simp
    refine Eq.mp (congrArg _ t1) (.all (.ng (.an (.aa (d:=.int ((o.length:Nat)+1)) (by kernel_rfl)) (.aa (d:=.int ((o++34::t0::W).length:Nat)) (by kernel_rfl)) rfl (oF _ _)) λ q=>.ng (.an (.sub (.aa (d:=.str (A4 (o++34::t0::W))) (by kernel_rfl)) (.aa (d:=.int ((o.length:Nat)+1)) (by kernel_rfl)) (λ _ _=>rfl) p) (.af (d:=.str "\"") (by kernel_rfl)) rfl (Ww _ _)) λ _=>.nil))
 |cons c s i=>
  intro o d V t;have kL:(A4 d).length+(DJ c).length<=Bf:=by
   rw[BY];have:(DJ c).length=1:=rfl;rw[this];exact Aa (AK (DU (AP _)) _) t
  have j:A4 d++DJ c=A4 (d++[c]):=Ec d [c];have l:(d++[c]).length+s.length<=Bf:=Aa (AG (by rw[AA,BV,BE (List.length [c])];rfl)) t;by_cases q:c=34
  ·subst q;have b:o++(Da (34::s)++34::a)=o++34::(34::(Da s++34::a)):=by simp[Da]
   have Z:o++34::(34::(Da s++34::a))=(o++[34,34])++(Da s++34::a):=by simp
   have m:o++34::(34::(Da s++34::a))=(o++[34])++34::(Da s++34::a):=by simp
   have g:(o++(Da (34::s)++[34])).length=((o++[34,34])++(Da s++[34])).length:=by simp[Da]
   have n:=i (o++[34,34]) (d++[34]) (by rw[<-Z,<-b];exact V) l;rw[g,b];rw[b] at V;rw[show d++34::s=(d++[34])++s by simp];rw[<-Z] at n;refine .next ?_ ?_ n
   ·conv in EX.1=>whnf
    refine .an (.aa (d:=.int (o.length:Nat)) (by kernel_rfl)) (.aa (d:=.int ((o++34::(34::(Da s++34::a))).length:Nat)) (by kernel_rfl)) rfl ((Vp _ _).trans ?_);exact congrArg some (decide_eq_true (RQ o 34 _))
   ·conv in EX.2.1=>whnf
    refine OK O Q B V ?_;have p:Dd (.str (A4 (o++34::(34::(Da s++34::a))))) (.int ((o.length:Nat)+1))=some (.str (DJ 34)):=by
     have:=Mu (a:=o++[34]) (b:=Da s++34::a) (c:=34) (i:=o.length+1) (by simp) (by rw[<-m];exact V);rw[<-m] at this;exact this
    have x:decide (((o++34::(34::(Da s++34::a))).length:Nat)<=((o.length:Nat):Int)+1)=false:=by
     exact decide_eq_false (Int.not_le.mpr (Zu o 34 34 _))
    have t1:(decide (((o++34::(34::(Da s++34::a))).length:Nat)<=((o.length:Nat):Int)+1)||((!decide (DJ 34="\""))||false))=false:=by
     rw[x,Nm];rfl
    generalize E:o++34::(34::(Da s++34::a))=X at p t1 x;have e:D3 (W1 w h) A (Ds w 86).scope z N (execs ((JJ EX.2.1 2).b 0) z) (HA (A4 X) (A4 d) ((o.length:Nat)+1) (X.length:Nat) (DJ 34)) (.next (HA (A4 X) (A4 d) ((o.length:Nat)+1+1) (X.length:Nat) (DJ 34))):=by
     conv in (JJ EX.2.1 2).b 0=>whnf
     show D3 (W1 w h) A (Ds w 86).scope z N (execs (_::_) z) _ _;refine Dl (DY O Q B (c:=false) ?_ (by rw[if_neg (by simp)];exact DN)) (Cp ?_)
     ·exact Eq.mp (congrArg _ t1) (.all (.ng (.an (.aa (d:=.int ((o.length:Nat)+1)) (by kernel_rfl)) (.aa (d:=.int (X.length:Nat)) (by kernel_rfl)) rfl (oF _ _)) λ q=>.ng (.an (.sub (.aa (d:=.str (A4 X)) (by kernel_rfl)) (.aa (d:=.int ((o.length:Nat)+1)) (by kernel_rfl)) (λ _ _=>rfl) p) (.af (d:=.str "\"") (by kernel_rfl)) rfl (Ww _ _)) λ _=>.nil))
     ·exact A6 O Q B (x:="i") (.ai (.aa (d:=.int ((o.length:Nat)+1)) (by kernel_rfl)) .int (Vi _ _)) (by kernel_rfl)
    refine Dl (DY O Q B (c:=true) (.an (.aa (d:=.str (DJ 34)) (by kernel_rfl)) (.af (d:=.str "\"") (by kernel_rfl)) rfl ((kZ _ _).trans (by rw[Nm];rfl))) (by rw[if_pos rfl];exact e)) (Cp ?_);have u:Ci WW (AN (HA (A4 X) (A4 d) ((o.length:Nat)+1+1) (X.length:Nat) (DJ 34)) "dirname" (.aa (.str (A4 (d++[34])))))=FV (A4 X) (A4 (d++[34])) ((o++[34,34]).length:Nat) (X.length:Nat):=by
     have:(((o++[34,34]).length:Nat):Int)=(o.length:Nat)+1+1:=by rw[AA];rfl
     rw[this];kernel_rfl
    rw[<-u];exact(A6 O Q B (x:="dirname") (.ai (.aa (d:=.str (A4 d)) (by kernel_rfl)) (.aa (d:=.str (DJ 34)) (by kernel_rfl)) ((Ez kL).trans (by rw[j]))) (by kernel_rfl)).post CP
  ·have b:o++(Da (c::s)++34::a)=o++c::(Da s++34::a):=by simp[Da,q]
   have Z:o++c::(Da s++34::a)=(o++[c])++(Da s++34::a):=by simp
   have g:(o++(Da (c::s)++[34])).length=((o++[c])++(Da s++[34])).length:=by simp[Da,q]
   have n:=i (o++[c]) (d++[c]) (by rw[<-Z,<-b];exact V) l;rw[g,b];rw[b] at V;rw[show d++c::s=(d++[c])++s by simp];rw[<-Z] at n;refine .next ?_ ?_ n
   ·conv in EX.1=>whnf
    refine .an (.aa (d:=.int (o.length:Nat)) (by kernel_rfl)) (.aa (d:=.int ((o++c::(Da s++34::a)).length:Nat)) (by kernel_rfl)) rfl ((Vp _ _).trans ?_);exact congrArg some (decide_eq_true (RQ o c _))
   ·conv in EX.2.1=>whnf
    refine OK O Q B V ?_;generalize E:o++c::(Da s++34::a)=X;refine Dl (DY O Q B (c:=false) (.an (.aa (d:=.str (DJ c)) (by kernel_rfl)) (.af (d:=.str "\"") (by kernel_rfl)) rfl ((kZ _ _).trans (by rw[Nm,decide_eq_false q]))) (by rw[if_neg (by simp)];exact DN)) (Cp ?_);have u:Ci WW (AN (HA (A4 X) (A4 d) ((o.length:Nat)+1) (X.length:Nat) (DJ c)) "dirname" (.aa (.str (A4 (d++[c])))))=FV (A4 X) (A4 (d++[c])) ((o++[c]).length:Nat) (X.length:Nat):=by
     have:(((o++[c]).length:Nat):Int)=(o.length:Nat)+1:=by simp
     rw[this];kernel_rfl
    rw[<-u];exact(A6 O Q B (x:="dirname") (.ai (.aa (d:=.str (A4 d)) (by kernel_rfl)) (.aa (d:=.str (DJ c)) (by kernel_rfl)) ((Ez kL).trans (by rw[j]))) (by kernel_rfl)).post CP
end
open PySem.Builtin PySem.Builtin.Str
theorem cL {i j n:Nat}(h:i<=j):min i n<=min j n:=Nat.le_min.mpr ⟨Aa (Eg ..) h,ER ..⟩
theorem VF (h:min j n-min i n=n):n=0\/i=0/\n<=j:=by
 rcases Nat.eq_zero_or_pos n with q |q
 ·exact .inl q
 ·rcases Nat.eq_zero_or_pos i with z |z
  ·subst z;exact .inr ⟨rfl,Aa (AG h.symm) (Eg ..)⟩
  ·exact absurd h (BN (AJ (Nat.sub_lt (AJ q (Aa (AG h.symm) (CY ..))) (Nat.lt_min.mpr ⟨z,q⟩)) (ER ..)))
theorem Ki (i j n:Nat):strSliceIndices (some (i:Int)) (some (j:Int)) 1 n=strSliceIndices (some ((min i n:Nat):Int)) (some ((min j n:Nat):Int)) 1 n:=by
 have m (k:Nat):min (min k n) n=min k n:=Fg (ER ..);simp only[strSliceIndices,Zh,if_false,Oy,m,show((1:Int)>0)=True from eq_true (by decide),if_true]
theorem IT (x:Str):A4 x.cps.toList=x:=by show(⟨x.cps.toList.toArray⟩:Str)=x;simp
theorem KR {i j:Nat}(l:List Nat)(o:i<=j):Txt.slice (A4 l) (some (i:Int)) (some (j:Int))=A4 ((l.drop i).take (j-i)):=by
 have w:(A4 l).length=l.length:=BY l;have H:strSliceIndices (some (i:Int)) (some (j:Int)) 1 (A4 l).length=(List.range (min j l.length-min i l.length)).map (λ k=>min i l.length+k):=by
  simp only[Ki,w,StrLaws.strSliceIndices_plain (cL o) (ER ..)]
 have N:(strSliceIndices (some (i:Int)) (some (j:Int)) 1 (A4 l).length).filterMap ((A4 l).cps[·]?)=(l.drop (min i l.length)).take (min j l.length-min i l.length):=by
  rw[Ki,StrLaws.sliced_plain (A4 l) (cL o) (ER ..),w];rfl
 have O:(l.drop (min i l.length)).take (min j l.length-min i l.length)=(l.drop i).take (j-i):=by
  by_cases h:i<=l.length
  ·rw[Fg h];by_cases s:j<=l.length
   ·rw[Fg s]
   ·have s:=Nat.le_of_not_le s;rw[I8 s,Cj (AG EE),Cj (EE▸Nat.sub_le_sub_right s i)]
  ·have h:=Nat.le_of_not_le h;rw[I8 h,Dp (Ah _),Dp h,List.take_nil,List.take_nil]
 unfold Txt.slice;split
 ·rename_i q
  replace q:=(H)▸q
  simp[w] at q;obtain Q |⟨V,W⟩:=VF q
  ·have:l=[]:=B6.mp Q
   (try clear q;try clear h;try clear s;try clear k;try clear H;try clear w;try clear j;try clear i;try clear o;try clear l)
   subst this;rw[List.drop_nil,List.take_nil]
  ·(try clear q;try clear h;try clear s;try clear k;try clear H;try clear w;try clear j;try clear i;try clear o;try clear l)
   subst V;rw[List.drop_zero,Nat.sub_zero,Cj W]
 ·rw[N,O];rfl
theorem Rx (l:List Nat)(j:Nat):Txt.slice (A4 l) none (some (j:Int))=A4 (l.take j):=by
 have:=KR l (i:=0) (j:=j) (AP _);rw[<-this];have e:∀n:Nat,strSliceIndices none (some (j:Int)) 1 n=strSliceIndices (some ((0:Nat):Int)) (some (j:Int)) 1 n:=λ n=>by
  have h:max (0:Int) (min ((0:Nat):Int) (n:Int))=0:=(Oy 0 n).trans (congrArg _ (Nat.zero_min n));rfl
 unfold Txt.slice;rw[e]
theorem VY {i j:Nat}(l:List Nat)(h:i<=j):Cz (.str (A4 l)) (some (i:Int)) (some (j:Int)) none=some (.str (A4 ((l.drop i).take (j-i)))):=by
 show(if(none:Option Int)=none then some (PV.str (Txt.slice (A4 l) (some (i:Int)) (some (j:Int)))) else none)=_;rw[if_pos rfl,KR l h]
theorem L8 (l:List Nat)(j:Nat):Cz (.str (A4 l)) none (some (j:Int)) none=some (.str (A4 (l.take j))):=by
 show(if(none:Option Int)=none then some (PV.str (Txt.slice (A4 l) none (some (j:Int)))) else none)=_;rw[if_pos rfl,Rx]
theorem Mc:A4 a=A4 b↔a=b:=by
 constructor
 ·intro e;have:(A4 a).cps=(A4 b).cps:=by rw[e]
  have:=congrArg Array.toList this;simpa[A4] using this
 ·rintro rfl;rfl
theorem XD (t:List Nat):t.length<=(Da t).length:=by
 induction t with
 |nil=>exact Ah _
 |cons c r h=>
  have:Da (c::r)=(if c=34 then[34,34] else[c])++Da r:=rfl;rw[this];split<;>simp<;>omega
variable {r:List Stmt}{c:Nat} in
noncomputable def jC:List Nat->Option (List Nat)
 |[]=>none
 |[c]=>if c=34 then some [] else none
 |c::e::r=>if c=34 then(if e=34 then(jC r).map (34::·) else some []) else(jC (e::r)).map (c::·)
theorem Vz (l t:List Nat)(k:jC l=some t):∃h,l=Da t++34::h/\h.head?≠some 34:=by
 have H:∀n(l t:List Nat),l.length<=n->jC l=some t->∃h,l=Da t++34::h/\h.head?≠some 34:=by
  intro n;induction n with
  |zero=>intro l t s k;rw[B6.mp (Ic.mp s)] at k;cases k
  |succ n W=>
   intro l t s k;cases l with
   |nil=>cases k
   |cons c l=>
    have o:l.length<=n:=Nat.le_of_succ_le_succ s;clear s;by_cases q:c=34
    ·subst q;cases l with
     |nil=>cases (if_pos rfl).symm.trans k;exact⟨[],rfl,nofun⟩
     |cons e r=>
      have k:=(if_pos rfl).symm.trans k;by_cases N:e=34
      ·subst N;obtain⟨w,O,rfl⟩:=AY.mp ((if_pos rfl).symm.trans k);obtain⟨h,Q,V⟩:=W r w (FO o) O;exact⟨h,congrArg (λ x=>34::34::x) Q,V⟩
      ·cases (if_neg N).symm.trans k
       exact⟨e::r,rfl,λ z=>N (Au z)⟩
    ·cases l with
     |nil=>exact absurd ((if_neg q).symm.trans k) nofun
     |cons e r=>
      obtain⟨w,O,rfl⟩:=AY.mp ((if_neg q).symm.trans k);obtain⟨h,Q,V⟩:=W (e::r) w o O;exact⟨h,(congrArg (c::·) Q).trans (congrArg (λ x=>(x++Da w)++34::h) (if_neg q:(if c=34 then[34,34] else[c])=[c]).symm),V⟩
 exact H l.length l t (Ah _) k
noncomputable def NW (l:List Nat):Option (List Nat):=
 if l.take 3=[50,53,55] then(if(l.drop 3).take 2=[32,34] then jC (l.drop 5) else some []) else none
noncomputable def UP:List PV->Option PV:=g1 (nI λ r=>if r.length<=4000 then(NW r.cps.toList).map (λ t=>.str (A4 t)) else none)
section
variable {C:A5}
theorem VB:("257":Str)=A4 [50,53,55]:=by kernel_rfl
theorem cA:(" \"":Str)=A4 [32,34]:=by kernel_rfl
theorem kX {b:ExcName->Option Value}(I:EW w h)(T:Top c a b mg mb h)(o:GW w h C k mg mb):Fa (W1 w h) (k+1) 86 UP:=by
 refine cB (Cl:=58) (Pj I T) λ args d e=>?_;obtain⟨_,rfl,e⟩:=K9 e;obtain⟨r,rfl,e⟩:=SS e
 ·obtain⟨j,e⟩:r.length<=4000/\(NW r.cps.toList).map (λ t=>PV.str (A4 t))=some d:=by
   by_cases q:r.length<=4000
   ·exact⟨q,(if_pos q).symm.trans e⟩
   ·exact absurd ((if_neg q).symm.trans e) nofun
  ·skip
   obtain⟨t,H,rfl⟩:=AY.mp e
   (try clear e;try clear args;try clear T;try clear I)
   obtain⟨l,rfl⟩:∃l,r=A4 l:=⟨_,(IT r).symm⟩;rw[BY] at j;have H:NW l=some t:=by simpa[A4] using H
   refine⟨rfl,λ A m p s B=>?_⟩
   conv in Bi P1 10=>whnf
   unfold NW at H;split at H
   ·rename_i f;have u:=Gb;have g:Cz (.str (A4 l)) (some 3) (some 5) none=some (.str (A4 ((l.drop 3).take 2))):=VY l (i:=3) (j:=5) (by omega);refine Io o s B (.an (.slice (b:=.str (A4 l)) (.aa (by kernel_rfl)) .no (.int .int) .no (L8 l 3)) (.af (d:=.str "257") (by kernel_rfl)) rfl ((Ww _ _).trans ?_)) ?_
    ·rw[f,VB];rfl
    ·split at H
     ·rename_i Q;have W:l=[50,53,55,32,34]++l.drop 5:=by
       have V:l=l.take 3++((l.drop 3).take 2++(l.drop 3).drop 2):=by rw[JY,JY]
       simp only[f,Q,List.drop_drop] at V;exact V
      obtain⟨N,V,n⟩:=Vz _ _ H;rw[V] at W;have v:=XD t;have O:([50,53,55,32,34]++(Da t++34::N)).length<=Bf:=by rw[<-W];omega
      have Z:([]:List Nat).length+t.length<=Bf:=by simp at O ⊢;omega
      refine Io o s B (.an (.slice (b:=.str (A4 l)) (.aa (by kernel_rfl)) (.int .int) (.int .int) .no g) (.af (d:=.str " \"") (by kernel_rfl)) rfl ((Ww _ _).trans ?_)) ?_
      ·rw[Q,cA];rfl
      ·refine Hb (A6 o s B (x:="dirname") (.af (d:=.str "") (by kernel_rfl)) (by kernel_rfl)) ?_;refine Hb (A6 o s B (x:="i") .int (by kernel_rfl)) ?_;refine Hb (A6 o s B (x:="n") (d:=.int l.length) (.blt (b:=.len) (by kernel_rfl) (by kernel_rfl) (.cons (.aa (d:=.str (A4 l)) (by kernel_rfl)) .nil rfl) ?_) (by kernel_rfl)) ?_
       ·show some (PV.int ((A4 l).length:Nat))=_;rw[BY]
       ·have i:=Zx o s B n t [50,53,55,32,34] [] O Z;rw[<-W] at i;have x:AN (AN (AN ((["resp"]:List Str).zip ([PV.str (A4 l)].map CB.aa)) "dirname" (.aa (.str ""))) "i" (.aa (.int 5))) "n" (.aa (.int l.length))=FV (A4 l) (A4 []) (([50,53,55,32,34]:List Nat).length:Nat) (l.length:Nat):=by rfl
        refine Hb ((VQ o s B i).pre (by exact λ _ _ q=>q)) ?_;exact Rj (Fn o s B (.aa (by kernel_rfl)))
     ·rename_i Q;cases H;refine Rj (DY o s B (c:=true) (.an (.slice (b:=.str (A4 l)) (.aa (by kernel_rfl)) (.int .int) (.int .int) .no g) (.af (d:=.str " \"") (by kernel_rfl)) rfl ((Ww _ _).trans ?_)) ?_)
      ·rw[cA,decide_eq_false (λ q=>Q (Mc.mp q))];rfl
      ·skip
       exact Cp (Fn o s B (.bh (.af (by kernel_rfl))))
   ·contradiction
end
open PySem.NumText
noncomputable def dg (i:Int):List Nat:=(Str.ofString (toString i)).cps.toList
theorem eK (i:Int):A4 (dg i)=Str.ofString (toString i):=IT _
theorem gS (m:Nat):dg (m:Int)=(Nat.toDigits 10 m).map Char.toNat:=KIN.signs_num m
theorem gR (m:Nat)(h:0<m):dg (-(m:Int))=45::(Nat.toDigits 10 m).map Char.toNat:=by
 obtain⟨n,rfl⟩:∃n,m=n+1:=⟨m-1,(Nat.sub_add_cancel h).symm⟩;have e:toString (-((n+1:Nat):Int))="-"++Nat.repr (n+1):=rfl;unfold dg;rw[e];rw[signs_ofString];rw[String.toList_append,BR,Nat.toList_repr];rfl
theorem HH (m:Nat):AllDigits ((Nat.toDigits 10 m).map Char.toNat):=λ c hc=>by
 obtain⟨k,h,e⟩:=Al.mp hc;rw[<-e];exact digit_range (Nat.isDigit_of_mem_toDigits (by decide) (by decide) h)
theorem Ox (m:Nat):(Nat.toDigits 10 m).map Char.toNat≠[]:=λ e=>by
 have h:=toDigits_len_ge 10 m;rw[GX.mp e] at h;exact absurd h (by decide)
theorem M8 (m:Nat)(h:m<10^10):((Nat.toDigits 10 m).map Char.toNat).length<=10:=by
 rw[Af];exact toDigits_len_pow (by decide) (by decide) h
theorem M9 (i:Int)(h:i.natAbs<10^10):∃m:Nat,m<10^10/\((i=m/\dg i=(Nat.toDigits 10 m).map Char.toNat)\/(i=-(m:Int)/\0<m/\dg i=45::(Nat.toDigits 10 m).map Char.toNat)):=by
 refine⟨i.natAbs,h,?_⟩;by_cases q:0<=i
 ·have e:i=(i.natAbs:Nat):=(Int.natAbs_of_nonneg q).symm;exact .inl ⟨e,by rw[<-gS,<-e]⟩
 ·have q:=Int.not_le.mp q;have e:i=-((i.natAbs:Nat):Int):=by rw[Int.ofNat_natAbs_of_nonpos (JD q),Int.neg_neg]
  have p:=Int.natAbs_pos.mpr (Int.ne_of_lt q);exact .inr ⟨e,p,by rw[<-gR _ p,<-e]⟩
theorem aN (i:Int)(h:i.natAbs<10^10):∀c∈dg i,c=45\/(48<=c/\c<=57):=λ c hc=>by
 obtain⟨m,k,⟨_,e⟩ |⟨_,_,e⟩⟩:=M9 i h<;>rw[e] at hc
 ·exact .inr (HH m c hc)
 ·rcases Ae.mp hc with q |q
  ·exact .inl q
  ·exact .inr (HH m c q)
theorem Sj (i:Int)(k:i.natAbs<10^10):(dg i).length<=11:=by
 obtain⟨m,h,⟨_,e⟩ |⟨_,_,e⟩⟩:=M9 i k<;>rw[e]
 ·exact Bp (M8 m h)
 ·exact DU (M8 m h)
theorem Po (i:Int)(k:i.natAbs<10^10):PySem.intText? (A4 (dg i))=some i:=by
 have hc:(A4 (dg i)).cps.toList=dg i:=by simp[A4]
 have o:(A4 (dg i)).length<=4300:=by rw[BY];have:=Sj i k;omega
 obtain⟨m,s,⟨h,e⟩ |⟨h,_,e⟩⟩:=M9 i k
 ·have:=intText_digits (x:=A4 (dg i)) (by rw[hc,e];exact HH m) (by rw[hc,e];exact Ox m) o;rw[this,hc,e,KIN.val_back,<-h]
 ·have:=intText_neg (x:=A4 (dg i)) (cs:=(Nat.toDigits 10 m).map Char.toNat) (by rw[hc,e]) (HH m) (Ox m) o;rw[this,KIN.val_back,<-h]
variable {r:List Stmt} in
noncomputable def Fc (c:Nat):Nat->List Nat->List Nat
 |_,[]=>[]
 |k,x::r=>if x=c then k::Fc c (k+1) r else Fc c (k+1) r
theorem J9 (c:Nat):∀(a b:List Nat)(k:Nat),Fc c k (a++b)=Fc c k a++Fc c (k+a.length) b:=by
 intro a;induction a with
 |nil=>
  intro b k;exact rfl
 |cons x r h=>
  intro b k;have o:=h b (k+1);have e:k+(x::r).length=k+1+r.length:=by simp;omega
  rw[e];show(if x=c then k::Fc c (k+1) (r++b) else Fc c (k+1) (r++b))=(if x=c then k::Fc c (k+1) r else Fc c (k+1) r)++_;rw[o];split<;>rfl
theorem OY (c:Nat):∀(a:List Nat)(k:Nat),c∉a->Fc c k a=[]:=by
 intro a;induction a with
 |nil=>
  intro k h;exact rfl
 |cons x r o=>
  intro k h;have q:¬x=c:=λ q=>h (by rw[q];exact Ac);show(if x=c then k::Fc c (k+1) r else Fc c (k+1) r)=[];rw[if_neg q];exact o (k+1) λ q=>h (Ad _ q)
open PySem.StrLaws in
theorem N1 (h:i<l.length):subAt (A4 l) (DJ c) i=decide (l[i]=c):=by
 have e:(A4 l).cps.extract i (i+1)= #[l[i]]:=by
  show l.toArray.extract i (i+1)=_;simp;rw[ES h];rfl
 show((A4 l).cps.extract i (i+1)== #[c])=_;rw[e];by_cases q:l[i]=c
 ·simp[q]
 ·simp[q]
open PySem.StrLaws in
theorem Wq (l:List Nat)(c o:Nat):∀(n k:Nat)(st:Array Nat×Nat),k+n=l.length+1->st.2<=k->
 ((forIn (m:=Id) (List.range' k n) st (occBody (A4 l) (DJ c) l.length o)).run.fst).toList=st.1.toList++(Fc c k (l.drop k)).take (o-st.1.size):=by
 intro n;induction n with
 |zero=>
  intro k st hk w;rw[Dp (show l.length<=k from FO (AG hk.symm))];simp[Fc]
 |succ n s=>
  intro k st hk w;rw[List.range'_succ,DD];unfold occBody;by_cases h:k<l.length
  ·have Q:l.drop k=l[k]::l.drop (k+1):=ES h;rw[Q];have V:Fc c k (l[k]::l.drop (k+1))=if l[k]=c then k::Fc c (k+1) (l.drop (k+1)) else Fc c (k+1) (l.drop (k+1)):=rfl
   rw[V];split
   ·rename_i hc;have O:=hc.2;rw[N1 h] at O;have H:=s (k+1) (st.1.push k,k+1) ((Nat.succ_add_eq_add_succ k n).trans hk) (Ah _);rw[if_pos (of_decide_eq_true O)];have N:st.1.size<o:=hc.1.1.1;have:o-st.1.size=(o-(st.1.push k).size)+1:=by rw[Array.size_push];exact(Nat.sub_one_add_one (Nat.sub_ne_zero_of_lt N)).symm
    rw[this,List.take_succ_cons];refine H.trans ?_;simp
   ·rename_i hc;have H:=s (k+1) (st.1,st.2) ((Nat.succ_add_eq_add_succ k n).trans hk) (Bp w);refine H.trans ?_;by_cases q:l[k]=c
    ·have:¬st.1.size<o:=λ W=>hc ⟨⟨⟨W,w⟩,h⟩,by rw[N1 h,decide_eq_true q]⟩;rw[Nat.sub_eq_zero_of_le (BC.mp this)];simp
    ·rw[if_neg q]
  ·rw[Dp (BC.mp h)];have Z:n=0:=Ic.mp (Nat.le_of_add_le_add_left (a:=k) (Aa (AG (Ia hk)) (BC.mp h)));subst Z;rw[if_neg (λ q=>h (show k+1<=l.length from q.1.2))];simp[Fc]
open PySem.StrLaws in
theorem MA (l:List Nat)(c lo h:Nat)(k:lo<=l.length):occurrences (A4 l) (DJ c) lo l.length h=(Fc c lo (l.drop lo)).take h:=by
 rw[occ_eq,Wq l c h _ lo (#[],lo) (Nat.add_sub_of_le (Bp k)) (Ah _)];simp
theorem Z3 (h:Fc c 0 l=i::r):Txt.find (A4 l) (DJ c)=i:=by
 unfold Txt.find;rw[BY,MA l c 0 1 (AP _),List.drop_zero,h];rfl
theorem XA {c i:Nat}{l:List Nat}{lo:Nat}{r:List Nat}(h:lo<=l.length)(k:Fc c lo (l.drop lo)=i::r):Txt.find3 (A4 l) (DJ c) lo=i:=by
 unfold Txt.find3;have:fromIndex (A4 l).length (lo:Int)=lo:=by unfold fromIndex;rw[if_neg (DL.mpr (Bs _)),Gm (Bs _)];rfl
 rw[this,BY,MA l c lo 1 h,k];rfl
theorem WY (x y:Str)(h:PySem.Builtin.Str.strKind y=1):decide (PySem.Builtin.Str.strKind x<PySem.Builtin.Str.strKind y)=false:=by
 refine decide_eq_false ?_;rw[h];unfold PySem.Builtin.Str.strKind;split
 ·omega
 ·split<;>omega
theorem YD (l:List Nat)(i j:Nat):strSub (A4 l) i j=A4 ((l.drop i).take (j-i)):=by
 show(⟨l.toArray.extract i j⟩:Str)=⟨((l.drop i).take (j-i)).toArray⟩;congr 1;apply Array.toList_inj.mp;simp
noncomputable def GQ:List Nat:=[124,33,120,40]
theorem PK (w:m∈GQ)(H:m∉a):Txt.split (A4 ([m,m,m]++(a++[m]))) (DJ m)=[A4 [],A4 [],A4 [],A4 a,A4 []]:=by
 have hk:PySem.Builtin.Str.strKind (DJ m)=1:=by
  have:∀m∈GQ,PySem.Builtin.Str.strKind (DJ m)=1:=by decide+kernel
  exact this m w
 have o:(A4 ([m,m,m]++(a++[m]))).length=a.length+4:=by rw[BY];simp
 have s:∀h,4<=h->occurrences (A4 ([m,m,m]++(a++[m]))) (DJ m) 0 (A4 ([m,m,m]++(a++[m]))).length h=[0,1,2,3+a.length]:=λ h k=>by
  rw[BY,MA _ m 0 h (AP _),List.drop_zero,J9,J9,OY m a _ H];have:Fc m 0 [m,m,m]=[0,1,2]:=by simp[Fc]
  rw[this];simp only[Fc,if_true,GL,EF,List.length_nil,Gf];rw[Cj (by simpa using k)]
 unfold Txt.split;rw[if_neg (by
  rw[WY _ _ hk,o];have:(DJ m).length=1:=rfl;rw[this];simp),if_neg (by rw[s _ (by rw[o];omega)];simp),s _ (by rw[o];omega),StrLaws.partsBetween_eq]
 have N:(DJ m).length=1:=rfl;simp only[StrLaws.partsFrom,N,o,YD];have O:(List.take (3+a.length-(2+1)) (List.drop (2+1) ([m,m,m]++(a++[m]))))=a:=by
  show List.take (3+a.length-3) (a++[m])=a;rw[show 3+a.length-3=a.length by omega,List.take_left'];rfl
 have Q:List.take (a.length+4-(3+a.length+1)) (List.drop (3+a.length+1) ([m,m,m]++(a++[m])))=[]:=by
  rw[show a.length+4-(3+a.length+1)=0 by omega];rfl
 rw[O,Q];rfl
noncomputable def DE:List Nat:=[50,50,57,32,105,116,32,108,105,101,115,32,97,116,32]
noncomputable def FS:List Nat:=[32,40,124,124,124,55,124,41]
noncomputable def Bh (m:Nat)(h:List Nat):List Nat:=DE++(40::([m,m,m]++(h++(m::41::FS))))
theorem GZ (x y:Int):FE .Sub (.int x) (.int y)=some (.int (x-y)):=rfl
section
variable {C:A5}
theorem Xz (m:Nat)(h:List Nat):Iy .find (.str (A4 (Bh m h))) [.str "("]=some (.int 15):=by
 have e:("(":Str)=DJ 40:=by kernel_rfl
 have k:Fc 40 0 (Bh m h)=15::Fc 40 16 ([m,m,m]++(h++(m::41::FS))):=by
  unfold Bh;rw[J9,OY 40 DE 0 (by decide)];rfl
 show some (PV.int (Txt.find (A4 (Bh m h)) "("))=_;rw[e,Z3 k];rfl
theorem UV (m:Nat)(h:List Nat)(s:m∈GQ)(w:∀c∈h,c=45\/(48<=c/\c<=57)):Iy .find (.str (A4 (Bh m h))) [.str ")",.int 16]=some (.int ((20+h.length:Nat):Int)):=by
 have e:(")":Str)=DJ 41:=by kernel_rfl
 have C:(41:Nat)∉[m,m,m]++(h++[m]):=by
  have k:(41:Nat)≠m:=λ q=>by rw[<-q] at s;exact absurd s (by decide)
  have o:(41:Nat)∉h:=λ q=>(w 41 q).elim (λ q=>absurd q (by decide)) λ q=>absurd q.1 (by decide);simp[k,o]
 have H:(Bh m h).drop 16=[m,m,m]++(h++[m])++41::FS:=by simp[Bh,DE]
 have N:Fc 41 16 ((Bh m h).drop 16)=(20+h.length)::Fc 41 (16+([m,m,m]++(h++[m])).length+1) FS:=by
  rw[H,J9,OY 41 _ 16 C];have:16+([m,m,m]++(h++[m])).length=20+h.length:=by rw[AA,AA,BE h.length];exact(BV 16 3 _).symm.trans (BV 19 1 _).symm
  rw[this];rfl
 show some (PV.int (Txt.find3 (A4 (Bh m h)) ")" ((16:Nat):Int)))=_;rw[e,XA (by simp[Bh,DE]) N]
theorem eJ {g:ExcName->Option Value}(I:EW w h)(T:Top j f g mg mb h)(o:GW w h C k mg mb)(Z:m∈GQ){a:List Nat}(l:∀c∈a,c=45\/(48<=c/\c<=57))(E:a.length<=20)(t:PySem.intText? (A4 a)=some i)(b:PV)(s:Cc k A)(B:Hq w h 79 d N):
 NV (W1 w h) A (Ds w 79).scope d N 58 (Bi P1 9) ((["resp","peer"]:List Str).zip ([PV.str (A4 (Bh m a)),PV.aw [.str "peer",b]].map CB.aa)) (.ret (.aw [.str "peer",.int i])):=by
 conv in Bi P1 9=>whnf
 have G:=Gb;have p:m∉a:=λ q=>by
  have:∀m∈GQ,¬(m=45\/(48<=m/\m<=57)):=by decide
  exact this m Z (l m q)
 have H:(Bh m a).length<=Bf:=by simp[Bh,DE,FS];omega
 have u:Cz (.str (A4 (Bh m a))) none (some 3) none=some (.str (A4 [50,50,57])):=L8 (Bh m a) 3;have O:("229":Str)=A4 [50,50,57]:=by kernel_rfl
 have Q:Bh m a=(DE++[40])++m::([m,m]++(a++(m::41::FS))):=by simp[Bh]
 have V:Dd (.str (A4 (Bh m a))) (.int 16)=some (.str (DJ m)):=by
  have:=Mu (a:=DE++[40]) (b:=[m,m]++(a++(m::41::FS))) (c:=m) (i:=16) rfl (by rw[<-Q];exact H);rw[<-Q] at this;exact this
 have W:Bh m a=(DE++(40::([m,m,m]++a)))++m::(41::FS):=by simp[Bh]
 have r:Dd (.str (A4 (Bh m a))) (.int (((20+a.length:Nat):Int)-1))=some (.str (DJ m)):=by
  have:=Mu (a:=DE++(40::([m,m,m]++a))) (b:=41::FS) (c:=m) (i:=19+a.length) (by simp[DE];omega) (by rw[<-W];exact H);rw[<-W] at this;have v:((20+a.length:Nat):Int)-1=((19+a.length:Nat):Int):=(congrArg (λ n:Nat=>(n:Int)-1) (Nat.succ_add 19 a.length)).trans (Int.add_sub_cancel ((19+a.length:Nat):Int) 1);rw[v];exact this
 have x:Cz (.str (A4 (Bh m a))) (some 16) (some ((20+a.length:Nat):Int)) none=some (.str (A4 ([m,m,m]++(a++[m])))):=by
  have:=VY (Bh m a) (i:=16) (j:=20+a.length) (Aa (by decide) (Bq 20 _));refine this.trans ?_;have e:((Bh m a).drop 16).take (20+a.length-16)=[m,m,m]++(a++[m]):=by
   have:(Bh m a).drop 16=([m,m,m]++(a++[m]))++41::FS:=by simp[Bh,DE]
   rw[this];exact List.take_left' (by simp;omega)
  rw[e]
 have y:Iy .split (.str (A4 ([m,m,m]++(a++[m])))) [.str (DJ m)]=some (.list [.str (A4 []),.str (A4 []),.str (A4 []),.str (A4 a),.str (A4 [])]):=by
  have z:J2 (A4 [])=true:=by decide+kernel
  have D:J2 (A4 a)=true:=by
   unfold J2;rw[As];refine⟨?_,by rw[BY];exact decide_eq_true (by omega)⟩;unfold PyData.strOk;rw[Fw];intro c hc;have:c∈a:=by simpa[A4] using hc
   have:=l c this;simp;omega
  show(if(!((DJ m).length==0)&&(Txt.split (A4 ([m,m,m]++(a++[m]))) (DJ m)).all J2&&decide ((Txt.split (A4 ([m,m,m]++(a++[m]))) (DJ m)).length<=Bf))=true then some (PV.list ((Txt.split (A4 ([m,m,m]++(a++[m]))) (DJ m)).map .str)) else none)=_;rw[PK Z p,if_pos]
  ·rfl
  ·have:(DJ m).length=1:=rfl;rw[this];simp[z,D];decide+kernel
 refine Io o s B (.an (.slice (b:=.str (A4 (Bh m a))) (.aa (by kernel_rfl)) .no (.int .int) .no u) (.af (d:=.str "229") (by kernel_rfl)) rfl ((Ww _ _).trans (by rw[O];simp))) ?_;refine Hb (A6 o s B (x:="left") (d:=.int 15) (.bn (mf:=.find) (by kernel_rfl) (by kernel_rfl) (.aa (d:=.str (A4 (Bh m a))) (by kernel_rfl)) (.cons (.af (d:=.str "(") (by kernel_rfl)) .nil rfl) (by simp) (Xz m a)) (by kernel_rfl)) ?_;refine Io o s B (.an (.aa (d:=.int 15) (by kernel_rfl)) .int rfl ((Vp _ _).trans rfl)) ?_;refine Hb (A6 o s B (x:="right") (d:=.int ((20+a.length:Nat):Int)) (.bn (mf:=.find) (by kernel_rfl) (by kernel_rfl) (.aa (d:=.str (A4 (Bh m a))) (by kernel_rfl)) (.cons (.af (d:=.str ")") (by kernel_rfl)) (.cons (.ai (.aa (d:=.int 15) (by kernel_rfl)) .int (d:=.int 16) rfl) .nil rfl) rfl) (by simp) (UV m a Z l)) (by kernel_rfl)) ?_;refine Io o s B (.an (.aa (d:=.int ((20+a.length:Nat):Int)) (by kernel_rfl)) .int rfl ((Vp _ _).trans (by rw[decide_eq_false (DL.mpr (Bs _))]))) ?_;refine Io o s B (.an (.sub (b:=.str (A4 (Bh m a))) (.aa (by kernel_rfl)) (.ai (.aa (d:=.int 15) (by kernel_rfl)) .int (d:=.int 16) rfl) (λ _ _=>rfl) V) (.sub (b:=.str (A4 (Bh m a))) (.aa (by kernel_rfl)) (.ai (.aa (d:=.int ((20+a.length:Nat):Int)) (by kernel_rfl)) .int (GZ _ _)) (λ _ _=>rfl) r) rfl ((Ww _ _).trans (by simp))) ?_;refine Hb (A6 o s B (x:="parts") (d:=.list [.str (A4 []),.str (A4 []),.str (A4 []),.str (A4 a),.str (A4 [])]) (.bn (mf:=.split) (by kernel_rfl) (by kernel_rfl) (.slice (b:=.str (A4 (Bh m a))) (.aa (by kernel_rfl)) (.int (.ai (.aa (d:=.int 15) (by kernel_rfl)) .int (d:=.int 16) rfl)) (.int (.aa (d:=.int ((20+a.length:Nat):Int)) (by kernel_rfl))) .no x) (.cons (.sub (b:=.str (A4 (Bh m a))) (.aa (by kernel_rfl)) (.ai (.aa (d:=.int 15) (by kernel_rfl)) .int (d:=.int 16) rfl) (λ _ _=>rfl) V) .nil rfl) (by simp) y) (by kernel_rfl)) ?_;refine Io o s B (.an (.blt (b:=.len) (d:=.int 5) (by kernel_rfl) (by kernel_rfl) (.cons (.aa (d:=.list [.str (A4 []),.str (A4 []),.str (A4 []),.str (A4 a),.str (A4 [])]) (by kernel_rfl)) .nil rfl) rfl) .int rfl rfl) ?_;refine Hb (A6 o s B (x:="host") (d:=.str "peer") (.sub (b:=.aw [.str "peer",b]) (.aa (by kernel_rfl)) .int (λ _ _=>rfl) (by kernel_rfl)) (by kernel_rfl)) ?_;refine Hb (A6 o s B (x:="port") (d:=.int i) (.blt (b:=.int) (by kernel_rfl) (by kernel_rfl) (.cons (.sub (b:=.list [.str (A4 []),.str (A4 []),.str (A4 []),.str (A4 a),.str (A4 [])]) (d:=.str (A4 a)) (.aa (by kernel_rfl)) .int (λ _ _=>rfl) (by kernel_rfl)) .nil rfl) ?_) (by kernel_rfl)) ?_
 ·show(if decide ((A4 a).length<=640)=true then(PySem.intText? (A4 a)).map PV.int else none)=_;rw[if_pos (decide_eq_true (by rw[BY];omega)),t];rfl
 ·exact Rj (Fn o s B (.bh (.aw (.cons (.aa (d:=.str "peer") (by kernel_rfl)) (.cons (.aa (d:=.int i) (by kernel_rfl)) .nil rfl) rfl) (by show 2<=Bf;omega))))
end
open Classical in
noncomputable def Te (args:List PV):Option PV:=if h:∃i:Int,i.natAbs<10^10/\∃m∈GQ,args=[.str (A4 (Bh m (dg i))),.aw [.str "peer",.int 21]] then some (.aw [.str "peer",.int h.choose]) else none
theorem Yw (h:Bh m a=Bh n b):a=b:=by
 have e:m=n:=by
  have:=congrArg (λ l:List Nat=>l.getD 16 0) h;simpa[Bh,DE] using this
 subst e;unfold Bh at h;simpa using h
theorem Xl (o:m∈GQ)(k:i.natAbs<10^10):Te [.str (A4 (Bh m (dg i))),.aw [.str "peer",.int 21]]=some (.aw [.str "peer",.int i]):=by
 have h:∃j:Int,j.natAbs<10^10/\∃n∈GQ,[PV.str (A4 (Bh m (dg i))),.aw [.str "peer",.int 21]]=[.str (A4 (Bh n (dg j))),.aw [.str "peer",.int 21]]:=⟨i,k,m,o,rfl⟩;refine(dif_pos h).trans ?_;obtain⟨s,n,_,e⟩:=h.choose_spec;injection e with e;injection e with e;have:=Yw (Mc.mp e);have r:=Po i k;rw[this,Po _ s] at r;rw[Au r]
section
variable {C:A5}
theorem kY {b:ExcName->Option Value}(I:EW w h)(T:Top c a b mg mb h)(H:GW w h C k mg mb):Fa (W1 w h) (k+1) 79 Te:=by
 refine cB (Cl:=58) (M1 I T) λ args d e=>?_;by_cases h:∃i:Int,i.natAbs<10^10/\∃m∈GQ,args=[.str (A4 (Bh m (dg i))),.aw [.str "peer",.int 21]]
 ·have e:=(dif_pos h).symm.trans e;cases e;obtain⟨o,m,N,s⟩:=h.choose_spec;generalize h.choose=j at o s ⊢;subst s;exact⟨rfl,λ A O V Q B=>eJ I T H N (aN _ o) (by have:=Sj _ o;omega) (Po _ o) _ Q B⟩
 ·exact absurd ((dif_neg h).symm.trans e) nofun
noncomputable def PD (k:Bl)(w:Nat)(a:Addr)(args:List PV)(Cl:Addr)(x:Str):Prop:=
 ∀(A:Around)(s:Shared)(X:List Addr)(h:List Value)(l:List Env),Cc w A->A.frames=some l->AQ k s.heap l->Gd k s->(∀b∈X,k.h0.get? b=none/\∃o,s.heap.get? b=some o)->RpL k X s.heap h args->Rz k A (call (.ref a) h) s l Cl x
theorem iZ {b:ExcName->Option Value}(I:EW w h)(T:Top c a b mg mb h)(O:GW w h C k mg mb){l:List Nat}(Q:l.take 3≠[50,53,55]):PD (W1 w h) (k+1) 86 [.str (A4 l)] 58 (A4 l):=λ A s X N Z o H St G V r=>by
 refine VC (x:="error_reply") (Pj I T) rfl (λ A W d o B=>?_) o H St G V r
 conv in Bi P1 10=>whnf
 refine KJ O o B (.an (.slice (b:=.str (A4 l)) (.aa (by kernel_rfl)) .no (.int .int) .no (L8 l 3)) (.af (d:=.str "257") (by kernel_rfl)) rfl ((Ww _ _).trans ?_)) (XC I T) (by kernel_rfl) rfl (.aa (by kernel_rfl));rw[VB,decide_eq_false (λ q=>Q (Mc.mp q))];rfl
theorem oL {b:ExcName->Option Value}(I:EW w h)(T:Top c a b mg mb h)(O:GW w h C k mg mb){l:List Nat}(Q:l.take 3≠[50,50,57]):PD (W1 w h) (k+1) 79 [.str (A4 l),.aw [.str "peer",.int 21]] 58 (A4 l):=λ A s X N Z o H St G V r=>by
 refine VC (x:="error_reply") (M1 I T) rfl (λ A W d o B=>?_) o H St G V r
 conv in Bi P1 9=>whnf
 refine KJ O o B (.an (.slice (b:=.str (A4 l)) (.aa (by kernel_rfl)) .no (.int .int) .no (L8 l 3)) (.af (d:=.str "229") (by kernel_rfl)) rfl ((Ww _ _).trans ?_)) (XC I T) (by kernel_rfl) rfl (.aa (by kernel_rfl));rw[show("229":Str)=A4 [50,50,57] by kernel_rfl,decide_eq_false (λ q=>Q (Mc.mp q))];rfl
end
noncomputable def KO:List Str:=["229 at 272)","229 at (|||7|x","229 at (||7|)","229 at (|||7||)","229 at (|||7|!)"]
noncomputable def qM (x:Str):Prop:=Cz (.str x) none (some 3) none=some (.str "229")/\∃l,Iy .find (.str x) [.str "("]=some (.int l)/\(decide (l<0)=true\/decide (l<0)=false/\∃r,Iy .find (.str x) [.str ")",.int (l+1)]=some (.int r)/\(decide (r<0)=true\/decide (r<0)=false/\
 ∃a b,Dd (.str x) (.int (l+1))=some (.str a)/\Dd (.str x) (.int (r-1))=some (.str b)/\((!decide (a=b))=true\/(!decide (a=b))=false/\∃y h n,Cz (.str x) (some (l+1)) (some r) none=some (.str y)/\Iy .split (.str y) [.str a]=some (.list h)/\QW .len [.list h]=some (.int n)/\(!decide (n=5))=true)))
theorem nJ (h:x∈KO):qM x:=by
 rcases Ae.mp h with rfl |h
 ·exact⟨by kernel_rfl,-1,by kernel_rfl,.inl rfl⟩
 rcases Ae.mp h with rfl |h
 ·exact⟨by kernel_rfl,7,by kernel_rfl,.inr ⟨rfl,-1,by kernel_rfl,.inl rfl⟩⟩
 rcases Ae.mp h with rfl |h
 ·exact⟨by kernel_rfl,7,by kernel_rfl,.inr ⟨rfl,12,by kernel_rfl,.inr ⟨rfl,"|","|",by kernel_rfl,by kernel_rfl,.inr ⟨by decide+kernel,"||7|",[.str "",.str "",.str "7",.str ""],4,by kernel_rfl,by kernel_rfl,by kernel_rfl,rfl⟩⟩⟩⟩
 rcases Ae.mp h with rfl |h
 ·exact⟨by kernel_rfl,7,by kernel_rfl,.inr ⟨rfl,14,by kernel_rfl,.inr ⟨rfl,"|","|",by kernel_rfl,by kernel_rfl,.inr ⟨by decide+kernel,"|||7||",[.str "",.str "",.str "",.str "7",.str "",.str ""],6,by kernel_rfl,by kernel_rfl,by kernel_rfl,rfl⟩⟩⟩⟩
 rcases Ae.mp h with rfl |h
 ·exact⟨by kernel_rfl,7,by kernel_rfl,.inr ⟨rfl,14,by kernel_rfl,.inr ⟨rfl,"|","!",by kernel_rfl,by kernel_rfl,.inl (by decide+kernel)⟩⟩⟩
 cases h
section
variable {C:A5}
theorem jA {d:ExcName->Option Value}(I:EW w h)(T:Top e c d mg mb h)(N:GW w h C k mg mb)(o:qM x):PD (W1 w h) (k+1) 79 [.str x,.aw [.str "peer",.int 21]] 70 x:=λ A s X Z R H V St G i r=>by
 refine VC (x:="error_proto") (M1 I T) rfl (λ A j S H B=>?_) H V St G i r;obtain⟨m,l,t,o⟩:=o
 conv in Bi P1 9=>whnf
 have Q:=cU I T;refine Io N H B (.an (.slice (b:=.str x) (.aa (by kernel_rfl)) .no (.int .int) .no m) (.af (d:=.str "229") (by kernel_rfl)) rfl (by kernel_rfl)) ?_;refine Hb (A6 N H B (x:="left") (.bn (mf:=.find) (by kernel_rfl) (by kernel_rfl) (.aa (d:=.str x) (by kernel_rfl)) (.cons (.af (d:=.str "(") (by kernel_rfl)) .nil rfl) (by simp) t) (by kernel_rfl)) ?_;have L:∀{f:AM}{p:Pos},f.lookup ("left":Str)=some (.aa (.int l))->∀q k u,CE C (Ds w 79).scope f (.BinOp (.Name "left" p) .Add (.Constant (.int 1) k q) u) (.int (l+1)):=λ h _ _ _=>.ai (.aa h) .int rfl;rcases o with o |⟨o,r,v,O⟩
 ·exact KJ N H B (.an (.aa (d:=.int l) (by kernel_rfl)) .int rfl ((Vp _ _).trans (congrArg some o))) Q (by kernel_rfl) rfl (.aa (by kernel_rfl))
 refine Io N H B (.an (.aa (d:=.int l) (by kernel_rfl)) .int rfl ((Vp _ _).trans (congrArg some o))) ?_;refine Hb (A6 N H B (x:="right") (.bn (mf:=.find) (by kernel_rfl) (by kernel_rfl) (.aa (d:=.str x) (by kernel_rfl)) (.cons (.af (d:=.str ")") (by kernel_rfl)) (.cons (L (by kernel_rfl) _ _ _) .nil rfl) rfl) (by simp) v) (by kernel_rfl)) ?_;rcases O with o |⟨o,a,b,W,g,O⟩
 ·exact KJ N H B (.an (.aa (d:=.int r) (by kernel_rfl)) .int rfl ((Vp _ _).trans (congrArg some o))) Q (by kernel_rfl) rfl (.aa (by kernel_rfl))
 refine Io N H B (.an (.aa (d:=.int r) (by kernel_rfl)) .int rfl ((Vp _ _).trans (congrArg some o))) ?_;rcases O with o |⟨o,y,z,n,D,E,J,M⟩
 ·exact KJ N H B (.an (.sub (b:=.str x) (.aa (by kernel_rfl)) (L (by kernel_rfl) _ _ _) (λ _ _=>rfl) W) (.sub (b:=.str x) (.aa (by kernel_rfl)) (.ai (.aa (d:=.int r) (by kernel_rfl)) .int (d:=.int (r-1)) rfl) (λ _ _=>rfl) g) rfl ((Ww _ _).trans (congrArg some o))) Q (by kernel_rfl) rfl (.aa (by kernel_rfl))
 refine Io N H B (.an (.sub (b:=.str x) (.aa (by kernel_rfl)) (L (by kernel_rfl) _ _ _) (λ _ _=>rfl) W) (.sub (b:=.str x) (.aa (by kernel_rfl)) (.ai (.aa (d:=.int r) (by kernel_rfl)) .int (d:=.int (r-1)) rfl) (λ _ _=>rfl) g) rfl ((Ww _ _).trans (congrArg some o))) ?_;refine Hb (A6 N H B (x:="parts") (.bn (mf:=.split) (by kernel_rfl) (by kernel_rfl) (.slice (b:=.str x) (.aa (by kernel_rfl)) (.int (L (by kernel_rfl) _ _ _)) (.int (.aa (by kernel_rfl))) .no D) (.cons (.sub (b:=.str x) (.aa (by kernel_rfl)) (L (by kernel_rfl) _ _ _) (λ _ _=>rfl) W) .nil rfl) (by simp) E) (by kernel_rfl)) ?_;exact KJ N H B (.an (.blt (b:=.len) (by kernel_rfl) (by kernel_rfl) (.cons (.aa (d:=.list z) (by kernel_rfl)) .nil rfl) J) .int rfl (Eq.trans (by rfl) (congrArg some M))) Q (by kernel_rfl) rfl (.aa (by kernel_rfl))
end
theorem nM (h:x.natAbs<4294967296):FE .Mult (.int x) (.int y)=some (.int (x*y)):=by
 show(if x.natAbs<4294967296 then some (PV.int (x*y)) else none)=_;rw[if_pos h]
theorem JR (h:y≠0/\y.natAbs<1073741824):FE .FloorDiv (.int x) (.int y)=some (.int (x.fdiv y)):=by
 show(if y≠0/\y.natAbs<1073741824 then some (PV.int (x.fdiv y)) else none)=_;rw[if_pos h]
theorem K4 (h:y≠0):FE .Mod (.int x) (.int y)=some (.int (x.fmod y)):=by
 show(if y≠0 then some (PV.int (x.fmod y)) else none)=_;rw[if_pos h]
theorem Wk (h:0<=n/\n<=64/\x.natAbs<1048576):FE .Pow (.int x) (.int n)=some (.int (x^n.toNat)):=by
 show(if 0<=n/\n<=64/\x.natAbs<1048576 then some (PV.int (x^n.toNat)) else none)=_;rw[if_pos h]
theorem GE {x y:Int}(h:0<=y):x.fdiv y=x/y:=Int.fdiv_eq_ediv_of_nonneg x h
theorem GD {x y:Int}(h:0<=y):x.fmod y=x%y:=Int.fmod_eq_emod_of_nonneg x h
noncomputable def IC:List Nat:=[63,112,99,63,100,63,98,63,45,63,108,63,115,63,63,63]
noncomputable def jF (h:Nat)(D X:Int):List Nat:=
 [if 4<=D then 114 else 45,if D/2%2=1 then 119 else 45,
  if h=0 then[45,120,84,116].getD (D%2+X*2).toNat 0 else[45,120,83,115].getD (D%2+X*2).toNat 0]
noncomputable def BL (m:Int)(h:Nat):Int:=m/8^h%8
noncomputable def GA (m:Int)(h:Nat):Int:=m/512/2^h%2
noncomputable def J3 (m:Int)(h:Nat):List Nat:=jF h (BL m h) (GA m h)
noncomputable def Fk (m:Int):List Nat:=[IC.getD (m/4096%16).toNat 0]++J3 m 2++J3 m 1++J3 m 0
noncomputable def MW:List PV->Option PV:=g1 (iT λ m=>some (.str (A4 (Fk m))))
noncomputable def S6 (m:Int)(l:List Nat):AM:=[("mode",.aa (.int m)),("signs",.aa (.str (A4 l)))]
noncomputable def Qo (m:Int)(l:List Nat)(h:Nat):AM:=[("mode",.aa (.int m)),("signs",.aa (.str (A4 l))),("k",.aa (.int (h:Nat)))]
noncomputable def WM (m:Int)(l:List Nat)(h:Nat)(D:Int):AM:=[("mode",.aa (.int m)),("signs",.aa (.str (A4 l))),("k",.aa (.int (h:Nat))),("digit",.aa (.int D))]
noncomputable def nU:List Str:=["mode","signs"]
noncomputable def S4:Expr×List Stmt×List Stmt:=((JJ (Bi P1 39) 1).x 0,(JJ (Bi P1 39) 1).b 0,(JJ (Bi P1 39) 1).b 1)
theorem VE (h:n<16):Dd (.str "?pc?d?b?-?l?s???") (.int (n:Nat))=some (.str (A4 [IC.getD n 0])):=by
 exact(show ∀n:Nat,n<16->Dd (.str "?pc?d?b?-?l?s???") (.int (n:Nat))=some (.str (A4 [IC.getD n 0])) from by
  repeat (refine Mq ?_ (by kernel_rfl))
  exact Jj) n h
theorem cF {D:Int}(h:0<=D)(k:D<8):Dd (.str "-r") (.int (D.fdiv 4))=some (.str (A4 [if 4<=D then 114 else 45])):=by
 obtain⟨n,rfl,o⟩:=jG (n:=8) h k;exact(show ∀n:Nat,n<8->Dd (.str "-r") (.int ((n:Int).fdiv 4))=some (.str (A4 [if 4<=(n:Int) then 114 else 45])) from by
  repeat (refine Mq ?_ (by kernel_rfl))
  exact Jj) n o
theorem cE {D:Int}(h:0<=D)(k:D<8):Dd (.str "-w") (.int ((D.fdiv 2).fmod 2))=some (.str (A4 [if D/2%2=1 then 119 else 45])):=by
 obtain⟨n,rfl,o⟩:=jG (n:=8) h k;exact(show ∀n:Nat,n<8->Dd (.str "-w") (.int (((n:Int).fdiv 2).fmod 2))=some (.str (A4 [if(n:Int)/2%2=1 then 119 else 45])) from by
  repeat (refine Mq ?_ (by kernel_rfl))
  exact Jj) n o
theorem cD (t:Str)(l:List Nat)(k:t=A4 l)(o:l.length=4){D X:Int}(H:0<=X)(s:X<2):Dd (.str t) (.int (D%2+X*2))=some (.str (A4 [l.getD (D%2+X*2).toNat 0])):=by
 subst k;obtain⟨n,w,h⟩:=jG (x:=D%2+X*2) (n:=4) (by omega) (by omega);rw[w];exact(show ∀n:Nat,n<4->Dd (.str (A4 l)) (.int (n:Nat))=some (.str (A4 [l.getD n 0])) from kC (P:=λ l=>∀n:Nat,n<4->Dd (.str (A4 l)) (.int (n:Nat))=some (.str (A4 [l.getD n 0]))) (λ a b c d=>by
  repeat (refine Mq ?_ (by rfl))
  exact Jj) l o) n h
section
variable {C:A5}{A:Around}{z:Env}
theorem Hw (g:GW w h C k mg mb)(i:Cc k A)(B:Hq w h 166 z N)(m:Int)(n:j<=2)(hl:l.length<=100):
 D3 (W1 w h) A (Ds w 166).scope z N (execs S4.2.1 z) (Qo m l j) (.next (S6 m (l++J3 m j))):=by
 have o:0<=BL m j:=Ei _ (by decide);have s:BL m j<8:=D7 _ (by decide);have H:0<=GA m j:=Ei _ (by decide);have O:GA m j<2:=D7 _ (by decide);have V:(0:Int)<=8^j:=JD (Int.pow_pos (by omega));have W:(0:Int)<=2^j:=JD (Int.pow_pos (by omega));have v:(8:Int)^j≠0/\((8:Int)^j).natAbs<1073741824:=by
  exact(by decide:∀j<3,(8:Int)^j≠0/\((8:Int)^j).natAbs<1073741824) j (Eo n)
 have y:(2:Int)^j≠0/\((2:Int)^j).natAbs<1073741824:=by
  exact(by decide:∀j<3,(2:Int)^j≠0/\((2:Int)^j).natAbs<1073741824) j (Eo n)
 conv in S4.2.1=>whnf
 have D:(m.fdiv (8^j)).fmod 8=BL m j:=by rw[GE V,GD (by omega)];rfl
 have E:((m.fdiv 512).fdiv (2^j)).fmod 2=GA m j:=by rw[GE W,GE (by omega),GD (by omega)];rfl
 refine Dl (A6 g i B (x:="digit") (d:=.int (BL m j)) (.ai (.ai (.aa (d:=.int m) (by kernel_rfl)) (.ai .int (.aa (d:=.int (j:Nat)) (by kernel_rfl)) (Wk ⟨by omega,by omega,by decide⟩)) (JR v)) .int ((K4 (by decide)).trans (congrArg (λ x=>some (PV.int x)) D))) (by kernel_rfl)) ?_;have G:AN (Qo m l j) "digit" (.aa (.int (BL m j)))=WM m l j (BL m j):=by kernel_rfl
 rw[G];have p:5000<=Bf:=by decide+kernel
 have q:FE .Add (.str (A4 l)) (.str (A4 [if 4<=BL m j then 114 else 45]))=some (.str (A4 (l++[if 4<=BL m j then 114 else 45]))):=by
  rw[Ez (by rw[BY,BY];simp;omega),Ec]
 have r:FE .Add (.str (A4 (l++[if 4<=BL m j then 114 else 45]))) (.str (A4 [if BL m j/2%2=1 then 119 else 45]))=some (.str (A4 ((l++[if 4<=BL m j then 114 else 45])++[if BL m j/2%2=1 then 119 else 45]))):=by
  rw[Ez (by rw[BY,BY];simp;omega),Ec]
 have t:∀c,FE .Add (.str (A4 ((l++[if 4<=BL m j then 114 else 45])++[if BL m j/2%2=1 then 119 else 45]))) (.str (A4 [c]))=some (.str (A4 (((l++[if 4<=BL m j then 114 else 45])++[if BL m j/2%2=1 then 119 else 45])++[c]))):=λ c=>by
  rw[Ez (by rw[BY,BY];simp;omega),Ec]
 have I:(BL m j).fmod 2+GA m j*2=BL m j%2+GA m j*2:=by rw[GD (by omega)]
 have Q:∀{J W L M R S T V U Z a b d e f p16:Pos}{Y k2 k3 k4 k5:Nat},CE C (Ds w 166).scope (WM m l j (BL m j)) (.BinOp (.BinOp (.Name "digit" J) .Mod (.Constant (.int 2) Y W) L) .Add (.BinOp (.BinOp (.BinOp (.BinOp (.Name "mode" M) .FloorDiv (.Constant (.int 512) k2 R) S) .FloorDiv (.BinOp (.Constant (.int 2) k3 T) .Pow (.Name "k" V) U) Z) .Mod (.Constant (.int 2) k4 a) b) .Mult (.Constant (.int 2) k5 d) e) f) (.int (BL m j%2+GA m j*2)):=λ{_ _ _ _ _ _ _ _ _ _ _ _ _ _ _ _ _ _ _ _ _}=>
  .ai (.ai (.aa (d:=.int (BL m j)) (by kernel_rfl)) .int (K4 (by decide))) (.ai (.ai (.ai (.ai (.aa (d:=.int m) (by kernel_rfl)) .int (JR (by decide))) (.ai .int (.aa (d:=.int (j:Nat)) (by kernel_rfl)) (Wk ⟨by omega,by omega,by decide⟩)) (JR y)) .int ((K4 (by decide)).trans (congrArg (λ x=>some (PV.int x)) E))) .int (nM (Ye (D6 (by decide) H) (Int.lt_trans O (by decide))))) ((Vi _ _).trans (congrArg (λ x=>some (PV.int x)) I))
 have e2:Ci nU (AN (WM m l j (BL m j)) "signs" (.aa (.str (A4 (l++J3 m j)))))=S6 m (l++J3 m j):=by kernel_rfl
 rw[<-e2];refine Cp ((A6 g i B (x:="signs") (d:=.str (A4 (l++J3 m j))) ?_ (by kernel_rfl)).post CP);by_cases u:j=0
 ·subst u;refine .ai (.ai (.ai (.aa (d:=.str (A4 l)) (by kernel_rfl)) (.sub (b:=.str "-r") (.bh (.af (by kernel_rfl))) (.ai (.aa (d:=.int (BL m 0)) (by kernel_rfl)) .int (JR (by decide))) (λ _ _=>rfl) (cF o s)) q) (.sub (b:=.str "-w") (.bh (.af (by kernel_rfl))) (.ai (.ai (.aa (d:=.int (BL m 0)) (by kernel_rfl)) .int (JR (by decide))) .int (K4 (by decide))) (λ _ _=>rfl) (cE o s)) r) (.sub (b:=.str "-xTt") (.bh (.p0 (b':=true) (.an (.aa (d:=.int 0) (by kernel_rfl)) .int rfl ((QM _ _).trans rfl)) (.af (by kernel_rfl)))) (Q (p16:=default)) (λ _ _=>rfl) (cD _ [45,120,84,116] (by kernel_rfl) rfl H O)) ((t _).trans ?_);rw[Bg,Bg];rfl
 ·refine .ai (.ai (.ai (.aa (d:=.str (A4 l)) (by kernel_rfl)) (.sub (b:=.str "-r") (.bh (.af (by kernel_rfl))) (.ai (.aa (d:=.int (BL m j)) (by kernel_rfl)) .int (JR (by decide))) (λ _ _=>rfl) (cF o s)) q) (.sub (b:=.str "-w") (.bh (.af (by kernel_rfl))) (.ai (.ai (.aa (d:=.int (BL m j)) (by kernel_rfl)) .int (JR (by decide))) .int (K4 (by decide))) (λ _ _=>rfl) (cE o s)) r) (.sub (b:=.str "-xSs") (.bh (.p0 (b':=false) (.an (.aa (d:=.int (j:Nat)) (by kernel_rfl)) .int rfl ((QM _ _).trans (by rw[decide_eq_false (by omega)]))) (.af (by kernel_rfl)))) (Q (p16:=default)) (λ _ _=>rfl) (cD _ [45,120,83,115] (by kernel_rfl) rfl H O)) ((t _).trans ?_);unfold J3 jF;rw[if_neg u,Bg,Bg];rfl
theorem UY {b:ExcName->Option Value}(I:EW w h)(T:Top c a b mg mb h)(o:GW w h C k mg mb):Fa (W1 w h) (k+1) 166 MW:=by
 refine Lx (M0 I T) λ args d e=>?_;obtain⟨_,rfl,e⟩:=K9 e;obtain⟨m,rfl,e⟩:=Kd e
 ·cases e
  refine⟨rfl,λ A z N s B=>?_⟩
  conv in Bi P1 39=>whnf
  have hk:((m.fdiv 4096).fmod 16)=((m/4096%16).toNat:Nat):=by rw[GE (by omega),GD (by omega)];exact(BX (Ei _ (by decide))).symm
  refine Jl (A6 o s B (x:="signs") (d:=.str (A4 [IC.getD (m/4096%16).toNat 0])) (.sub (b:=.str "?pc?d?b?-?l?s???") (.bh (.af (by kernel_rfl))) (.ai (.ai (.aa (d:=.int m) (by kernel_rfl)) .int (JR (by decide))) .int ((K4 (by decide)).trans (congrArg (λ x=>some (PV.int x)) hk))) (λ _ _=>rfl) (VE (eP _ (by decide)))) (by kernel_rfl)) ?_;have H:AN ((["mode"]:List Str).zip ([PV.int m].map CB.aa)) "signs" (.aa (.str (A4 [IC.getD (m/4096%16).toNat 0])))=S6 m [IC.getD (m/4096%16).toNat 0]:=by kernel_rfl
  rw[H];refine Jl (Hy o s B (fl:=.next (S6 m (Fk m))) (.aw (.aw (.cons .int (.cons .int (.cons .int .nil rfl) rfl) rfl) (by decide+kernel)) rfl) ?_) ?_
  ·refine .next (ρb:=Qo m [IC.getD (m/4096%16).toNat 0] 2) (by kernel_rfl) (Hw o s B m (by omega) (by simp)) ?_;refine .next (ρb:=Qo m ([IC.getD (m/4096%16).toNat 0]++J3 m 2) 1) (by kernel_rfl) (Hw o s B m (by omega) (by simp[J3,jF])) ?_;refine .next (ρb:=Qo m ([IC.getD (m/4096%16).toNat 0]++J3 m 2++J3 m 1) 0) (by kernel_rfl) (Hw o s B m (by omega) (by simp[J3,jF])) ?_;exact .nil DN
  ·exact Hx (Fn o s B (.aa (by kernel_rfl)))
end
section
variable {A:Around}{z:Env}
theorem TR (c:∀x k,ρ'.lookup x=some k->∃e,k=.aa e/\(O.lookup x=some (.aa e)\/O.lookup x=some (.own e)))(f:Q2 W A V z N b ρ' d):Q2 W A V z N b O d:=.mk λ Z X s Q E S g=>by
 refine f.go Z Z s Q E ⟨S.F.re S.F.ba (λ _ h=>h) (λ a h=>S.F.alive a (S.F.zx a h)) (λ _ _=>rfl) (λ x k w=>?_) (λ x y d e w=>?_),S.le,S.tk,λ a h H=>absurd h H,S.fc⟩ g
 ·obtain⟨e,rfl,q |q⟩:=c x k w
  ·exact⟨_,q,λ v _ r=>Rp.ag S.F.zx r⟩
  ·refine⟨_,q,λ v _ r=>?_⟩;obtain⟨a,rfl,h,H,o⟩:=r;exact o.rp H S.F.zx
 ·obtain⟨_,q,_⟩:=c x _ w
  contradiction
end
theorem Ls (a b:Nat):a&&& b=2*(a/2&&& b/2)+(a%2)*(b%2):=by
 have h:(a&&& b)/2=a/2&&& b/2:=Nat.and_div_two;have k:(a&&& b)%2=(a%2)*(b%2):=by
  have:=Nat.and_mod_two_pow (a:=a) (b:=b) (n:=1);refine Eq.trans (this) ?_;rcases Hs a with e |e<;>rcases Hs b with q |q<;>rw[e,q]<;>rfl
 rw[<-h,<-k,Nat.div_add_mod]
theorem Nr (n c:Nat):Builtin.bitAnd (Int.negSucc n) (c:Int)=(c:Int)-((c&&& n:Nat):Int):=by
 have e:(Builtin.bitNot (Int.negSucc n)).toNat=n:=by
  show((((n+1:Nat):Int)-1)).toNat=n;rw[Int.natCast_add,Int.natCast_one,Int.add_sub_cancel];rfl
 rw[<-congrArg (λ z:Nat=>(c:Int)-((c&&& z:Nat):Int)) e];rfl
theorem V7 (C X n r:Int):2*C+r-(2*X+r*n)=2*(C-X)+(1-n)*r:=by grind
theorem Zg (n:Nat):Int.negSucc n%2=1-((n%2:Nat):Int):=by
 show Int.subNatNat 2 (n%2+1)=_;rcases Hs n with e |e<;>rw[e]<;>rfl
theorem Fq (m:Int)(c:Nat):Builtin.bitAnd m (c:Int)=2*Builtin.bitAnd (m/2) ((c/2:Nat):Int)+m%2*((c%2:Nat):Int):=by
 cases m with
 |ofNat n=>
  show(((n&&& c:Nat)):Int)=2*(((n/2&&& c/2:Nat)):Int)+((n%2*(c%2):Nat):Int);rw[Ls n c];rfl
 |negSucc n=>
  rw[Nr,show Int.negSucc n/2=Int.negSucc (n/2) from rfl,Nr,Ls c n,Zg];refine Eq.trans ?_ (V7 _ _ _ _);show(c:Int)-_=((2*(c/2)+c%2:Nat):Int)-_;rw[Nat.div_add_mod];rfl
theorem Ky:∀(k:Nat)(m:Int),Builtin.bitAnd m ((2^k:Nat):Int)=m/((2^k:Nat):Int)%2*((2^k:Nat):Int):=by
 intro k;induction k with
 |zero=>
  intro m;rw[Fq];rw[bitAnd_zero,Int.ediv_one,Int.mul_zero,Int.zero_add]
 |succ k h=>
  intro m;rw[Fq,Il,I7 _ (GU),Nat.mul_mod_right,h,Fh,Bw (by decide:(0:Int)<=2),Int.natCast_zero,Int.mul_zero,JE];exact Ih ..
theorem Py (j:Nat):∀(k:Nat)(m:Int),Builtin.bitAnd m ((2^k*(2*2^j+1):Nat):Int)=m/((2^k*(2*2^j):Nat):Int)%2*((2^k*(2*2^j):Nat):Int)+m/((2^k:Nat):Int)%2*((2^k:Nat):Int):=by
 intro k;induction k with
 |zero=>
  intro m;simp only[Nat.pow_zero,Nat.one_mul];rw[Fq,Nat.mul_add_div GU,Nat.mul_add_mod,Nat.add_zero,Ky j,Fh,Bw (by decide:(0:Int)<=2)];rw[Int.ediv_one];congr 1;exact Ih ..
 |succ k h=>
  intro m;have e:∀x:Nat,2^(k+1)*x=2*(2^k*x):=λ x=>by rw[Il,Nat.mul_assoc]
  rw[e,e,Fq,I7 _ (GU),Nat.mul_mod_right,h,Il,Fh,Fh,Bw (by decide:(0:Int)<=2),Bw (by decide:(0:Int)<=2),Int.natCast_zero,Int.mul_zero,JE,Int.mul_add];congr 1<;>exact Ih ..
theorem Zl (m:Int)(p:Nat):m%((2*p:Nat):Int)=2*(m/2%(p:Int))+m%2:=by
 have e:m/(2*(p:Int))=m/2/(p:Int):=(Bw (by decide)).symm;simp only[Int.emod_def,Int.emod_def,Int.emod_def,Fh,show((2:Nat):Int)=2 from rfl,e,Int.mul_sub,GK];generalize (p:Int)*(m/2/p)=z;omega
theorem QQ (h:0<p):(2*p-1)/2=p-1/\(2*p-1)%2=1:=by
 obtain⟨q,rfl⟩:∃q,p=q+1:=⟨p-1,(Nat.sub_add_cancel h).symm⟩;show(2*q+1)/2=q/\(2*q+1)%2=1;rw[Nat.mul_add_div GU,Nat.mul_add_mod];exact⟨rfl,rfl⟩
theorem QZ:∀(k:Nat)(m:Int),Builtin.bitAnd m ((2^k-1:Nat):Int)=m%((2^k:Nat):Int):=by
 intro k;induction k with
 |zero=>
  intro m;rw[bitAnd_zero,Int.emod_one]
 |succ k h=>
  intro m;have:=Nat.two_pow_pos k;rw[Fq,Il,Zl,(QQ this).1,(QQ this).2,h];rw[Int.mul_one]
theorem Vg (c:Nat):∀(k:Nat)(m:Int),Builtin.bitAnd m ((2^k*c:Nat):Int)=Builtin.bitAnd (m/((2^k:Nat):Int)) (c:Int)*((2^k:Nat):Int):=by
 intro k;induction k with
 |zero=>
  intro m;rw[Nat.pow_zero,Nat.one_mul];rw[Int.ediv_one,Int.mul_one]
 |succ k h=>
  intro m;rw[Il,Nat.mul_assoc,Fq,I7 _ (GU),Nat.mul_mod_right,h,Fh,Bw (by decide:(0:Int)<=2),Int.natCast_zero,Int.mul_zero,JE];exact Ih ..
theorem bT (m:Int):Builtin.bitAnd m 61440=m/4096%16*4096:=(Vg 15 12 m).trans (congrArg (·*(4096:Int)) (QZ 4 (m/4096)))
theorem Yc (m:Int):Builtin.bitAnd m 4095=m%4096:=QZ 12 m
noncomputable def Gx:List (List (Int×Nat)):=[[(40960,108),(49152,115),(32768,45),(24576,98),(16384,100),(8192,99),(4096,112)],[(256,114)],[(128,119)],[(2112,115),(2048,83),(64,120)],[(32,114)],[(16,119)],[(1032,115),(1024,83),(8,120)],[(4,114)],[(2,119)],[(513,116),(512,84),(1,120)]]
noncomputable def lA (p:Int×Nat):PV:=.aw [.int p.1,.str (DJ p.2)]
noncomputable def RC (r:List (Int×Nat)):PV:=.aw (r.map lA)
theorem Xx:Tl=.aw (Gx.map RC):=by kernel_rfl
variable {r:List Stmt}{c:Nat} in
noncomputable def H7 (q:Int->Bool)(d:Nat):List (Int×Nat)->Nat
 |[]=>d
 |(b,c)::r=>if q b then c else H7 q d r
theorem PY (q:Int->Bool)(d:Nat):H7 q d []=d:=rfl
theorem Uf (q:Int->Bool)(d:Nat)(b:Int)(c:Nat)(r:List (Int×Nat)):H7 q d ((b,c)::r)=if q b then c else H7 q d r:=rfl
noncomputable def IF (m:Int)(i:Nat)(b:Int):Bool:=if i=0 then decide (Builtin.bitAnd m 61440=b) else decide (Builtin.bitAnd m b=b)
noncomputable def CJ (m:Int)(i:Nat)(r:List (Int×Nat)):Nat:=H7 (IF m i) (if i=0 then 63 else 45) r
variable {a:List Addr}{r:List Stmt}{i:Nat} in
noncomputable def E8 (m:Int):Nat->List (List (Int×Nat))->List Nat
 |_,[]=>[]
 |i,r::a=>CJ m i r::E8 m (i+1) a
noncomputable def OQ (l:List Nat):List PV:=l.map λ c=>.str (DJ c)
noncomputable def Oj (m:Int)(l:List Nat):AM:=[("mode",.aa (.int m)),("perm",.own (.list (OQ l)))]
noncomputable def Hj (m:Int)(l:List Nat)(i:Nat)(r:List (Int×Nat)):AM:=[("mode",.aa (.int m)),("perm",.own (.list (OQ l))),("index",.aa (.int (i:Nat))),("table",.aa (RC r))]
noncomputable def MN (m:Int)(l:List Nat)(i:Nat)(r:List (Int×Nat))(b:Int)(c:Nat):AM:=[("mode",.aa (.int m)),("perm",.own (.list (OQ l))),("index",.aa (.int (i:Nat))),("table",.aa (RC r)),("bit",.aa (.int b)),("char",.aa (.str (DJ c)))]
noncomputable def nV:List Str:=["mode","perm"]
noncomputable def kI:List Str:=["mode","perm","index","table"]
noncomputable def HG:Expr×List Stmt:=((JJ (Bi P1 34) 1).x 0,(JJ (Bi P1 34) 1).b 0)
noncomputable def UT:Expr×List Stmt×List Stmt:=((JJ HG.2 0).x 0,(JJ HG.2 0).b 0,(JJ HG.2 0).b 1)
theorem OP (l:List Nat)(c:Nat):OQ l++[.str (DJ c)]=OQ (l++[c]):=by simp[OQ]
section
variable {C:A5}{A:Around}{z:Env}
theorem kR (H:GW w h C k mg mb)(O:Cc k A)(B:Hq w h 140 z N)(j:C.fn "S_IFMT"=some Os)(m:Int)(i:Nat)(o:List (Int×Nat))(E:l.length<100):∀r:List (Int×Nat),
 Fi (W1 w h) A (Ds w 140).scope z N UT.1 UT.2.1 UT.2.2 (r.map lA) (Hj m l i o) (.next (Hj m (l++[H7 (IF m i) (if i=0 then 63 else 45) r]) i o)):=by
 intro r;induction r with
 |nil=>
  have Z:(OQ l).length<Bf:=by
   have:5000<=Bf:=by decide+kernel
   simp[OQ];omega
  refine .nil ?_
  conv in UT.2.2=>whnf
  refine Cp (DY H O B (c:=decide (((i:Nat):Int)=0)) (.an (.aa (d:=.int (i:Nat)) (by kernel_rfl)) .int rfl (QM _ _)) ?_);by_cases Q:i=0
  ·rw[decide_eq_true (by omega),if_pos rfl];have e:Hj m (l++[H7 (IF m i) (if i=0 then 63 else 45) []]) i o=AN (Hj m l i o) "perm" (.own (.list (OQ l++[.str (DJ 63)]))):=by
    rw[OP];rw(occs:=.all) [PY];rw[if_pos Q];rfl
   rw[e];exact Cp (JH H O B (by kernel_rfl) (by kernel_rfl) (.af (d:=.str (DJ 63)) (by kernel_rfl)) Z)
  ·rw[decide_eq_false (by omega),if_neg (by simp)];have e:Hj m (l++[H7 (IF m i) (if i=0 then 63 else 45) []]) i o=AN (Hj m l i o) "perm" (.own (.list (OQ l++[.str (DJ 45)]))):=by
    rw[OP];rw(occs:=.all) [PY];rw[if_neg Q];rfl
   rw[e];exact Cp (JH H O B (by kernel_rfl) (by kernel_rfl) (.af (d:=.str (DJ 45)) (by kernel_rfl)) Z)
 |cons n r a=>
  obtain⟨b,c⟩:=n;have Z:(OQ l).length<Bf:=by
   have:5000<=Bf:=by decide+kernel
   simp[OQ];omega
  have p:=a;have W:∀{q t f d u:Pos}{V:Pos},(V.endLine==f.line)=true->D3 (W1 w h) A (Ds w 140).scope z N (execs [.Expr (.Call (.Attribute (.Name "perm" q) "append" V) [.Name "char" t] [] f) d,.Break u] z) (MN m l i o b c) (.brk (Hj m (l++[c]) i o)):=λ{_ _ _ _ _ _} v=>by
   have e:Hj m (l++[c]) i o=Ci kI (AN (MN m l i o b c) "perm" (.own (.list (OQ l++[.str (DJ c)])))):=by rw[OP];kernel_rfl
   rw[e];exact D3.o7 (Dl (JH H O B (by rw[v];rfl) (by kernel_rfl) (.aa (d:=.str (DJ c)) (by kernel_rfl)) Z) (Cp J6)) CP
  have no:D3 (W1 w h) A (Ds w 140).scope z N (execs [] z) (MN m l i o b c) (.next (Hj m l i o)):=by
   have e:Hj m l i o=Ci kI (MN m l i o b c):=by kernel_rfl
   rw[e];exact DN.post CP
  have g:∀{x y D:Pos},CE C (Ds w 140).scope (MN m l i o b c) (.Call (.Name "S_IFMT" x) [.Name "mode" y] [] D) (.int (Builtin.bitAnd m 61440)):=λ{_ _ _}=>.fn (by kernel_rfl) j (.cons (.aa (d:=.int m) (by kernel_rfl)) .nil rfl) rfl;by_cases s:IF m i b=true
  ·have e:H7 (IF m i) (if i=0 then 63 else 45) ((b,c)::r)=c:=by rw(occs:=.all) [Uf];rw[if_pos s]
   rw[e];refine .brk (ρb:=MN m l i o b c) (by kernel_rfl) ?_
   conv in UT.2.1=>whnf
   refine IR (DY H O B (c:=decide (((i:Nat):Int)=0)) (.an (.aa (d:=.int (i:Nat)) (by kernel_rfl)) .int rfl (QM _ _)) ?_);unfold IF at s;by_cases Q:i=0
   ·rw[if_pos Q] at s;rw[decide_eq_true (by omega),if_pos rfl];refine IR (DY H O B (c:=true) (.an g (.aa (d:=.int b) (by kernel_rfl)) rfl ((QM _ _).trans (congrArg some s))) ?_);rw[if_pos rfl];exact W (by kernel_rfl)
   ·rw[if_neg Q] at s;rw[decide_eq_false (by omega),if_neg (by simp)];refine IR (DY H O B (c:=true) (.an (.ai (.aa (d:=.int m) (by kernel_rfl)) (.aa (d:=.int b) (by kernel_rfl)) (d:=.int (Builtin.bitAnd m b)) rfl) (.aa (d:=.int b) (by kernel_rfl)) rfl ((QM _ _).trans (congrArg some s))) ?_);rw[if_pos rfl];exact W (by kernel_rfl)
  ·have e:H7 (IF m i) (if i=0 then 63 else 45) ((b,c)::r)=H7 (IF m i) (if i=0 then 63 else 45) r:=by
    show(if IF m i b=true then c else _)=_;rw[if_neg s]
   rw[e];refine .next (ρb:=MN m l i o b c) (by kernel_rfl) ?_ p
   conv in UT.2.1=>whnf
   refine Cp (DY H O B (c:=decide (((i:Nat):Int)=0)) (.an (.aa (d:=.int (i:Nat)) (by kernel_rfl)) .int rfl (QM _ _)) ?_);have s:IF m i b=false:=by simpa using s
   unfold IF at s;by_cases Q:i=0
   ·rw[if_pos Q] at s;rw[decide_eq_true (by omega),if_pos rfl];refine Cp (DY H O B (c:=false) (.an g (.aa (d:=.int b) (by kernel_rfl)) rfl ((QM _ _).trans (congrArg some s))) ?_);rw[if_neg (by simp)];exact no
   ·rw[if_neg Q] at s;rw[decide_eq_false (by omega),if_neg (by simp)];refine Cp (DY H O B (c:=false) (.an (.ai (.aa (d:=.int m) (by kernel_rfl)) (.aa (d:=.int b) (by kernel_rfl)) (d:=.int (Builtin.bitAnd m b)) rfl) (.aa (d:=.int b) (by kernel_rfl)) rfl ((QM _ _).trans (congrArg some s))) ?_);rw[if_neg (by simp)];exact no
theorem fZ (o:GW w h C k mg mb)(s:Cc k A)(B:Hq w h 140 z N)(H:C.fn "S_IFMT"=some Os)(m:Int)(i:Nat)(r:List (Int×Nat))(O:l.length<100):
 D3 (W1 w h) A (Ds w 140).scope z N (execs HG.2 z) (Hj m l i r) (.next (Oj m (l++[CJ m i r]))):=by
 have e:Oj m (l++[CJ m i r])=Ci nV (Hj m (l++[CJ m i r]) i r):=by kernel_rfl
 rw[e];have:=kR o s B H m i r O r
 conv in HG.2=>whnf
 exact Cp ((Hy o s B (.aw (.aa (d:=RC r) (by kernel_rfl)) rfl) this).post CP)
end
theorem UN (l:List Nat):Txt.join "" (l.map DJ)=A4 l:=by
 have k:∀(l:List Nat)(a:List Nat),(l.map DJ).foldl (λ h p=>h++("":Str).cps++p.cps) a.toArray=(a++l).toArray:=by
  intro l;induction l with
  |nil=>intro a;simp
  |cons c r o=>
   intro a;show(r.map DJ).foldl _ (a.toArray++("":Str).cps++(DJ c).cps)=_;have e:a.toArray++("":Str).cps++(DJ c).cps=(a++[c]).toArray:=by
    have:("":Str).cps= #[]:=by kernel_rfl
    rw[this];show a.toArray++ #[]++ #[c]=_;simp
   rw[e,o];simp
 cases l with
 |nil=>kernel_rfl
 |cons c r=>
  show(⟨(r.map DJ).foldl (λ h p=>h++("":Str).cps++p.cps) (DJ c).cps⟩:Str)=_;have:=k r [c];have e:(DJ c).cps=[c].toArray:=rfl;rw[e,this];rfl
theorem T3:∀l:List Nat,Em (OQ l)=some (l.map DJ):=by
 intro l;induction l with
 |nil=>
  exact rfl
 |cons c r h=>
  have k:=h;unfold Em at k ⊢;show List.mapM VP (PV.str (DJ c)::OQ r)=_;rw[Ho,k];rfl
theorem W5 (x:Str)(h:List PV):Iy .join (.str x) [.list h]=W6 x h:=rfl
theorem RU (l:List Nat)(h:l.length<=100):JoinOk "" (l.map DJ)=true:=by
 have k:∀(l:List Nat)(n:Nat),(l.map DJ).foldl (λ(a:Nat)(x:Str)=>a+x.length+("":Str).length) n=n+l.length:=by
  intro l;induction l with
  |nil=>intro n;rfl
  |cons c r o=>
   intro n;show(r.map DJ).foldl _ (n+(DJ c).length+("":Str).length)=_;rw[o];have:(DJ c).length=1:=rfl;have s:("":Str).length=0:=by kernel_rfl
   rw[this,s];simp;omega
 unfold JoinOk;rw[List.foldl_toArray,k];have:∀n≤100,tooLong n=false:=by decide+kernel
 rw[EP,this _ h];rfl
noncomputable def rN (l:List Nat):Prop:=∀c∈l,c<1114112
theorem Y1 (h:rN l)(k:l.length<=1000):J2 (A4 l)=true:=by
 have o:=Gb;unfold J2;rw[As];refine⟨?_,by rw[BY];exact decide_eq_true (by omega)⟩;unfold PyData.strOk;rw[Fw];intro c hc;have:c∈l:=by simpa[A4] using hc
 simpa using h c this
theorem Wm (q:Int->Bool)(d:Nat):∀r:List (Int×Nat),H7 q d r=d\/∃p:Int×Nat,p∈r/\H7 q d r=p.2:=by
 intro r;induction r with
 |nil=>
  exact .inl rfl
 |cons k r h=>
  obtain⟨b,c⟩:=k;show(if q b=true then c else H7 q d r)=d\/∃p:Int×Nat,p∈_/\(if q b=true then c else H7 q d r)=p.2;split
  ·exact .inr ⟨_,Ac,rfl⟩
  ·rcases h with e |⟨p,o,e⟩
   ·exact .inl e
   ·exact .inr ⟨p,Ad _ o,e⟩
theorem UX (m:Int):∀(k:List (List (Int×Nat)))(i:Nat),(∀r∈k,∀p∈r,p.2<1000)->∀c∈E8 m i k,c<1000:=by
 intro k;induction k with
 |nil=>
  intro i h c hc;exact nomatch hc
 |cons r k o=>
  intro i h c hc;rcases Ae.mp hc with e |e
  ·rw[e];unfold CJ;rcases Wm (IF m i) (if i=0 then 63 else 45) r with q |⟨p,s,q⟩
   ·rw[q];split<;>omega
   ·rw[q];exact h r Ac p s
  ·exact o (i+1) (λ r w=>h r (Ad _ w)) c e
theorem Sd (m:Int):∀(h:List (List (Int×Nat)))(i:Nat),(E8 m i h).length=h.length:=by
 intro h;induction h with
 |nil=>
  intro _;exact rfl
 |cons r h k=>
  intro i;exact congrArg (·+1) (k (i+1))
noncomputable def Tf:List PV->Option PV:=g1 (iT λ m=>some (.str (A4 (E8 m 0 Gx))))
section
variable {C:A5}{A:Around}{z:Env}
theorem kT (Q:GW w h C k mg mb)(V:Cc k A)(B:Hq w h 140 z N)(W:C.fn "S_IFMT"=some Os)(m:Int)(Z:∀l i r,EO (Ds w 140).scope t (.aw [.int (i:Nat),RC r]) (Oj m l)=some (Hj m l i r)):∀(o:List (List (Int×Nat)))(i:Nat)(l:List Nat),l.length+o.length<=100->
 Fi (W1 w h) A (Ds w 140).scope z N t HG.2 [] (M6 i (o.map RC)) (Oj m l) (.next (Oj m (l++E8 m i o))):=by
 intro o;induction o with
 |nil=>
  intro i l s;exact .nil ((CN l).symm▸DN)
 |cons r o H=>
  intro i l s;have O:=H (i+1) (l++[CJ m i r]) (by simp at s ⊢;omega);rw[Bg] at O;exact .next (Z l i r) (fZ Q V B W m i r (by simp at s;omega)) O
theorem gK {b:ExcName->Option Value}(I:EW w h)(T:Top f a b mg mb h)(s:GW w h C k mg mb)(O:C.fn "S_IFMT"=some Os)(Q:C.gv=iU):Fa (W1 w h) (k+1) 140 Tf:=by
 refine Lx (Ly I T) λ args d e=>?_;obtain⟨_,rfl,e⟩:=K9 e;obtain⟨m,rfl,e⟩:=Kd e
 ·cases e
  refine⟨rfl,λ A V j z B=>?_⟩;have W:=Gb;have H:mg "enumerate"=none/\mb "enumerate"=some (.type "enumerate"):=⟨(C7 I T _).trans (by kernel_rfl),Lu T (by decide+kernel) (by kernel_rfl)⟩;have N:=kT s z B O m (t:=HG.1) (λ l i r=>by kernel_rfl) Gx 0 [] (by decide);rw[GL] at N
  conv in Bi P1 34=>whnf
  refine Rk s z B (d':=.list []) (.list .nil (AP _)) (by kernel_rfl) ?_;refine Jl (ρ1:=Oj m (E8 m 0 Gx)) (Xu s z B H (by kernel_rfl) (ds:=Gx.map RC) (.name ?_) (by rw[Af];exact Aa (by decide) W) N) ?_
  ·have:Oe C (Ds w 140).scope (AN ((["mode"]:List Str).zip ([PV.int m].map CB.aa)) "perm" (.own (.list []))) "_filemode_table"=C.gv "_filemode_table":=by kernel_rfl
   rw[this,Q];show some Tl=_;rw[Xx]
  ·refine TR (ρ':=[("perm",.aa (.list (OQ (E8 m 0 Gx))))]) (λ x Z g=>?_) (Hx (Fn s z B (.bh (.bn (b:=.str "") (mf:=.join) (by kernel_rfl) (by kernel_rfl) (.af (by kernel_rfl)) (.cons (.aa (d:=.list (OQ (E8 m 0 Gx))) (by kernel_rfl)) .nil rfl) (by simp) ?_))))
   ·have o:(if(x=="perm")=true then some (CB.aa (.list (OQ (E8 m 0 Gx)))) else none)=some Z:=by
     rw[<-g];show _=List.lookup x [("perm",CB.aa (.list (OQ (E8 m 0 Gx))))];rw[List.lookup_cons];cases (x==("perm":Str))<;>rfl
    split at o
    ·rename_i q;cases o;have:x="perm":=by simpa using q
     subst this;exact⟨_,rfl,.inr (by kernel_rfl)⟩
    ·cases o
   ·have n:(E8 m 0 Gx).length=10:=Sd m Gx 0;rw[W5,W6];rw[T3,Option.bind_some,UN,RU _ (by omega),Y1 (λ c hc=>by have:=UX m Gx 0 (by decide) c hc;omega) (by omega)];rfl
end
theorem oE (m b:Int):IF m 0 b=decide (m/4096%16*4096=b):=by unfold IF;rw[if_pos rfl,bT]
theorem kK (m:Int)(i:Nat)(b:Int)(h:i≠0):IF m i b=decide (Builtin.bitAnd m b=b):=by unfold IF;rw[if_neg h]
theorem ZI (m:Int):CJ m 0 [(40960,108),(49152,115),(32768,45),(24576,98),(16384,100),(8192,99),(4096,112)]=IC.getD (m/4096%16).toNat 0:=by
 obtain⟨n,k,h⟩:=jG (x:=m/4096%16) (n:=16) (Ei _ (by decide)) (D7 _ (by decide));unfold CJ;simp only[H7,oE,k,if_pos];have:∀n:Nat,n<16->(if decide (((n:Nat):Int)*4096=40960)=true then 108 else if decide (((n:Nat):Int)*4096=49152)=true then 115 else if decide (((n:Nat):Int)*4096=32768)=true then 45 else if decide (((n:Nat):Int)*4096=24576)=true then 98 else if decide (((n:Nat):Int)*4096=16384)=true then 100 else if decide (((n:Nat):Int)*4096=8192)=true then 99 else if decide (((n:Nat):Int)*4096=4096)=true then 112 else 63)=IC.getD ((n:Int).toNat) 0:=by decide
 exact this n h
theorem K2 (m:Int)(i:Nat)(h:i≠0)(b:Int)(c:Nat)(p:Prop) [Decidable p] (k:Builtin.bitAnd m b=b↔p):CJ m i [(b,c)]=if p then c else 45:=by
 unfold CJ;simp only[H7,kK m i b h,if_neg h];by_cases q:p
 ·rw[if_pos q,if_pos (decide_eq_true (k.mpr q))]
 ·rw[if_neg q,if_neg (λ z=>q (k.mp (of_decide_eq_true z)))]
theorem Ms (m:Int)(i:Nat)(s:i≠0)(h k o:Int)(w H N:Nat)(D X:Int)(O:D=0\/D=1)(Q:X=0\/X=1)(V:Builtin.bitAnd m h=h↔(D=1/\X=1))(W:Builtin.bitAnd m k=k↔X=1)(Z:Builtin.bitAnd m o=o↔D=1):
 CJ m i [(h,w),(k,H),(o,N)]=[45,N,H,w].getD (D+X*2).toNat 0:=by
 unfold CJ;simp only[H7,kK m i _ s,if_neg s];rcases O with rfl |rfl<;>rcases Q with rfl |rfl<;>simp[V,W,Z]
theorem X7 (a:Int):a%2=0\/a%2=1:=Int.emod_two_eq a
theorem iQ (a b:Int)(h:b≠0):a%2*b=b↔a%2=1:=by
 rcases X7 a with e |e<;>rw[e]
 ·rw[Int.zero_mul];exact⟨λ q=>absurd q.symm h,λ q=>absurd q (by decide)⟩
 ·rw[Int.one_mul];exact⟨λ _=>rfl,λ _=>rfl⟩
theorem lB (a:Int):a/2%2=a%8/2%2/\a/4%2=a%8/4%2:=by
 have e:=Int.emod_add_mul_ediv a 8;generalize a%8=r at e ⊢;generalize a/8=q at e;subst e;have h:r+8*q=r+(4*q)*2:=congrArg (r+·) ((GK 4 2 q).trans (by rw[Int.mul_comm 2 q,GK]))
 have k:r+8*q=r+(2*q)*4:=congrArg (r+·) ((GK 2 4 q).trans (by rw[Int.mul_comm 4 q,GK]))
 constructor
 ·rw[h,Int.add_mul_ediv_right _ _ (by decide),show(4:Int)*q=2*(2*q) from GK 2 2 q,Int.add_mul_emod_self_left]
 ·rw[k,Int.add_mul_ediv_right _ _ (by decide),Int.add_mul_emod_self_left]
theorem mV (a b:Int)(h:b≠0):a/4%2*b=b↔4<=a%8:=(iQ _ b h).trans (by
 rw[(lB a).2];obtain⟨m,e,k⟩:=jG (x:=a%8) (n:=8) (Ei _ (by decide)) (D7 _ (by decide));rw[e];exact(by decide:∀m:Nat,m<8->((m:Int)/4%2=1↔4<=(m:Int))) m k)
theorem mW (a b:Int)(h:b≠0):a/2%2*b=b↔a%8/2%2=1:=(iQ _ b h).trans (by rw[(lB a).1])
theorem cJ (a:Int):a%8%2=a%2:=Int.emod_emod_of_dvd a (by decide)
theorem mX (a b:Int)(h:b≠0):a%2*b=b↔a%8%2=1:=by rw[cJ];exact iQ a b h
theorem mT (x y b c:Int)(h:b≠0)(hc:c≠0)(k:b+c≠0):x%2*b+y%2*c=b+c↔(y%8%2=1/\x%2=1):=by
 rw[cJ];rcases X7 x with e |e<;>rcases X7 y with f |f<;>rw[e,f]<;>simp only[Int.zero_mul,Int.one_mul,Int.zero_add,JE]<;>clear e f<;>first |omega |simp
theorem HO (h:Nat)(m a b c:Int)(k:0<=a)(hc:c=((2^h:Nat):Int))(o:a*b=c):Builtin.bitAnd m c=m/a/b%2*c:=by
 rw[Bw k,o,hc];exact Ky h m
theorem bJ (m:Int):Builtin.bitAnd m 256=256↔4<=BL m 2:=by
 rw[HO 8 m 64 4 256 (by decide) rfl rfl];exact mV (m/64) 256 (by decide)
theorem hH (m:Int):Builtin.bitAnd m 32=32↔4<=BL m 1:=by
 rw[HO 5 m 8 4 32 (by decide) rfl rfl];exact mV (m/8) 32 (by decide)
theorem lK (m:Int):Builtin.bitAnd m 4=4↔4<=BL m 0:=by
 rw[HO 2 m 1 4 4 (by decide) rfl rfl];exact mV (m/1) 4 (by decide)
theorem bK (m:Int):Builtin.bitAnd m 128=128↔BL m 2/2%2=1:=by
 rw[HO 7 m 64 2 128 (by decide) rfl rfl];exact mW (m/64) 128 (by decide)
theorem hM (m:Int):Builtin.bitAnd m 16=16↔BL m 1/2%2=1:=by
 rw[HO 4 m 8 2 16 (by decide) rfl rfl];exact mW (m/8) 16 (by decide)
theorem lL (m:Int):Builtin.bitAnd m 2=2↔BL m 0/2%2=1:=by
 rw[HO 1 m 1 2 2 (by decide) rfl rfl];exact mW (m/1) 2 (by decide)
theorem hG (m:Int):Builtin.bitAnd m 64=64↔BL m 2%2=1:=by
 rw[show Builtin.bitAnd m 64=m/64%2*64 from Ky 6 m];exact mX (m/64) 64 (by decide)
theorem lJ (m:Int):Builtin.bitAnd m 8=8↔BL m 1%2=1:=by
 rw[show Builtin.bitAnd m 8=m/8%2*8 from Ky 3 m];exact mX (m/8) 8 (by decide)
theorem lM (m:Int):Builtin.bitAnd m 1=1↔BL m 0%2=1:=by
 rw[show Builtin.bitAnd m 1=m/1%2*1 from Ky 0 m];exact mX (m/1) 1 (by decide)
theorem X4 (m:Int):Builtin.bitAnd m 2048=2048↔GA m 2=1:=by
 rw[HO 11 m 512 4 2048 (by decide) rfl rfl];exact iQ (m/512/4) 2048 (by decide)
theorem X6 (m:Int):Builtin.bitAnd m 1024=1024↔GA m 1=1:=by
 rw[HO 10 m 512 2 1024 (by decide) rfl rfl];exact iQ (m/512/2) 1024 (by decide)
theorem bI (m:Int):Builtin.bitAnd m 512=512↔GA m 0=1:=by
 rw[HO 9 m 512 1 512 (by decide) rfl rfl];exact iQ (m/512/1) 512 (by decide)
theorem X3 (m:Int):Builtin.bitAnd m 2112=2112↔(BL m 2%2=1/\GA m 2=1):=by
 have e:m/512/4=m/(2^6*(2*2^4):Nat):=Bw (by decide);rw[show Builtin.bitAnd m 2112=m/512/4%2*2048+m/64%2*64 by rw[e];exact Py 4 6 m];exact mT (m/512/4) (m/64) 2048 64 (by decide) (by decide) (by decide)
theorem X5 (m:Int):Builtin.bitAnd m 1032=1032↔(BL m 1%2=1/\GA m 1=1):=by
 have e:m/512/2=m/(2^3*(2*2^6):Nat):=Bw (by decide);rw[show Builtin.bitAnd m 1032=m/512/2%2*1024+m/8%2*8 by rw[e];exact Py 6 3 m];exact mT (m/512/2) (m/8) 1024 8 (by decide) (by decide) (by decide)
theorem bH (m:Int):Builtin.bitAnd m 513=513↔(BL m 0%2=1/\GA m 0=1):=by
 have e:m/512/1=m/(2^0*(2*2^8):Nat):=Bw (by decide);rw[show Builtin.bitAnd m 513=m/512/1%2*512+m/1%2*1 by rw[e];exact Py 8 0 m];exact mT (m/512/1) (m/1) 512 1 (by decide) (by decide) (by decide)
theorem UW (m:Int):E8 m 0 Gx=Fk m:=by
 have h:∀k,BL m k%2=0\/BL m k%2=1:=λ k=>Int.emod_two_eq _;have o:∀k,GA m k=0\/GA m k=1:=λ k=>Int.emod_two_eq _;have e:E8 m 0 Gx=[CJ m 0 [(40960,108),(49152,115),(32768,45),(24576,98),(16384,100),(8192,99),(4096,112)],CJ m 1 [(256,114)],CJ m 2 [(128,119)],CJ m 3 [(2112,115),(2048,83),(64,120)],CJ m 4 [(32,114)],CJ m 5 [(16,119)],CJ m 6 [(1032,115),(1024,83),(8,120)],CJ m 7 [(4,114)],CJ m 8 [(2,119)],CJ m 9 [(513,116),(512,84),(1,120)]]:=rfl;rw[e,ZI,K2 m 1 (by decide) _ _ _ (bJ m),K2 m 2 (by decide) _ _ _ (bK m),Ms m 3 (by decide) _ _ _ _ _ _ _ _ (h 2) (o 2) (X3 m) (X4 m) (hG m),
  K2 m 4 (by decide) _ _ _ (hH m),K2 m 5 (by decide) _ _ _ (hM m),Ms m 6 (by decide) _ _ _ _ _ _ _ _ (h 1) (o 1) (X5 m) (X6 m) (lJ m),
  K2 m 7 (by decide) _ _ _ (lK m),K2 m 8 (by decide) _ _ _ (lL m),Ms m 9 (by decide) _ _ _ _ _ _ _ _ (h 0) (o 0) (bH m) (bI m) (lM m)]
 rfl
theorem T0 (h:List PV)(i:Int):Dd (.list h) (.int i)=if NQ i=true then(seqIndex? i h.length).bind (h[·]?) else none:=rfl
theorem Du (o:a.length<=Bf)(h:a[i]? =some d):Dd (.list a) (.int (i:Nat))=some d:=by
 have k:i<a.length:=(CS.mp h).1;have s:NQ ((i:Nat):Int)=true:=by
  exact Tm (AJ k o)
 have w:seqIndex? ((i:Nat):Int) a.length=some i:=by
  exact My k
 refine(T0 a (i:Nat)).trans ?_;rw[if_pos s,w];exact h
noncomputable def Do:List Str:=["a\"b","","z","\"","\"\""]
noncomputable def cK:List Nat:=[124,33,120,40,124]
noncomputable def AB (l:List Str):PV:=.list (l.map .str)
structure PC (sp:List Nat)(po:List Int)(wi so:List (List Str)):Prop where
 tp:sp.length=6
 sp5:∀s∈sp,s<5
 ur:po.length=6
 u5:∀p∈po,p.natAbs<1000000000
 tu:wi.length=4
 uj:∀l∈wi,l.length<=1/\∀x∈l,F5 x=true
 t4:so.length=4
 ul:∀l∈so,l.length<=9
noncomputable def SH (h:List Nat)(k:List Int)(o s:List (List Str)):List PV:=[AB Do,.list (h.map λ n=>.int (n:Nat)),.list (k.map .int),.list (o.map AB),.list (s.map AB)]
noncomputable def Iq (h:List Nat)(k:List Int)(p:Nat):List PV:=[.str (Eb (Do.getD (h.getD p 0) "") p),.str (A4 (Bh (cK.getD (h.getD p 0) 0) (dg (k.getD p 0))))]
noncomputable def Li (h k:List (List Str))(p:Nat):List PV:=(h.getD p []).map (λ t=>.str (Eb t p))++(k.getD p []).map .str
noncomputable def NZ (h:List Nat)(k:List Int)(o s:List (List Str)):List PV:=(((List.range 6).flatMap (Iq h k))++[.str "226 all told"])++(List.range 4).flatMap (Li o s)
noncomputable def FZ (h:List Nat)(k:List Int)(o s:List (List Str))(w:List PV):AM:=[("names",.aa (AB Do)),("spots",.aa (.list (h.map λ n=>.int (n:Nat)))),("ports",.aa (.list (k.map .int))),("wished",.aa (.list (o.map AB))),("spoiled",.aa (.list (s.map AB))),("talk",.own (.list w))]
noncomputable def kH:List Str:=["names","spots","ports","wished","spoiled","talk"]
noncomputable def SG (i:Nat):List Stmt:=(JJ (Bi P1 37) i).b 0
theorem nN (h:m∈GQ):FE .Mult (.str (DJ m)) (.int 3)=some (.str (A4 [m,m,m])):=by
 unfold GQ at h;simp only[Ae,AU,or_false] at h;rcases h with rfl |rfl |rfl |rfl<;>kernel_rfl
theorem Zq (h:a<5):Dd (.str "|!x(|") (.int (a:Nat))=some (.str (DJ (cK.getD a 0))):=by
 exact(show ∀a:Nat,a<5->Dd (.str "|!x(|") (.int (a:Nat))=some (.str (DJ (cK.getD a 0))) from by
  repeat (refine Mq ?_ (by kernel_rfl))
  exact Jj) a h
theorem SZ (h:a<5):cK.getD a 0∈GQ:=by
 have:∀a<5,cK.getD a 0∈GQ:=by decide
 exact this a h
theorem Zi (h:a<5):F5 (Do.getD a "")=true:=by
 have:∀a<5,F5 (Do.getD a "")=true:=by decide+kernel
 exact this a h
theorem Ej {i:Nat}{a:Type}{l:List a}{d:a}(h:i<l.length):l[i]? =some (l.getD i d):=by
 rw[Ax,AW h];rfl
theorem getD_mem {i:Nat}{a:Type}{l:List a}{d:a}(h:i<l.length):l.getD i d∈l:=by
 rw[Ax,AW h];exact Ge h
section
variable {C:A5}{A:Around}{z:Env}
theorem dN (D:GW w h C k mg mb)(E:Cc k A)(B:Hq w h 152 z N)(Y:C.fn "_law_said"=some MV)(V:PC a b c d)(ht:∀H(p:Nat),EO (Ds w 152).scope t (.int p) (FZ a b c d H)=some (AN (FZ a b c d H) "place" (.aa (.int p)))):∀(Z:List Nat)(H:List PV),(∀p∈Z,p<6)->H.length+2*Z.length<=1000->
 Fi (W1 w h) A (Ds w 152).scope z N t (SG 1) [] (Z.map λ(i:Nat)=>.int (0+(i:Int)*1)) (FZ a b c d H) (.next (FZ a b c d (H++Z.flatMap (Iq a b)))):=by
 intro Z;induction Z with
 |nil=>
  intro H G y;rw[List.flatMap_nil,CN];exact .nil DN
 |cons p Z I=>
  intro H G y;have J:=I (H++Iq a b p) (λ q hq=>G q (Ad _ hq)) (by rw[AA];exact Aa (AG (by rw[BV,EF,Jy,BE (2*_)];rfl)) y);rw[Bg] at J;have b1:=Gb;have O:=G p Ac;have Q:a.getD p 0<5:=V.sp5 _ (getD_mem (by rw[V.tp];exact O));have f:(b.getD p 0).natAbs<1000000000:=V.u5 _ (getD_mem (by rw[V.ur];exact O));have g:(b.getD p 0).natAbs<10^10:=Cn f (by decide);have e0:(0+(p:Int)*1)=(p:Int):=bU _;show Fi _ _ _ _ _ _ _ _ (.int (0+(p:Int)*1)::_) _ _;rw[e0];refine .next (ht H p) ?_ J;have W:Dd (.list (a.map λ n=>.int (n:Nat))) (.int (p:Nat))=some (.int ((a.getD p 0:Nat):Int)):=Du (by rw[Af,V.tp];omega) (by rw[Aw,Ej (d:=0) (by rw[V.tp];exact O)];rfl);have j:Dd (.list (b.map .int)) (.int (p:Nat))=some (.int (b.getD p 0)):=Du (by rw[Af,V.ur];omega) (by rw[Aw,Ej (d:=0) (by rw[V.ur];exact O)];rfl);have name:Dd (AB Do) (.int ((a.getD p 0:Nat):Int))=some (.str (Do.getD (a.getD p 0) "")):=Du (by rw[Af];exact Aa (by decide) b1) (by rw[Aw,Ej (d:=("":Str)) Q];rfl);have T:Iq a b p=[.str (Eb (Do.getD (a.getD p 0) "") p),.str (A4 (Bh (cK.getD (a.getD p 0) 0) (dg (b.getD p 0))))]:=rfl
  conv in SG 1=>whnf
  rw[T];clear T J;generalize a.getD p 0=s at*;generalize a0:b.getD p 0=o at*;refine Dl (A6 D E B (x:="mark") (d:=.str (DJ (cK.getD s 0))) (.sub (b:=.str "|!x(|") (.bh (.af (by kernel_rfl))) (.sub (b:=.list (a.map λ n=>.int (n:Nat))) (.aa (by kernel_rfl)) (.aa (d:=.int (p:Nat)) (by kernel_rfl)) (λ _ _=>rfl) W) (λ _ _=>rfl) (Zq Q)) (by kernel_rfl)) ?_;have hm:=SZ Q;have L:=Zi Q;have l:MV [.str (Do.getD s ""),.int (p:Nat)]=some (.str (Eb (Do.getD s "") p)):=by
   show(if F5 (Do.getD s "")=true/\0<=((p:Nat):Int)/\((p:Nat):Int)<6 then some (PV.str (Eb (Do.getD s "") ((p:Nat):Int).toNat)) else none)=_;rw[if_pos ⟨L,Bs _,B4.mpr O⟩];rfl
  have r:("229 it lies at (":Str)=A4 (DE++[40]):=by kernel_rfl
  have u:(") (|||7|)":Str)=A4 (41::FS):=by kernel_rfl
  have e:=Sj o g;have M:QW .str [.int o]=some (.str (A4 (dg o))):=by
   show(if o.natAbs<1000000000 then some (PV.str (Str.ofString (toString o))) else none)=_;rw[if_pos f,eK]
  generalize cK.getD s 0=m at*;generalize Do.getD s ""=x at*;have a1:FE .Add (.str "229 it lies at (") (.str (A4 [m,m,m]))=some (.str (A4 ((DE++[40])++[m,m,m]))):=by
   rw[r,Ez (by rw[BY,BY];exact AX rfl),Ec]
  have a2:FE .Add (.str (A4 ((DE++[40])++[m,m,m]))) (.str (A4 (dg o)))=some (.str (A4 (((DE++[40])++[m,m,m])++dg o))):=by
   rw[Ez (by rw[BY,BY];exact Aa (AK e _) (AX rfl)),Ec]
  have a3:FE .Add (.str (A4 (((DE++[40])++[m,m,m])++dg o))) (.str (DJ m))=some (.str (A4 ((((DE++[40])++[m,m,m])++dg o)++[m]))):=by
   have:DJ m=A4 [m]:=rfl;rw[this,Ez (by rw[BY,BY,AA];exact Aa (Bb (AK e _) _) (AX rfl)),Ec]
  have a4:FE .Add (.str (A4 ((((DE++[40])++[m,m,m])++dg o)++[m]))) (.str ") (|||7|)")=some (.str (A4 (Bh m (dg o)))):=by
   rw[u,Ez (by rw[BY,BY,AA,AA];exact Aa (Bb (Bb (AK e _) _) _) (AX rfl)),Ec];have:((((DE++[40])++[m,m,m])++dg o)++[m])++(41::FS)=Bh m (dg o):=by simp[Bh]
   rw[this]
  have R:H.length<Bf:=Av (Dr y) (by decide+kernel);have S:(H++[PV.str (Eb x p)]).length<Bf:=by rw[AA];exact Av (Bb (Dr y) 1) (by decide+kernel)
  obtain⟨v,U⟩:∃v:AM,v=AN (AN (FZ a b c d H) "place" (.aa (.int (p:Nat)))) "mark" (.aa (.str (DJ m))):=⟨_,rfl⟩;refine Dl (JH (xs:=H) (d:=.str (Eb x p)) D E B (by kernel_rfl) (by kernel_rfl) (.fn (by kernel_rfl) Y (.cons (.sub (b:=AB Do) (.aa (by kernel_rfl)) (.sub (b:=.list (a.map λ n=>.int (n:Nat))) (.aa (by kernel_rfl)) (.aa (d:=.int (p:Nat)) (by kernel_rfl)) (λ _ _=>rfl) W) (λ _ _=>rfl) name) (.cons (.aa (d:=.int (p:Nat)) (by kernel_rfl)) .nil rfl) rfl) l) R) ?_;have e9:FZ a b c d (H++[.str (Eb x p),.str (A4 (Bh m (dg o)))])=Ci kH (AN (AN (AN (AN (FZ a b c d H) "place" (.aa (.int (p:Nat)))) "mark" (.aa (.str (DJ m)))) "talk" (.own (.list (H++[.str (Eb x p)])))) "talk" (.own (.list ((H++[.str (Eb x p)])++[.str (A4 (Bh m (dg o)))])))):=by
   rw[Bg];kernel_rfl
  rw[e9];exact Cp ((JH (xs:=H++[.str (Eb x p)]) (d:=.str (A4 (Bh m (dg o)))) D E B (by kernel_rfl) (by kernel_rfl) (.ai (.ai (.ai (.ai (.af (d:=.str "229 it lies at (") (by kernel_rfl)) (.ai (.aa (d:=.str (DJ m)) (by kernel_rfl)) .int (nN hm)) a1) (.blt (b:=.str) (by kernel_rfl) (by kernel_rfl) (.cons (.sub (b:=.list (b.map .int)) (.aa (by kernel_rfl)) (.aa (d:=.int (p:Nat)) (by kernel_rfl)) (λ _ _=>rfl) j) .nil rfl) M) a2) (.aa (d:=.str (DJ m)) (by kernel_rfl)) a3) (.af (d:=.str ") (|||7|)") (by kernel_rfl)) a4) S).post CP)
end
variable {t:Expr} in
noncomputable def J7 (p:Nat):PV->PV
 | .str t=>.str (Eb t p)
 |d=>d
open Classical in
noncomputable def GP (a:List PV)(r:PV):List PV->Option PV:=λ args=>if args=a then some r else none
section
variable {C:A5}{A:Around}{z:Env}
theorem dM (G:GW w h C k mg mb)(I:Cc k A)(B:Hq w h 152 z N)(L:C.fn "_law_said"=some MV)(O:PC c d a b)(m:∀o(p:Nat),EO (Ds w 152).scope t (.int p) (FZ c d a b o)=some (AN (FZ c d a b o) "place" (.aa (.int p)))):∀(W:List Nat)(o:List PV),(∀p∈W,p<4)->o.length+10*W.length<=1000->
 Fi (W1 w h) A (Ds w 152).scope z N t (SG 3) [] (W.map λ(i:Nat)=>.int (0+(i:Int)*1)) (FZ c d a b o) (.next (FZ c d a b (o++W.flatMap (Li a b)))):=by
 intro W;induction W with
 |nil=>
  intro o n j;rw[List.flatMap_nil,CN];exact .nil DN
 |cons p W r=>
  intro o n j;have U:=Gb;have s:=n p Ac;obtain⟨H,u⟩:=O.uj _ (getD_mem (d:=[]) (i:=p) (by rw[O.tu];exact s));have Z:=O.ul _ (getD_mem (d:=[]) (i:=p) (by rw[O.t4];exact s));have Q:(Li a b p).length<=10:=by
   unfold Li;rw[AA,Af,Af];exact DW H Z
  have v:=r (o++Li a b p) (λ q M=>n q (Ad _ M)) (by rw[AA,BV];exact Aa (AK (Aa (Bb Q _) (AG (by rw[EF,Jy,BE]))) _) j);rw[Bg] at v;have R:(0+(p:Int)*1)=(p:Int):=bU _;show Fi _ _ _ _ _ _ _ _ (.int (0+(p:Int)*1)::_) _ _;rw[R];refine .next (m o p) ?_ v;have e:Dd (.list (a.map AB)) (.int (p:Nat))=some (AB (a.getD p [])):=Du (by rw[Af,O.tu];omega) (by rw[Aw,Ej (d:=[]) (by rw[O.tu];exact s)];rfl);have f:Dd (.list (b.map AB)) (.int (p:Nat))=some (AB (b.getD p [])):=Du (by rw[Af,O.t4];omega) (by rw[Aw,Ej (d:=[]) (by rw[O.t4];exact s)];rfl);have J:Li a b p=((a.getD p []).map PV.str).map (J7 p)++(b.getD p []).map .str:=by
   unfold Li;rw[AZ];rfl
  conv in SG 3=>whnf
  rw[J];clear J v Q;generalize a.getD p []=V at*;generalize b.getD p []=l at*;have y:o.length+((V.map PV.str).map (J7 p)).length<=Bf:=by rw[Af,Af];exact Aa (DW (Dr j) H) (by decide+kernel)
  have D:(o++(V.map PV.str).map (J7 p)).length+(l.map PV.str).length<=Bf:=by rw[AA,Af,Af,Af];exact Aa (DW (DW (Dr j) H) Z) (by decide+kernel)
  have E:(V.map PV.str).length<=Bf:=by rw[Af];exact Aa H (by decide+kernel)
  refine Dl (VR (xs:=o) (ys:=(V.map PV.str).map (J7 p)) G I B (by kernel_rfl) (by kernel_rfl) (Cu.ev<| .all (J7 p) (.list (.sub (b:=.list (a.map AB)) (.aa (by kernel_rfl)) (.aa (d:=.int (p:Nat)) (by kernel_rfl)) (λ _ _=>rfl) e) rfl) (by kernel_rfl) (by kernel_rfl) (λ x S=>?_) E) y) ?_
  ·obtain⟨t,m,rfl⟩:=Al.mp S;have g:MV [.str t,.int (p:Nat)]=some (.str (Eb t p)):=by
    show(if F5 t=true/\0<=((p:Nat):Int)/\((p:Nat):Int)<6 then some (PV.str (Eb t ((p:Nat):Int).toNat)) else none)=_;rw[if_pos ⟨u t m,Bs _,B4.mpr (AJ s (by decide))⟩];rfl
   exact⟨[("text",.aa (.str t)),("place",.aa (.int (p:Nat)))],by kernel_rfl,.fn (by kernel_rfl) L (.cons (.aa (d:=.str t) (by kernel_rfl)) (.cons (.aa (d:=.int (p:Nat)) (by kernel_rfl)) .nil rfl) rfl) g⟩
  ·have T:FZ c d a b (o++((V.map PV.str).map (J7 p)++l.map .str))=Ci kH (AN (AN (AN (FZ c d a b o) "place" (.aa (.int (p:Nat)))) "talk" (.own (.list (o++(V.map PV.str).map (J7 p))))) "talk" (.own (.list ((o++(V.map PV.str).map (J7 p))++l.map .str)))):=by
    rw[Bg];kernel_rfl
   rw[T];exact Cp ((VR (xs:=o++(V.map PV.str).map (J7 p)) (ys:=l.map .str) G I B (by kernel_rfl) (by kernel_rfl) (.sub (b:=.list (b.map AB)) (.aa (by kernel_rfl)) (.aa (d:=.int (p:Nat)) (by kernel_rfl)) (λ _ _=>rfl) f) D).post CP)
theorem gH {i:ExcName->Option Value}(I:EW w h)(T:Top j g i mg mb h)(o:GW w h C k mg mb)(H:C.fn "_law_said"=some MV)(N:PC a b c f):Fa (W1 w h) (k+1) 152 (GP (SH a b c f) (.list (NZ a b c f))):=by
 refine Lx (Th I T) λ args d e=>?_;unfold GP at e;split at e
 ·rename_i Q;subst Q;cases e;refine⟨rfl,λ A V r s B=>?_⟩;have t:=Gb;have O:((List.range 6).flatMap (Iq a b)).length=12:=rfl;have W:=λ q=>dN o s B H N (t:=.Name "place" q) (λ Z p=>by kernel_rfl) (List.range 6) [] (λ p z=>AC.mp z) (by simp);have l:=λ q=>dM o s B H N (t:=.Name "place" q) (λ Z p=>by kernel_rfl) (List.range 4) (((List.range 6).flatMap (Iq a b))++[.str "226 all told"]) (λ p z=>AC.mp z) (by simp[O])
  conv in Bi P1 37=>whnf
  refine Rk o s B (d':=.list []) (.list .nil (AP _)) (by kernel_rfl) ?_;have m:AN ((["names","spots","ports","wished","spoiled"]:List Str).zip ((SH a b c f).map CB.aa)) "talk" (.own (.list []))=FZ a b c f []:=by kernel_rfl
  rw[m];refine Jl (Hy o s B (.range (ds:=[.int 6]) rfl (.cons .int .nil rfl) (by kernel_rfl)) (W _)) ?_;rw[GL];refine Jl (JH (xs:=(List.range 6).flatMap (Iq a b)) (d:=.str "226 all told") o s B (by kernel_rfl) (by kernel_rfl) (.af (by kernel_rfl)) (by rw[O];omega)) ?_;have n:AN (FZ a b c f ((List.range 6).flatMap (Iq a b))) "talk" (.own (.list ((List.range 6).flatMap (Iq a b)++[.str "226 all told"])))=FZ a b c f ((List.range 6).flatMap (Iq a b)++[.str "226 all told"]):=by kernel_rfl
  rw[n];refine Jl (Hy o s B (.range (ds:=[.int 4]) rfl (.cons .int .nil rfl) (by kernel_rfl)) (l _)) ?_;exact Hx (Fn o s B (.own (by kernel_rfl)))
 ·cases e
end
theorem MJ (n:Nat):∀h:List Str,lvlL (n+1) (h.map PV.str)=true:=by
 intro h;induction h with
 |nil=>
  exact rfl
 |cons s r k=>
  have o:=k;show(O7 (n+1) (PV.str s)&&lvlL (n+1) (r.map PV.str))=true;rw[o];rfl
theorem gM (h:List Str):KE (AB h) (.list [])=some h.isEmpty:=by
 cases h with
 |nil=>rfl
 |cons s r=>
  unfold KE;rw[if_pos]
  ·rfl
  ·show(lvlL 5 ((s::r).map PV.str)&&true)=true;rw[MJ 4];rfl
theorem S8 (x:Str)(h:List Str):Vr (.str x) (AB h)=some (h.any λ y=>y==x):=by
 unfold Vr AB;show(if(O7 6 (.str x)&&lvlL 6 (h.map PV.str))=true then some ((toPyL (h.map PV.str)).any λ y=>PyData.eqv y (FR (.str x))) else none)=_;rw[MJ 5,if_pos (by rfl)];congr 1;induction h with
 |nil=>rfl
 |cons s r k=>
  show(PyData.eqv (.str s) (.str x)||(toPyL (r.map PV.str)).any λ y=>PyData.eqv y (FR (.str x)))=((s==x)||r.any λ y=>y==x);rw[k];rfl
noncomputable def mE (p:Str×Str):PV:=.aw [.str p.1,.str p.2]
noncomputable def NM (l:List (Str×Str)):PV:=.list (l.map mE)
noncomputable def Op (h:List (Str×Str))(st:List Str)(n:Str):Bool:=h.any λ p=>decide (p.1=n)&&st.any (·==p.2)
noncomputable def Lk (h:List (Str×Str))(st:List Str):List Str:=st.filter (Op h st)
variable {n:Nat}{st:Stmt} in
noncomputable def Ft (h:List (Str×Str)):Nat->List Str->List Str
 |0,st=>st
 |n+1,st=>Ft h n (Lk h st)
noncomputable def Pa (h:List (Str×Str))(st:List Str):AM:=[("names",.aa (AB Do)),("pairs",.aa (NM h)),("stuck",.aa (AB st))]
noncomputable def rP:List Str:=["names","pairs","stuck"]
noncomputable def VS:List Stmt:=(JJ (Bi P1 41) 1).b 0
variable {n:Nat} in
noncomputable def qS (h:List (Str×Str))(st:List Str):PV->Bool
 | .str n=>Op h st n
 |_=>false
variable {a:Addr} in
noncomputable def qP (st:List Str)(n:Str):PV->Bool
 | .aw [.str a,.str b]=>decide (a=n)&&(st.any (·==b)&&true)
 |_=>false
noncomputable def YJ:PV->PV
 | .aw [_,b]=>b
 |d=>d
theorem gC (h:List (Str×Str))(st:List Str):(((st.map PV.str).filter (qS h st)).map _root_.id)=(Lk h st).map PV.str:=by
 rw[List.map_id,Ef];rfl
theorem gD (st:List Str)(n:Str)(h:List (Str×Str)):((h.map mE).filter (qP st n)).map YJ=((h.filter λ p=>decide (p.1=n)&&(st.any (·==p.2)&&true)).map (·.2)).map PV.str:=by
 rw[Ef,AZ,AZ];rfl
section
variable {C:A5}{A:Around}{z:Env}
theorem dH {a:List (Str×Str)}(s:GW w h C k mg mb)(H:Cc k A)(B:Hq w h 176 z N)(O:a.length<=100){st:List Str}(V:st.length<=100)(t:PV):
 D3 (W1 w h) A (Ds w 176).scope z N (execs VS z) (AN (Pa a st) "turn" (.aa t)) (.next (Pa a (Lk a st))):=by
 have W:=Gb
 conv in VS=>whnf
 have e:Pa a (Lk a st)=Ci rP (AN (AN (Pa a st) "turn" (.aa t)) "stuck" (.aa (.list (((st.map PV.str).filter (qS a st)).map _root_.id)))):=by rw[gC];kernel_rfl
 rw[e];refine Cp ((Cy s H B (x:="stuck") (.bp (xs:=st.map PV.str) (qS a st) _root_.id (.list (.aa (d:=AB st) (by kernel_rfl)) rfl) (by kernel_rfl) (by kernel_rfl) (λ x o=>?_) (by simp;omega)) (by kernel_rfl)).post CP);obtain⟨n,Z,rfl⟩:=Al.mp o;refine⟨[("name",.aa (.str n)),("pairs",.aa (NM a)),("stuck",.aa (AB st))],by kernel_rfl,.bp ?_,λ _=>.aa (by kernel_rfl)⟩;have Q:qS a st (.str n)= !(((a.filter λ p=>decide (p.1=n)&&(st.any (·==p.2)&&true)).map (·.2)).isEmpty):=by
  show Op a st n=_;unfold Op;rw[BO];simp
 rw[Q];refine .an (b:=.list []) (Cu.ev<| .bp (xs:=a.map mE) (qP st n) YJ (.list (.aa (d:=NM a) (by kernel_rfl)) rfl) (by kernel_rfl) (by kernel_rfl) (λ x o=>?_) (by simp;omega)) (.list .nil (by show 0<=Bf;omega)) rfl ?_
 ·obtain⟨p,O,rfl⟩:=Al.mp o;refine⟨[("b",.aa (.str p.2)),("a",.aa (.str p.1)),("name",.aa (.str n)),("stuck",.aa (AB st))],by kernel_rfl,.bp ?_,λ _=>.aa (by kernel_rfl)⟩;exact .all (.n6 (.an (.aa (d:=.str p.1) (by kernel_rfl)) (.aa (d:=.str n) (by kernel_rfl)) rfl (kZ _ _)) λ _=>.n6 (.o4 (.aa (d:=.str p.2) (by kernel_rfl)) (.aa (d:=AB st) (by kernel_rfl)) rfl (by simp) (S8 p.2 st)) λ _=>.nil)
 ·show(KE _ _).map (!·)=_
  rw[gD];exact(congrArg _ (gM _))
theorem eV (O:GW w h C k mg mb)(Q:Cc k A)(B:Hq w h 176 z N)(V:a.length<=100)(W:∀st d,EO (Ds w 176).scope t d (Pa a st)=some (AN (Pa a st) "turn" (.aa d))):∀(o:List PV)(st:List Str),st.length<=100->
 Fi (W1 w h) A (Ds w 176).scope z N t VS [] o (Pa a st) (.next (Pa a (Ft a o.length st))):=by
 intro o;induction o with
 |nil=>
  intro st s;exact .nil DN
 |cons x o H=>
  intro st s;exact .next (W st x) (dH O Q B V s x) (H (Lk a st) (Aa (BW _ _) s))
theorem Z6 {c:ExcName->Option Value}{a:List (Str×Str)}(I:EW w h)(T:Top f b c mg mb h)(o:GW w h C k mg mb)(z:a.length<=100):Fa (W1 w h) (k+1) 176 (GP [AB Do,NM a] (AB (Ft a 5 Do))):=by
 refine Lx (QH I T) λ args d e=>?_;unfold GP at e;split at e
 ·rename_i H;subst H;cases e;refine⟨rfl,λ A N V s B=>?_⟩;have O:=λ q=>eV o s B z (t:=.Name "turn" q) (λ st d=>by kernel_rfl) (Do.map PV.str) Do (by decide)
  conv in Bi P1 41=>whnf
  refine Jl (A6 o s B (x:="stuck") (d:=AB Do) (.blt (b:=.list) (by kernel_rfl) (by kernel_rfl) (.cons (.aa (d:=AB Do) (by kernel_rfl)) .nil rfl) rfl) (by kernel_rfl)) ?_;have Q:AN ((["names","pairs"]:List Str).zip (([AB Do,NM a]:List PV).map CB.aa)) "stuck" (.aa (AB Do))=Pa a Do:=by kernel_rfl
  rw[Q];refine Jl (Hy o s B (.list (.aa (d:=AB Do) (by kernel_rfl)) rfl) (O _)) ?_;exact Hx (Fn o s B (.aa (by kernel_rfl)))
 ·cases e
end
variable {i:Nat} in
noncomputable def Fo:Option Int->PV
 |none=>.none
 |some i=>.int i
noncomputable def Bt (c:Nat):List Nat:=(List.range 5).filter λ k=>c/2^k%2==1
noncomputable def AD (l:List Int):PV:=.list (l.map .int)
noncomputable def BH (l:List Nat):PV:=.list (l.map λ n=>.int (n:Nat))
noncomputable def Wu (p:Nat×Nat):PV:=.aw [.int p.1,.int p.2]
noncomputable def E1 (l:List (Nat×Nat)):PV:=.list (l.map Wu)
noncomputable def FW (h:List Int)(c:Nat):Int:=((Bt c).map λ k=>h.getD k 0).sum
noncomputable def Ek (h:List (Nat×Nat))(c k:Nat):Bool:=((h.filter λ p=>decide (p.1=k)&&(Bt c).any (·==p.2)).map (·.2)).isEmpty
noncomputable def MP (h k:List Int)(s:List (Option Int))(c o:Nat):Int:=
 if c-2^o=0 then FW h c-k.getD o 0 else max ((s.getD (c-2^o) none).getD 0) (FW h c-k.getD o 0)
variable {v:Value} in
noncomputable def D9 (k o:List Int)(w:List (Nat×Nat))(c:Nat)(h:List (Option Int))(s:Nat):List (Option Int):=
 if Ek w c s&&(c-2^s==0||(h.getD (c-2^s) none).isSome) then
  (match h.getD c none with
   |none=>h.set c (some (MP k o h c s))
   |some v=>if MP k o h c s<v then h.set c (some (MP k o h c s)) else h)
 else h
noncomputable def JV (h k:List Int)(o:List (Nat×Nat))(w:List Nat)(s:List (Option Int)):List (Option Int):=
 w.foldl (λ s c=>(Bt c).foldl (D9 h k o c) s) s
noncomputable def Jx (h k:List Int)(o:List (Nat×Nat)):Option Int:=(JV h k o ((List.range 31).map (1+·)) (List.replicate 32 none)).getD 31 none
noncomputable def Pb (h k:List Int)(o:List (Nat×Nat))(s:List (Option Int)):AM:=[("hours",.aa (AD h)),("dues",.aa (AD k)),("pairs",.aa (E1 o)),("best",.own (.list (s.map Fo)))]
noncomputable def FC (h k:List Int)(o:List (Nat×Nat))(s:List (Option Int))(c:Nat):AM:=[("hours",.aa (AD h)),("dues",.aa (AD k)),("pairs",.aa (E1 o)),("best",.own (.list (s.map Fo))),("chosen",.aa (.int (c:Nat))),("inside",.aa (BH (Bt c))),("end",.aa (.int (FW h c)))]
noncomputable def rR:List Str:=["hours","dues","pairs","best"]
noncomputable def fF:List Str:=["hours","dues","pairs","best","chosen","inside","end"]
noncomputable def bR:List Stmt:=(JJ (Bi P1 40) 1).b 0
noncomputable def oW:List Stmt:=(JJ bR 2).b 0
theorem Qi (n:Nat):∀l:List Nat,lvlL (n+1) (l.map λ n=>PV.int (n:Nat))=true:=by
 intro l;induction l with
 |nil=>
  exact rfl
 |cons s r h=>
  have k:=h;show(O7 (n+1) (PV.int s)&&lvlL (n+1) (r.map λ n=>PV.int (n:Nat)))=true;rw[k];rfl
theorem aK (l:List Nat):KE (BH l) (.list [])=some l.isEmpty:=by
 cases l with
 |nil=>rfl
 |cons s r=>
  unfold KE;rw[if_pos]
  ·rfl
  ·show(lvlL 5 ((s::r).map λ n=>PV.int (n:Nat))&&true)=true;rw[Qi 4];rfl
theorem S9 (x:Nat)(l:List Nat):Vr (.int (x:Nat)) (BH l)=some (l.any λ y=>y==x):=by
 unfold Vr BH;show(if(O7 6 (.int (x:Nat))&&lvlL 6 (l.map λ n=>PV.int (n:Nat)))=true then some ((toPyL (l.map λ n=>PV.int (n:Nat))).any λ y=>PyData.eqv y (FR (.int (x:Nat)))) else none)=_;rw[Qi 5,if_pos (by rfl)];congr 1;induction l with
 |nil=>rfl
 |cons s r h=>
  show(PyData.eqv (.int (s:Nat)) (.int (x:Nat))||(toPyL (r.map λ n=>PV.int (n:Nat))).any λ y=>PyData.eqv y (FR (.int (x:Nat))))=((s==x)||r.any λ y=>y==x);rw[h];congr 1;show(((s:Nat):Int)==((x:Nat):Int))=(s==x);rw[BO,beq_iff_eq,beq_iff_eq];exact GJ
theorem E6 (s:k∈Bt c):k<5/\2^k<=c:=by
 unfold Bt at s;obtain⟨o,h⟩:=AS.mp s;have o:=AC.mp o;refine⟨o,?_⟩;have h:c/2^k%2=1:=by simpa using h
 by_cases q:2^k<=c
 ·exact q
 ·rw[Nat.div_eq_of_lt (by omega)] at h;cases h
noncomputable def qI (c:Nat):PV->Bool
 | .int k=>decide (((c:Int).fdiv (2^k.toNat)).fmod 2=1)
 |_=>false
variable {a:Addr} in
noncomputable def qB (c h:Nat):PV->Bool
 | .aw [.int a,.int b]=>decide (a=(h:Int))&&((Bt c).any (λ y=>y==b.toNat)&&true)
 |_=>false
theorem dY (h:Nat):((2:Int)^h)=((2^h:Nat):Int):=by push_cast;rfl
theorem bL (c h:Nat):((c:Int).fdiv (2^h)).fmod 2=((c/2^h%2:Nat):Int):=by
 rw[dY,GE (Bs _),GD (by omega)];rfl
theorem gF (c:Nat)(l:List Nat):((l.map λ(i:Nat)=>PV.int (0+(i:Int)*1)).filter (qI c)).map _root_.id=(l.filter λ k=>c/2^k%2==1).map λ n=>PV.int (n:Nat):=by
 rw[List.map_id,Ef];have e:(λ(i:Nat)=>PV.int (0+(i:Int)*1))=λ(n:Nat)=>PV.int (n:Nat):=by funext i;rw[bU]
 rw[e];congr 1;apply C8;intro k _;show decide (((c:Int).fdiv (2^((k:Nat):Int).toNat)).fmod 2=1)=(c/2^k%2==1);rw[show((k:Nat):Int).toNat=k from rfl,bL];generalize c/2^k%2=n;rw[BO,decide_eq_true_iff,beq_iff_eq];exact GJ (m:=n) (n:=1)
theorem gG (c k:Nat)(h:List (Nat×Nat)):((h.map Wu).filter (qB c k)).map YJ=((h.filter λ p=>decide (p.1=k)&&(Bt c).any (·==p.2)).map (·.2)).map λ n=>PV.int (n:Nat):=by
 rw[Ef,AZ,AZ];congr 1;apply C8;intro p _;show(decide (((p.1:Nat):Int)=(k:Int))&&((Bt c).any (λ y=>y==((p.2:Nat):Int).toNat)&&true))=_;rw[show((p.2:Nat):Int).toNat=p.2 from rfl,Gp];congr 1;exact decide_eq_decide.mpr GJ
theorem cI (h:Nat)(k:h<5):FE .Pow (.int 2) (.int (h:Nat))=some (.int ((2^h:Nat):Int)):=by
 rw[Wk ⟨by omega,by omega,AX rfl⟩,show((h:Nat):Int).toNat=h from rfl,dY]
theorem eQ (v e:Int):max v e=if e>v then e else v:=by
 by_cases h:e>v
 ·rw[if_pos h,Gm (JD h)]
 ·rw[if_neg h,Int.max_eq_left (DL.mp h)]
theorem Ex (e:b=Ci ks ρ1)(h:D3 W A V a N t O (.next ρ1)):D3 W A V a N t O (.next b):=e▸h.post CP
section
variable {C:A5}{A:Around}{z:Env}
theorem dI (V:GW w h C k mg mb)(W:Cc k A)(B:Hq w h 171 z N)(R:b.length=5)(hp:d.length<=100)(O:a.length=32)(hc:c<32)(l:q∈Bt c):
 D3 (W1 w h) A (Ds w 171).scope z N (execs oW z) (AN (FC e b d a c) "k" (.aa (.int (q:Nat)))) (.next (FC e b d (D9 e b d c a q) c)):=by
 have S:=Gb;have l:=E6 l;obtain⟨r,j⟩:∃r:Nat,r=c-2^q:=⟨_,rfl⟩;have er:((c:Int)-((2^q:Nat):Int))=(r:Int):=by rw[j];exact(Int.ofNat_sub l.2).symm
 have m:r<32:=by rw[j];exact Av (CY _ _) hc
 have subB:∀i,i<32->Dd (.list (a.map Fo)) (.int (i:Nat))=some (Fo (a.getD i none)):=λ i hi=>Du (by rw[Af,O];exact Aa (by decide) S) (by rw[Aw,Ej (d:=none) (O▸hi)];rfl);have n:Dd (AD b) (.int (q:Nat))=some (.int (b.getD q 0)):=Du (by rw[Af,R];exact Aa (by decide) S) (by rw[Aw,Ej (d:=0) (R▸l.1)];rfl)
 conv in oW=>whnf
 refine Dl (A6 V W B (x:="rest") (d:=.int (r:Nat)) (.ai (.aa (d:=.int (c:Nat)) (by kernel_rfl)) (.ai .int (.aa (d:=.int (q:Nat)) (by kernel_rfl)) (cI q l.1)) ((GZ _ _).trans (congrArg (λ x=>some (PV.int x)) er))) (by kernel_rfl)) ?_;obtain⟨o,H⟩:∃x,x=MP e b a c q:=⟨_,rfl⟩;have G:H8 .IsNot (Fo (a.getD r none)) .none=some (a.getD r none).isSome:=by cases a.getD r none<;>rfl
 have Q:H8 .Is (Fo (a.getD c none)) .none=some (a.getD c none).isNone:=by cases a.getD c none<;>rfl
 have T:∀Z,FC e b d Z c=Ci fF (AN (AN (AN (AN (FC e b d a c) "k" (.aa (.int (q:Nat)))) "rest" (.aa (.int (r:Nat)))) "late" (.aa (.int o))) "best" (.own (.list (Z.map Fo)))):=λ Z=>by kernel_rfl
 have I:FC e b d a c=Ci fF (AN (AN (FC e b d a c) "k" (.aa (.int (q:Nat)))) "rest" (.aa (.int (r:Nat)))):=by kernel_rfl
 have t:FC e b d a c=Ci fF (AN (AN (AN (FC e b d a c) "k" (.aa (.int (q:Nat)))) "rest" (.aa (.int (r:Nat)))) "late" (.aa (.int o))):=by kernel_rfl
 refine Cp (DY V W B (c:=Ek d c q&&((decide ((r:Int)=0)||((a.getD r none).isSome||false))&&true)) (.all (.n6 (.an (b:=.list []) (Cu.ev<| .bp (xs:=d.map Wu) (qB c q) YJ (.list (.aa (d:=E1 d) (by kernel_rfl)) rfl) (by kernel_rfl) (by kernel_rfl) (λ x hx=>?_) (by simp;omega)) (.list .nil (by exact AP _)) rfl ?_) λ _=>.n6 (.all (.ng (.an (.aa (d:=.int (r:Nat)) (by kernel_rfl)) .int rfl (QM _ _)) λ _=>.ng (.an (.sub (b:=.list (a.map Fo)) (.own (by kernel_rfl)) (.aa (d:=.int (r:Nat)) (by kernel_rfl)) (λ _ _=>rfl) (subB r m)) (.af rfl) rfl G) λ _=>.nil)) λ _=>.nil)) ?_)
 ·obtain⟨p,hp,rfl⟩:=Al.mp hx;refine⟨[("b",.aa (.int (p.2:Nat))),("a",.aa (.int (p.1:Nat))),("inside",.aa (BH (Bt c))),("k",.aa (.int (q:Nat)))],by kernel_rfl,.bp ?_,λ _=>.aa (by kernel_rfl)⟩;exact .all (.n6 (.an (.aa (d:=.int (p.1:Nat)) (by kernel_rfl)) (.aa (d:=.int (q:Nat)) (by kernel_rfl)) rfl (QM _ _)) λ _=>.n6 (.o4 (.aa (d:=.int (p.2:Nat)) (by kernel_rfl)) (.aa (d:=BH (Bt c)) (by kernel_rfl)) rfl (by exact .inl rfl) (S9 p.2 _)) λ _=>.nil)
 ·rw[gG];exact aK _
 have ec:(Ek d c q&&((decide ((r:Int)=0)||((a.getD r none).isSome||false))&&true))=(Ek d c q&&(r==0||(a.getD r none).isSome)):=by
  have e0:decide ((r:Int)=0)=(r==0):=by
   rw[BO,decide_eq_true_iff,beq_iff_eq];exact GJ (m:=r) (n:=0)
  rw[Bool.or_false,Gp,e0]
 rw[ec];have es:D9 e b d c a q=if(Ek d c q&&(r==0||(a.getD r none).isSome))=true then(match a.getD c none with
  |none=>a.set c (some o)
  |some v=>if o<v then a.set c (some o) else a) else a:=by
  unfold D9;(rw[H,j])<;>(cases a.getD c none<;>rfl)
 rw[es];by_cases s:(Ek d c q&&(r==0||(a.getD r none).isSome))=true
 ·rw[if_pos s,if_pos s];have u:r=0\/(a.getD r none).isSome=true:=by
   simp only[As,Cg] at s;rcases s.2 with f |f
   ·exact .inl (by exact of_decide_eq_true (f))
   ·exact .inr f
  refine Dl (A6 V W B (x:="late") (d:=.int o) (.p0 (b':=decide ((r:Int)=0)) (.an (.aa (d:=.int (r:Nat)) (by kernel_rfl)) .int rfl (QM _ _)) ?_) (by kernel_rfl)) ?_
  ·have U:∀{p1 p2 p3 p4 p5:Pos}{J:AM},J=AN (AN (FC e b d a c) "k" (.aa (.int (q:Nat)))) "rest" (.aa (.int (r:Nat)))->CE C (Ds w 171).scope J (.BinOp (.Name "end" p1) .Sub (.Subscript (.Name "dues" p2) (.Name "k" p3) p4) p5) (.int (FW e c-b.getD q 0)):=λ{_ _ _ _ _ J} L=>by
    subst L;exact .ai (.aa (d:=.int (FW e c)) (by kernel_rfl)) (.sub (b:=AD b) (.aa (by kernel_rfl)) (.aa (d:=.int (q:Nat)) (by kernel_rfl)) (λ _ _=>rfl) n) (GZ _ _)
   by_cases y:r=0
   ·rw[decide_eq_true (show(r:Int)=0 from GJ.mpr y),if_pos rfl];have:o=FW e c-b.getD q 0:=by rw[H];unfold MP;rw[if_pos (by rw[<-j];exact y)]
    rw[this];exact U rfl
   ·rw[decide_eq_false (show ¬(r:Int)=0 from λ f=>y (GJ.mp f)),if_neg (by exact Bool.noConfusion)];obtain⟨v,Y⟩:=Cq.mp (u.resolve_left y);have:o=if FW e c-b.getD q 0>v then FW e c-b.getD q 0 else v:=by
     rw[H];unfold MP;rw[if_neg (by rw[<-j];exact y),<-j,Y];exact eQ ..
    rw[this];have M:=subB r m
    replace M:=(Y)▸M
    exact .blt (b:=.max) (by kernel_rfl) (by kernel_rfl) (.cons (.sub (b:=.list (a.map Fo)) (.own (by kernel_rfl)) (.aa (d:=.int (r:Nat)) (by kernel_rfl)) (λ _ _=>rfl) M) (.cons (U rfl) .nil rfl) rfl) rfl
  ·have g:=subB c hc;have st:jK (.list (a.map Fo)) (.int (c:Nat)) (.int o)=some (.list ((a.set c (some o)).map Fo)):=by
    show(if 0<=((c:Nat):Int)/\((c:Nat):Int)<(a.map Fo).length then some (PV.list ((a.map Fo).set ((c:Nat):Int).toNat (.int o))) else none)=_;rw[if_pos ⟨Bs _,B4.mpr (by rw[Af,O];exact hc)⟩,List.map_set];rfl
   cases D:a.getD c none with
   |none=>
    rw[D] at g Q;refine Ex (T (a.set c (some o))) (Cp (DY V W B (c:=(true||true)) (.all (.ng (.an (.sub (b:=.list (a.map Fo)) (.own (by kernel_rfl)) (.aa (d:=.int (c:Nat)) (by kernel_rfl)) (λ _ _=>rfl) g) (.af (d:=.none) (t:=Const.none) rfl) rfl Q) λ f=>(Bool.noConfusion f))) ?_));exact Cp (SL V W B (by kernel_rfl) (.aa (by kernel_rfl)) (.aa (by kernel_rfl)) st)
   |some v=>
    rw[D] at g Q;by_cases E:o<v
    ·show D3 _ _ _ _ _ _ _ (.next (FC e b d (if o<v then a.set c (some o) else a) c));rw[if_pos E];refine Ex (T (a.set c (some o))) (Cp (DY V W B (c:=(false||(decide (o<v)||false))) (.all (.ng (.an (.sub (b:=.list (a.map Fo)) (.own (by kernel_rfl)) (.aa (d:=.int (c:Nat)) (by kernel_rfl)) (λ _ _=>rfl) g) (.af (d:=.none) (t:=Const.none) rfl) rfl Q) λ _=>.ng (.an (.aa (d:=.int o) (by kernel_rfl)) (.sub (b:=.list (a.map Fo)) (.own (by kernel_rfl)) (.aa (d:=.int (c:Nat)) (by kernel_rfl)) (λ _ _=>rfl) g) rfl (Vp _ _)) λ _=>.nil)) ?_));rw[if_pos (by simp[E])];exact Cp (SL V W B (by kernel_rfl) (.aa (by kernel_rfl)) (.aa (by kernel_rfl)) st)
    ·show D3 _ _ _ _ _ _ _ (.next (FC e b d (if o<v then a.set c (some o) else a) c));rw[if_neg E];refine Ex t (Cp (DY V W B (c:=(false||(decide (o<v)||false))) (.all (.ng (.an (.sub (b:=.list (a.map Fo)) (.own (by kernel_rfl)) (.aa (d:=.int (c:Nat)) (by kernel_rfl)) (λ _ _=>rfl) g) (.af (d:=.none) (t:=Const.none) rfl) rfl Q) λ _=>.ng (.an (.aa (d:=.int o) (by kernel_rfl)) (.sub (b:=.list (a.map Fo)) (.own (by kernel_rfl)) (.aa (d:=.int (c:Nat)) (by kernel_rfl)) (λ _ _=>rfl) g) rfl (Vp _ _)) λ _=>.nil)) ?_));rw[if_neg (by simp[E])];exact DN
 ·rw[if_neg s,if_neg s];exact Ex I DN
end
theorem KN (h k:List Int)(o:List (Nat×Nat))(c:Nat)(s:List (Option Int))(w:Nat):(D9 h k o c s w).length=s.length:=by
 unfold D9
 repeat' split
 all_goals first |rfl |exact List.length_set
theorem La (o s:List Int)(w:List (Nat×Nat))(c:Nat):∀(l:List Nat)(h:List (Option Int)),(l.foldl (D9 o s w c) h).length=h.length:=by
 intro l;induction l with
 |nil=>
  intro h;exact rfl
 |cons k l H=>
  intro h;exact(H _).trans (KN ..)
theorem JO (l:List Int):EA (l.map PV.int)=some l:=by
 unfold EA;rw[Oi (g:=λ d=>match d with | .int i=>i |_=>0) λ x h=>?_,AZ]
 ·congr 1;exact List.map_id l
 ·obtain⟨i,_,rfl⟩:=Al.mp h;rfl
section
variable {C:A5}{A:Around}{z:Env}
theorem Zw (Q:GW w h C k mg mb)(V:Cc k A)(B:Hq w h 171 z N)(W:a.length=5)(Z:b.length<=100)(hc:c<32)(e:∀o d,EO (Ds w 171).scope t d (FC hrs a b o c)=some (AN (FC hrs a b o c) "k" (.aa d))):∀(l:List Nat)(o:List (Option Int)),(∀q∈l,q∈Bt c)->o.length=32->
 Fi (W1 w h) A (Ds w 171).scope z N t oW [] (l.map λ n=>PV.int (n:Nat)) (FC hrs a b o c) (.next (FC hrs a b (l.foldl (D9 hrs a b c) o) c)):=by
 intro l;induction l with
 |nil=>
  intro o s H;exact .nil DN
 |cons x g O=>
  intro o s H;exact .next (e o _) (dI Q V B W Z H hc (s x Ac)) (O _ (λ q f=>s q (Ad _ f)) ((KN ..).trans H))
theorem Yx (H:GW w h C k mg mb)(O:Cc k A)(B:Hq w h 171 z N)(u:a.length=5)(W:b.length=5)(Z:e.length<=100)(o:f.length=32)(hc:c<32):
 D3 (W1 w h) A (Ds w 171).scope z N (execs bR z) (AN (Pb a b e f) "chosen" (.aa (.int (c:Nat)))) (.next (Pb a b e ((Bt c).foldl (D9 a b e c) f))):=by
 have v:=Gb;have g:=λ q=>Zw (hrs:=a) H O B W Z hc (t:=.Name "k" q) (λ f d=>by kernel_rfl) (Bt c) f (λ _ h=>h) o;have j:((((List.range 5).map λ(i:Nat)=>PV.int (0+(i:Int)*1)).filter (qI c)).map _root_.id)=(Bt c).map λ n=>PV.int (n:Nat):=gF c (List.range 5)
 conv in bR=>whnf
 refine Dl (Cy H O B (x:="inside") (d:=BH (Bt c)) (by
  show Cu _ _ _ _ (.list _);rw[<-j];refine .bp (qI c) _root_.id (.range (ds:=[.int 5]) rfl (.cons .int .nil rfl) (by kernel_rfl)) (by kernel_rfl) (by kernel_rfl) (λ x Q=>?_) (by simp;omega);obtain⟨i,s,rfl⟩:=Al.mp Q;have s:=AC.mp s;have l:(0+(i:Int)*1)=(i:Int):=bU _;rw[l];refine⟨[("k",.aa (.int (i:Nat))),("chosen",.aa (.int (c:Nat)))],by kernel_rfl,.bp ?_,λ _=>.aa (by kernel_rfl)⟩;refine .an (a:=.int (((c:Int).fdiv (2^i)).fmod 2)) (.ai (a:=.int ((c:Int).fdiv (2^i))) (.ai (.aa (d:=.int (c:Nat)) (by kernel_rfl)) (.ai .int (.aa (d:=.int (i:Nat)) (by kernel_rfl)) (cI i (by omega))) (b:=.int ((2^i:Nat):Int)) ?_) .int ?_) .int rfl (QM _ _)
  ·have V:=(by decide:∀i<5,0<2^i/\2^i<=16) i s;exact(JR (x:=(c:Int)) (y:=((2^i:Nat):Int)) ⟨λ q=>Cm V.1 (Int.ofNat.inj q),Av V.2 (by decide)⟩).trans (by rw[dY])
  ·exact K4 (by decide)) (by kernel_rfl)) ?_
 have m:(Bt c).map (λ n=>PV.int (a.getD n 0))=((Bt c).map λ k=>a.getD k 0).map PV.int:=by rw[AZ];rfl
 refine Dl (A6 H O B (x:="end") (d:=.int (FW a c)) (.blt (b:=.sum) (ds:=[.list ((Bt c).map λ n=>PV.int (a.getD n 0))]) (by kernel_rfl) (by kernel_rfl) (.cons (by
  have p:(Bt c).map (λ n=>PV.int (a.getD n 0))=((Bt c).map λ n=>PV.int (n:Nat)).map (λ d=>match d with | .int i=>.int (a.getD i.toNat 0) |_=>.none):=by rw[AZ];rfl
  rw[p];refine Cu.ev<| .all _ (.list (.aa (d:=BH (Bt c)) (by kernel_rfl)) rfl) (by kernel_rfl) (by kernel_rfl) (λ x Q=>?_) (by
   rw[Af];exact Aa (BW _ (List.range 5)) (by decide+kernel))
  obtain⟨i,s,rfl⟩:=Al.mp Q;have y:=(E6 s).1;refine⟨[("k",.aa (.int (i:Nat))),("hours",.aa (AD a))],by kernel_rfl,?_⟩;exact .sub (b:=AD a) (.aa (by kernel_rfl)) (.aa (d:=.int (i:Nat)) (by kernel_rfl)) (λ _ _=>rfl) (Du (by rw[Af];omega) (by rw[Aw,Ej (d:=0) (by omega)];rfl))) .nil rfl) (by
   rw[m];show(EA _).map _=_;rw[JO];rfl)) (by kernel_rfl)) ?_
 have r:AN (AN (AN (Pb a b e f) "chosen" (.aa (.int (c:Nat)))) "inside" (.aa (BH (Bt c)))) "end" (.aa (.int (FW a c)))=FC a b e f c:=by kernel_rfl
 rw[r];have t:Pb a b e ((Bt c).foldl (D9 a b e c) f)=Ci rR (FC a b e ((Bt c).foldl (D9 a b e c) f) c):=by kernel_rfl
 exact Ex t (Cp (Hy H O B (.list (.aa (d:=BH (Bt c)) (by kernel_rfl)) rfl) (g _)))
theorem Zv (Q:GW w h C k mg mb)(V:Cc k A)(B:Hq w h 171 z N)(W:a.length=5)(Z:b.length=5)(e:c.length<=100)(f:∀o d,EO (Ds w 171).scope t d (Pb a b c o)=some (AN (Pb a b c o) "chosen" (.aa d))):∀(l:List Nat)(o:List (Option Int)),(∀q∈l,q<31)->o.length=32->
 Fi (W1 w h) A (Ds w 171).scope z N t bR [] (l.map λ(i:Nat)=>PV.int (1+(i:Int)*1)) (Pb a b c o) (.next (Pb a b c (JV a b c (l.map (1+·)) o))):=by
 intro l;induction l with
 |nil=>
  intro o s H;exact .nil DN
 |cons x m O=>
  intro o s H;have n:=s x Ac;have g:(1+(x:Int)*1)=((1+x:Nat):Int):=by omega
  show Fi _ _ _ _ _ _ _ _ (.int (1+(x:Int)*1)::_) _ _;rw[g];exact .next (f o _) (Yx Q V B W Z e H (by omega)) (O _ (λ q j=>s q (Ad _ j)) ((La ..).trans H))
theorem Ss (h:List Nat)(k:List (Option Int)):(JV hrs dus prs h k).length=k.length:=by
 induction h generalizing k with
 |nil=>rfl
 |cons c h o=>exact(o _).trans (La ..)
theorem gL {b a:List Int}{g:ExcName->Option Value}{c:List (Nat×Nat)}(I:EW w h)(T:Top i f g mg mb h)(o:GW w h C k mg mb)(Q:a.length=5)(z:b.length=5)(H:c.length<=100):Fa (W1 w h) (k+1) 171 (GP [AD a,AD b,E1 c] (Fo (Jx a b c))):=by
 refine Lx (Tk I T) λ args d e=>?_;unfold GP at e;split at e
 ·rename_i V;subst V;cases e;refine⟨rfl,λ A W m s B=>?_⟩;have Z:=λ q=>Zv o s B Q z H (t:=.Name "chosen" q) (λ st d=>by kernel_rfl) (List.range 31) (List.replicate 32 none) (λ p H=>AC.mp H) (by simp);have O:=Ss (hrs:=a) (dus:=b) (prs:=c) ((List.range 31).map (1+·)) (List.replicate 32 none)
  have j:Dd (.list ((JV a b c ((List.range 31).map (1+·)) (List.replicate 32 none)).map Fo)) (.int 31)=some (Fo (Jx a b c)):=Du (i:=31) (by rw[Af,O];decide) (by rw[Aw,Ej (d:=none) (by rw[O];decide)];rfl)
  generalize JV a b c ((List.range 31).map (1+·)) (List.replicate 32 none)=N at*
  conv in Bi P1 40=>whnf
  refine Rk o s B (d':=.list ((List.replicate 32 none).map Fo)) (.ai (xs:=[.none]) (.list (.cons (.af (d:=.none) (t:=Const.none) rfl) .nil rfl) (by decide+kernel)) .int (by kernel_rfl)) (by kernel_rfl) ?_;have l:AN ((["hours","dues","pairs"]:List Str).zip (([AD a,AD b,E1 c]:List PV).map CB.aa)) "best" (.own (.list ((List.replicate 32 none).map Fo)))=Pb a b c (List.replicate 32 none):=by kernel_rfl
  rw[l];refine Jl (Hy o s B (.range (ds:=[.int 1,.int 32]) rfl (.cons .int (.cons .int .nil rfl) rfl) (by kernel_rfl)) (Z _)) ?_;exact Hx (Fn o s B (.bh (.sub (b:=.list (N.map Fo)) (.own (by kernel_rfl)) .int (λ _ _=>rfl) j)))
 ·cases e
end
theorem IV:∀c<32,∀k∈Bt c,Bt (c-2^k)=(Bt c).filter (λ x=>!(x==k)):=by decide+kernel
theorem Hl:∀c<32,(Bt c).Nodup:=by decide+kernel
theorem Pe:∀c<32,Bt c=[]->c=0:=by decide+kernel
theorem F6 (hc:c<32)(hk:k∈Bt c):x∈Bt (c-2^k)↔x∈Bt c/\x≠k:=by
 rw[IV c hc k hk,AS];simp
theorem Mt (hk:a∈Bt c):c-2^a<c:=by
 have k:=(E6 hk).2;have h:0<2^a:=Nat.two_pow_pos a;exact Nat.sub_lt (AJ h k) h
theorem YB {f:Nat->Int}{l:List Nat}(s:l.Nodup)(o:k∈l):(l.map f).sum=((l.filter (λ x=>!(x==k))).map f).sum+f k:=by
 induction l with
 |nil=>exact absurd o AU
 |cons a l w=>
  have h:=Db.mp s;simp only[A0,List.sum_cons];by_cases q:a=k
  ·subst q;have e:(a::l).filter (λ x=>!(x==a))=l:=by
    refine Eq.trans (B8 (by simp)) ?_;exact Dk.mpr λ x H=>by
     have:x≠a:=λ q=>h.1 (q▸H);simpa using this
   rw[e,Int.add_comm]
  ·have N:k∈l:=(Ae.mp o).resolve_left λ z=>q z.symm;rw[B7 (by simpa using q),A0,List.sum_cons,w h.2 N,Int.add_assoc]
theorem QO (hc:c<32)(hk:k∈Bt c):FW hrs c=FW hrs (c-2^k)+hrs.getD k 0:=by
 unfold FW;rw[IV c hc k hk];exact YB (Hl c hc) hk
theorem GC:Ek a c k=true↔∀b,(k,b)∈a->b∉Bt c:=by
 refine Gc.trans (GX.trans (FH.trans ⟨λ H b h o=>H (k,b) h ?_,λ H p s q=>?_⟩))
 ·exact Ai.mpr ⟨decide_eq_true rfl,CD.mpr ⟨b,o,beq_self_eq_true b⟩⟩
 ·obtain⟨w,N⟩:=Ai.mp q;obtain⟨x,O,e⟩:=CD.mp N;exact H p.2 (of_decide_eq_true w▸s) (BB e▸O)
theorem Ov (h:Ek a c k=true)(o:∀x∈Bt d,x∈Bt c):Ek a d k=true:=
 GC.mpr λ b s w=>GC.mp h b s (o b w)
noncomputable def gt (h:List (Option Int))(c:Nat):Option Int:=h.getD c none
noncomputable def Uj (h:List (Nat×Nat))(T:Nat->Option Int)(c k:Nat):Prop:=Ek h c k=true/\(c-2^k=0\/(T (c-2^k)).isSome=true)
noncomputable def E4 (h k:List Int)(T:Nat->Option Int)(c o:Nat):Int:=
 if c-2^o=0 then FW h c-k.getD o 0 else max ((T (c-2^o)).getD 0) (FW h c-k.getD o 0)
theorem Pf (hc:c<a.length)(x:Option Int)(j:Nat):gt (a.set c x) j=if j=c then x else gt a j:=by
 unfold gt;rw[Ax,List.getElem?_set];split
 ·rename_i q;subst q;rw[if_pos rfl];first |rfl |(rw[if_pos hc];rfl)
 ·rename_i q;rw[if_neg (λ z=>q z.symm),Ax]
theorem YH (w:a.length=32)(hc:c<32)(hk:k∈Bt c):
 (∀j,j≠c->gt (D9 hrs dus prs c a k) j=gt a j)/\
 (Uj prs (gt a) c k->∃v,gt (D9 hrs dus prs c a k) c=some v/\v<=E4 hrs dus (gt a) c k/\(∀v0,gt a c=some v0->v<=v0)/\(v=E4 hrs dus (gt a) c k\/gt a c=some v))/\
 (¬Uj prs (gt a) c k->D9 hrs dus prs c a k=a):=by
 have N:(Ek prs c k&&(c-2^k==0||(a.getD (c-2^k) none).isSome))=true↔Uj prs (gt a) c k:=by
  rw[As,Cg,beq_iff_eq];rfl
 have Q:MP hrs dus a c k=E4 hrs dus (gt a) c k:=rfl;unfold D9;rw[Q];by_cases h:Uj prs (gt a) c k
 ·rw[if_pos (N.mpr h)];cases O:a.getD c none with
  |none=>
   refine⟨λ j H=>?_,λ _=>⟨E4 hrs dus (gt a) c k,?_,Ii _,λ v0 e=>?_,.inl rfl⟩,λ z=>absurd h z⟩
   ·skip
    rw[Pf (w▸hc),if_neg H]
   ·skip
    rw[Pf (w▸hc),if_pos rfl]
   ·have:gt a c=none:=O;exact BZ this e
  |some v=>
   have o:gt a c=some v:=O;simp only;by_cases s:E4 hrs dus (gt a) c k<v
   ·rw[if_pos s];refine⟨λ j H=>?_,λ _=>⟨E4 hrs dus (gt a) c k,?_,Ii _,λ v0 e=>?_,.inl rfl⟩,λ z=>absurd h z⟩
    ·rw[Pf (w▸hc),if_neg H]
    ·rw[Pf (w▸hc),if_pos rfl]
    ·obtain rfl:=AF o e;exact JD s
   ·rw[if_neg s];refine⟨λ j H=>rfl,λ _=>⟨v,o,DL.mp s,λ v0 e=>?_,.inr o⟩,λ z=>absurd h z⟩;obtain rfl:=AF o e;exact Ii _
 ·rw[if_neg (λ z=>h (N.mp z))];exact⟨λ _ _=>rfl,λ z=>absurd z h,λ _=>rfl⟩
theorem Gj {T U:Nat->Option Int}(h:T (c-2^k)=U (c-2^k)):Uj a T c k↔Uj a U c k:=by unfold Uj;rw[h]
theorem EJ {T U:Nat->Option Int}(h:T (c-2^k)=U (c-2^k)):E4 a b T c k=E4 a b U c k:=by unfold E4;rw[h]
theorem ZZ (hc:c<32):∀(l:List Nat)(s:List (Option Int)),(∀k∈l,k∈Bt c)->s.length=32->
 (∀j,j≠c->gt (l.foldl (D9 hrs dus prs c) s) j=gt s j)/\
 (∀v0,gt s c=some v0->∃v,gt (l.foldl (D9 hrs dus prs c) s) c=some v/\v<=v0)/\
 (∀v,gt (l.foldl (D9 hrs dus prs c) s) c=some v->gt s c=some v\/∃k∈l,Uj prs (gt s) c k/\v=E4 hrs dus (gt s) c k)/\
 (∀k∈l,Uj prs (gt s) c k->∃v,gt (l.foldl (D9 hrs dus prs c) s) c=some v/\v<=E4 hrs dus (gt s) c k):=by
 intro l;induction l with
 |nil=>
  intro s _ _;exact⟨λ _ _=>rfl,λ v0 e=>⟨v0,e,Ii _⟩,λ v e=>.inl e,λ k hk=>(by contradiction)⟩
 |cons k l H=>
  intro s N a;obtain⟨b,m,n⟩:=YH (hrs:=hrs) (dus:=dus) (prs:=prs) a hc (N k Ac);obtain⟨O,Q,V,W⟩:=H (D9 hrs dus prs c s k) (λ q o=>N q (Ad _ o)) ((KN ..).trans a);rw[JC];have same:∀q∈l,gt (D9 hrs dus prs c s k) (c-2^q)=gt s (c-2^q):=λ q o=>b _ (BN (Mt (N q (Ad _ o))));by_cases h:Uj prs (gt s) c k
  ·obtain⟨v1,d,p,r,t⟩:=m h;obtain⟨v2,f,g⟩:=Q v1 d;refine⟨λ j i=>(O j i).trans (b j i),λ v0 e=>⟨v2,f,AT g (r v0 e)⟩,λ v e=>?_,λ q o w=>?_⟩
   ·rcases V v e with z |⟨q,o,w,Z⟩
    ·obtain rfl:=AF d z;rcases t with z |z
     ·exact .inr ⟨k,Ac,h,z⟩
     ·exact .inl z
    ·exact .inr ⟨q,Ad _ o,(Gj (same q o)).mp w,Z.trans (EJ (same q o))⟩
   ·rcases Ae.mp o with rfl |o
    ·exact⟨v2,f,AT g p⟩
    ·obtain⟨v,e,l⟩:=W q o ((Gj (same q o)).mpr w);exact⟨v,e,by exact(EJ (same q o))▸l⟩
  ·rw[n h] at O Q V W ⊢;refine⟨O,Q,λ v e=>?_,λ q o w=>?_⟩
   ·rcases V v e with z |⟨q,o,w,Z⟩
    ·exact .inl z
    ·exact .inr ⟨q,Ad _ o,w,Z⟩
   ·rcases Ae.mp o with rfl |o
    ·exact absurd w h
    ·exact W q o w
structure bY (hrs dus:List Int)(prs:List (Nat×Nat))(T:Nat->Option Int)(c:Nat):Prop where
 av:∀v,T c=some v->∃k∈Bt c,Uj prs T c k/\v=E4 hrs dus T c k
 mn:∀k∈Bt c,Uj prs T c k->∃v,T c=some v/\v<=E4 hrs dus T c k
theorem bY.congr {T U:Nat->Option Int}(h:∀j≤c,T j=U j)(D:bY a b d T c):bY a b d U c:=
 ⟨λ v e=>by
  obtain⟨k,hk,o,s⟩:=D.av v ((h c (Ah _)).trans e);have q:=h (c-2^k) (CY _ _);exact⟨k,hk,(Gj q).mp o,s.trans (EJ q)⟩,λ k hk o=>by
  have q:=h (c-2^k) (CY _ _);obtain⟨v,e,l⟩:=D.mn k hk ((Gj q).mpr o);exact⟨v,(h c (Ah _)).symm.trans e,by rw[<-EJ q];exact l⟩⟩
variable {dus hrs:List Int}{prs:List (Nat×Nat)} in
theorem bM:∀(n m:Nat)(o:List (Option Int)),m+n=31->o.length=32->(∀c,1<=c->c<=m->bY hrs dus prs (gt o) c)->(∀c,m<c->gt o c=none)->
 ∀c,1<=c->c<=31->bY hrs dus prs (gt (JV hrs dus prs ((List.range' m n).map (1+·)) o)) c:=by
 intro n;induction n with
 |zero=>
  intro m o w H N O c Q V;exact N c Q (Aa V (AG w.symm))
 |succ n W=>
  intro m o w H N O c Q V;refine C6 λ A i=>?_;obtain⟨Z,B,p,r⟩:=ZZ (hrs:=hrs) (dus:=dus) (prs:=prs) (c:=1+m) (Eo (Aa (AG (BE 1 m)) (Aa (AK (DU (AP n)) m) (AG w)))) (Bt (1+m)) o (λ _ h=>h) H;refine i ?_;have t:=W (m+1) ((Bt (1+m)).foldl (D9 hrs dus prs (1+m)) o) (by rw[BV,BE 1 n];exact w) ((La ..).trans H) (λ s a b=>?_) (λ s d=>(Z s (Cm (Av (AG (BE 1 m)) d))).trans (O s (by exact Cx ‹_›))) c Q V
  ·exact t
  ·by_cases q:s=1+m
   ·subst q;have same:∀q∈Bt (1+m),gt o (1+m-2^q)=gt ((Bt (1+m)).foldl (D9 hrs dus prs (1+m)) o) (1+m-2^q):=λ q u=>(Z _ (BN (Mt u))).symm;refine⟨λ v e=>?_,λ k hk f=>?_⟩
    ·rcases p v e with z |⟨k,hk,f,x⟩
     ·replace z:=Eq.trans (Eq.symm (O _ (Ht (DV m) (BE m 1)))) z;contradiction
     ·exact⟨k,hk,(Gj (same k hk)).mp f,x.trans (EJ (same k hk))⟩
    ·obtain⟨v,e,l⟩:=r k hk ((Gj (same k hk)).mpr f);exact⟨v,e,by rw[<-EJ (same k hk)];exact l⟩
   ·have g:s<1+m:=Nat.lt_of_le_of_ne (Aa b (AG (BE m 1))) q;exact(N s a (Nat.le_of_lt_succ (Ht g (BE 1 m)))).congr λ j y=>(Z j (BN (Av y g))).symm
theorem bO:∃T:Nat->Option Int,(∀c,1<=c->c<=31->bY hrs dus prs T c)/\Jx hrs dus prs=T 31:=
 ⟨gt (JV hrs dus prs ((List.range 31).map (1+·)) (List.replicate 32 none)),by
  have:=bM (hrs:=hrs) (dus:=dus) (prs:=prs) 31 0 (List.replicate 32 none) rfl (by rfl) (λ c h k=>by omega) (λ c hc=>by
   unfold gt;rw[Ax,List.getElem?_replicate];split<;>rfl)
  exact(List.range_eq_range')▸this,rfl⟩
section
variable {c:Nat}{g:Array GenState} in
noncomputable def Ok (h o:List Int):Nat->List Nat->List Int
 |_,[]=>[]
 |c,k::g=>(FW h c-o.getD k 0)::Ok h o (c-2^k) g
noncomputable def EK (o:List (Nat×Nat))(h:List Nat)(c:Nat):Option Nat:=h.find? λ k=>(Bt c).any (·==k)&&Ek o c k
variable {c n:Nat} in
noncomputable def HF (o:List (Nat×Nat))(h:List Nat):Nat->Nat->List Nat×Nat
 |0,c=>([],c)
 |n+1,c=>match EK o h c with
  |none=>([],c)
  |some k=>(k::(HF o h n (c-2^k)).1,(HF o h n (c-2^k)).2)
theorem Et (o:List (Nat×Nat))(h:List Nat)(n c:Nat):HF o h (n+1) c=(match EK o h c with |none=>([],c) |some k=>(k::(HF o h n (c-2^k)).1,(HF o h n (c-2^k)).2)):=rfl
theorem Md (x:Nat):x∉Bt 0:=λ h=>by
 rw[show Bt 0=[] from by decide] at h;cases h
theorem DS (h:EK a b c=some k):k∈Bt c/\Ek a c k=true:=by
 have:=List.find?_some h;rw[As,CD] at this;obtain⟨⟨x,o,e⟩,s⟩:=this;have e:x=k:=by simpa using e
 exact⟨e▸o,s⟩
theorem KX (h:∀k<5,k∈a)(o:EK b a c=none)(hk:k∈Bt c):Ek b c k=false:=by
 have:=List.find?_eq_none.mp o k (h k (E6 hk).1);cases q:Ek b c k with
 |false=>rfl
 |true=>
  simp only[q,Gp] at this;exact absurd (CD.mpr ⟨k,hk,by exact if_pos rfl⟩) this
theorem Sc {b:Type}{R:b->b->Prop}(H:∀a,R a a){q:b->Bool}:∀{l:List b},l.Pairwise R->∀{k:b},l.find? q=some k->∀j∈l,q j=true->R k j:=by
 intro l;induction l with
 |nil=>
  intro _ k h _ o _;exact(by contradiction)
 |cons a l w=>
  intro s k h j o N;obtain⟨O,Q⟩:=Hn.mp s;simp only[List.find?_cons] at h
  (try clear s;try clear k;try clear l;try clear R;try clear b)
  cases e:q a with
  |true=>
   rw[e] at h;simp only[Option.some.injEq] at h
   (try clear s;try clear k;try clear l;try clear a;try clear q;try clear R;try clear b)
   subst h
   (try clear s;try clear k;try clear l;try clear a;try clear q;try clear R;try clear b)
   rcases Ae.mp o with rfl |o
   ·exact H _
   ·exact O _ o
  |false=>
   simp only[e] at h
   (try clear O;try clear s;try clear k;try clear l;try clear a;try clear _;try clear q;try clear H;try clear R;try clear b)
   rcases Ae.mp o with rfl |o
   ·cases Eq.trans (Eq.symm e) N
   ·exact w Q h j o N
theorem Wn {c j:Nat}{a:List Int}{d:List (Nat×Nat)}{b:List Nat}(o:b.Pairwise λ i j=>a.getD j 0<=a.getD i 0)(s:∀k<5,k∈b)(w:EK d b c=some k)(h:j∈Bt c)(H:Ek d c j=true):a.getD j 0<=a.getD k 0:=
 Sc (R:=λ i j=>a.getD j 0<=a.getD i 0) (λ _=>Ii _) o w j (s j (E6 h).1) (by rw[H,Gp];exact CD.mpr ⟨j,h,by simp⟩)
theorem WO {T:Nat->Option Int}(D:∀c,1<=c->c<=31->bY a d b T c)(t:∀k,0<=a.getD k 0):∀c,1<=c->c<=31->∀v,T c=some v->∀k∈Bt c,Ek b c k=true->(c-2^k=0\/∃u,T (c-2^k)=some u/\u<=v):=by
 intro c;induction c using Nat.strongRecOn with
 |_ c y=>
 intro A N v B k hk C;refine C6 λ gg E=>?_;obtain⟨j,O,⟨G,m⟩,s⟩:=(D c A N).av v B;refine E ?_;have h:=Eo N;by_cases q:k=j
 ·subst q;by_cases z:c-2^k=0
  ·exact .inl z
  ·obtain⟨u,w⟩:=Cq.mp (m.resolve_left z);refine .inr ⟨u,w,?_⟩;unfold E4 at s;rw[if_neg z,w] at s;rw[s];exact Int.le_max_left _ _
 ·by_cases n:c-2^k=0
  ·exact .inl n
  right;have H:k∈Bt (c-2^j):=(F6 h O).mpr ⟨hk,q⟩;have Q:j∈Bt (c-2^k):=(F6 h hk).mpr ⟨O,λ e=>q e.symm⟩;have V:=Mt O;have I:=Mt hk;have J:=(E6 H).2;have W:c-2^j≠0:=Cm (AJ (Nat.two_pow_pos k) J);obtain⟨u,w⟩:=Cq.mp (m.resolve_left W);unfold E4 at s;rw[if_neg W,w] at s;have L:u<=v:=by rw[s];exact Int.le_max_left _ _
  have M:FW a c-d.getD j 0<=v:=by rw[s];exact Int.le_max_right _ _
  have R:Ek b (c-2^k) j=true:=Ov G λ x Z=>((F6 h hk).mp Z).1;have p:c-2^k-2^j=c-2^j-2^k:=Nat.sub_right_comm ..;have S:=Hr n;have U:=QO (hrs:=a) h hk;have f:=t k;have r:=y (c-2^j) V (Hr W) (Aa (CY ..) N) u w k H (Ov C λ x Z=>((F6 h O).mp Z).1);have Y:Uj b T (c-2^k) j:=⟨R,by
   rw[p];rcases r with z |⟨u',g,_⟩
   ·exact .inl z
   ·exact .inr (by rw[g];rfl)⟩
  obtain⟨v',i,o⟩:=(D (c-2^k) S (Aa (CY ..) N)).mn j Q Y;refine⟨v',i,?_⟩;unfold E4 at o
  replace o:=(p)▸o
  have l:FW a (c-2^k)-d.getD j 0<=v:=AT (Int.sub_le_sub_right (AT (Int.le_add_of_nonneg_right f) (Int.le_of_eq U.symm)) _) M;rcases r with z |⟨u',g,lu⟩
  ·rw[if_pos z] at o;exact AT o l
  ·by_cases z:c-2^j-2^k=0
   ·rw[if_pos z] at o;exact AT o l
   ·rw[if_neg z,g] at o;exact AT o (Int.max_le.mpr ⟨AT lu L,l⟩)
variable {a:Addr}{l:List Env} in
noncomputable def O5:List Int->Option Int
 |[]=>none
 |a::l=>some (match O5 l with |none=>a |some b=>max b a)
theorem fE {T:Nat->Option Int}(D:∀c,1<=c->c<=31->bY e d f T c)(t:∀k,0<=e.getD k 0)(y:a.Pairwise λ i j=>d.getD j 0<=d.getD i 0)(m:∀k<5,k∈a):∀(n c:Nat),(Bt c).length<=n->1<=c->c<=31->∀v,T c=some v->(HF f a n c).2=0/\O5 (Ok e d c (HF f a n c).1)=some v:=by
 intro n;induction n with
 |zero=>
  intro c W w h v H;have:Bt c=[]:=B6.mp (Ic.mp W);exact absurd (Pe c (Eo h) this) (Cm w)
 |succ n Z=>
  intro c W w h v H;have N:=Eo h;obtain⟨j,p,⟨V,I⟩,A⟩:=(D c w h).av v H;rw(occs:=.all) [Et];cases O:EK f a c with
  |none=>replace V:=Eq.trans (Eq.symm (KX m O p)) V;exact Bool.noConfusion V
  |some k=>
   simp only;obtain⟨hk,g⟩:=DS O;have Q:=Wn y m O p V;have len:(Bt (c-2^k)).length<=n:=by
    have B:=Hl c N;have:(Bt c).filter (λ x=>!(x==k))=(Bt c).erase k:=by rw[B.erase_eq_filter];rfl
    rw[(IV c N k hk),this,E9 hk];exact Nat.sub_le_of_le_add W
   have q:FW e c-d.getD j 0<=v:=by
    rw[A];unfold E4;split
    ·exact Ii _
    ·exact Int.le_max_right _ _
   by_cases z:c-2^k=0
   ·have C:HF f a n (c-2^k)=([],0):=by
     rw[z];cases n with
     |zero=>rfl
     |succ n=>
      rw(occs:=.all) [Et];cases O:EK f a 0 with
      |none=>rfl
      |some x=>exact absurd (DS O).1 (Md x)
    rw[C];refine⟨rfl,?_⟩;obtain⟨E,o,s⟩:=(D c w h).mn k hk ⟨g,.inl z⟩;obtain rfl:=AF H o;unfold E4 at s;rw[if_pos z] at s;exact congrArg some (Eh (AT (Int.sub_le_sub_left Q _) q) s)
   ·obtain⟨u,l,G⟩:=(WO D t c w h v H k hk g).resolve_left z;have r:=Z (c-2^k) len (Hr z) (Aa (CY ..) h) u l;refine⟨r.1,?_⟩;show some (match O5 (Ok e d (c-2^k) (HF f a n (c-2^k)).1) with |none=>_ |some b=>max b (FW e c-d.getD k 0))=some v;rw[r.2];obtain⟨E,o,s⟩:=(D c w h).mn k hk ⟨g,.inr (by rw[l];rfl)⟩;obtain rfl:=AF H o;unfold E4 at s;rw[if_neg z,l] at s;show some (max u (FW e c-d.getD k 0))=some v;have:max u (FW e c-d.getD k 0)<=v:=Int.max_le.mpr ⟨G,AT (Int.sub_le_sub_left Q _) q⟩;exact congrArg some (Eh this s)
theorem oK {T:Nat->Option Int}(D:∀c,1<=c->c<=31->bY b d a T c):∀(n c:Nat),1<=c->c<=31->(HF a line n c).2=0->(T c).isSome=true:=by
 intro n;induction n with
 |zero=>
  intro c s w h;have:c=0:=h;omega
 |succ n H=>
  intro c s w h;rw(occs:=.all) [Et] at h;cases N:EK a line c with
  |none=>
   replace h:=(N)▸h
   have:c=0:=h;omega
  |some k=>
   rw[N] at h;have o:=DS N;have Q:(HF a line n (c-2^k)).2=0:=h;have V:=Mt o.1;by_cases z:c-2^k=0
   ·obtain⟨v,O,_⟩:=(D c s w).mn k o.1 ⟨o.2,.inl z⟩;rw[O];rfl
   ·obtain⟨v,O,_⟩:=(D c s w).mn k o.1 ⟨o.2,.inr (H _ (by exact Hr ‹_›) (by omega) Q)⟩;rw[O];rfl
end
noncomputable def nm (i:Nat):Str:=Do.getD i ""
noncomputable def IW (c i:Nat):Bool:=(Bt c).any (·==i)
noncomputable def DC (l:List Nat):List (Nat×Nat):=l.zip l.tail
noncomputable def Dz (h:List (List Nat)):List (Nat×Nat):=h.flatMap DC
noncomputable def De (h:List Nat)(k:List (List Nat))(c:Nat):List (List Nat):=h.map (λ i=>if IW c i then[i] else[])++k.map λ o=>o.reverse.filter (IW c)
noncomputable def Dh (R:List (List Nat)):List (List Str):=R.map (List.map nm)
theorem F7:IW c i=true↔i∈Bt c:=by
 unfold IW;rw[CD];exact⟨λ⟨x,k,e⟩=>by
  have e:x=i:=by simpa using e
  exact e▸k,λ h=>⟨i,h,by simp⟩⟩
theorem MC:∀i<5,∀j<5,nm i=nm j->i=j:=by decide+kernel
theorem KY (h:(a,b)∈DC l):a∈l/\b∈l:=(JA h).imp_right List.mem_of_mem_tail
theorem Lb {q:Nat->Bool}:∀{a:Nat}{r:List Nat},(∀p∈DC (a::r),q p.1=false->q p.2=false)->q a=false->(a::r).filter q=[]:=by
 intro a r
 revert a
 induction r with
 |nil=>
  intro a h k;rw[B8 (by simp[k])];rfl
 |cons b r o=>
  intro a h k;rw[B8 (by simp[k])];exact o (λ p s=>h p (Ad _ s)) (h (a,b) Ac k)
theorem Sp {q:Nat->Bool}{l:List Nat}(H:∀p∈DC l,q p.1=false->q p.2=false):i∈(l.filter q).dropLast↔∃b,(i,b)∈DC l/\q b=true:=by
 induction l with
 |nil=>exact⟨λ z=>absurd z AU,λ⟨_,z,_⟩=>absurd z AU⟩
 |cons a r O=>
  cases e:q a with
  |false=>
   have N:=Lb H e;rw[N];refine⟨λ z=>absurd z AU,λ⟨h,k,o⟩=>?_⟩;have:h∈(a::r).filter q:=AS.mpr ⟨(KY k).2,o⟩;rw[N] at this;exact absurd this AU
  |true=>
   rw[B7 e];cases r with
   |nil=>exact⟨λ z=>absurd z AU,λ⟨_,z,_⟩=>absurd z AU⟩
   |cons b r=>
    have w:∀p∈DC (b::r),q p.1=false->q p.2=false:=λ p Q=>H p (Ad _ Q);cases s:q b with
    |false=>
     rw[Lb w s];refine⟨λ z=>absurd z AU,λ⟨h,k,o⟩=>?_⟩;have:h∈(b::r).filter q:=AS.mpr ⟨((Ae.mp k).elim (λ y=>(Prod.mk.inj y).2▸Ac) λ y=>(KY y).2),o⟩;rw[Lb w s] at this;exact absurd this AU
    |true=>
     rw[List.dropLast_cons_of_ne_nil (by rw[B7 s];exact List.cons_ne_nil _ _),Ae,O w];refine⟨λ z=>z.elim (λ z=>⟨b,z▸Ac,s⟩) λ⟨h,k,o⟩=>⟨h,Ad _ k,o⟩,λ⟨h,k,o⟩=>(Ae.mp k).imp (λ y=>(Prod.mk.inj y).1) λ y=>⟨h,y,o⟩⟩
noncomputable def Yu (h:List (Nat×Nat))(c:Nat):Prop:=∀p∈h,p.1∉Bt c->p.2∉Bt c
theorem Yu.step (w:Yu a c)(hc:c<32)(hk:k∈Bt c)(H:Ek a c k=true):Yu a (c-2^k):=λ p o s h=>by
 rw[F6 hc hk] at s h;by_cases q:p.1=k
 ·exact GC.mp H p.2 (by rw[<-q];exact o) h.1
 ·exact w p o (λ z=>s ⟨z,q⟩) h.1
section
noncomputable def HX (L:List (List Nat))(i:Nat):Bool:=L.all λ t=>!(t.tail.contains i)
theorem Ou (hc:Yu (Dz a) c):HX (De d a c) i=Ek (Dz a) c i:=by
 rw[BO,GC]
 delta HX De
 rw[List.all_append,As,AE,AE];have s:∀o∈a,(i∈(o.reverse.filter (IW c)).tail↔∃b,(i,b)∈DC o/\IW c b=true):=λ o k=>by
  rw[List.filter_reverse,List.tail_reverse,List.mem_reverse];refine Sp λ p w=>?_;have:=hc p (IM.mpr ⟨o,k,w⟩);intro H;cases e:IW c p.2 with
  |false=>rfl
  |true=>exact absurd (F7.mp e) (this λ z=>by replace H:=Eq.trans (Eq.symm (F7.mpr z)) H;exact Bool.noConfusion H)
 constructor
 ·rintro⟨_,V⟩ b N O;obtain⟨o,k,w⟩:=IM.mp N;have:=V _ (Al.mpr ⟨o,k,rfl⟩);have z:=(s o k).mpr ⟨b,w,F7.mpr O⟩;simp at this;exact this (by simpa using z)
 ·intro h;refine⟨λ t Q=>?_,λ t Q=>?_⟩
  ·obtain⟨x,_,rfl⟩:=Al.mp Q;split<;>rfl
  ·obtain⟨o,k,rfl⟩:=Al.mp Q;cases e:(o.reverse.filter (IW c)).tail.contains i with
   |false=>rfl
   |true=>
    obtain⟨b,N,W⟩:=(s o k).mp (by simpa using e);exact absurd (F7.mp W) (h b (IM.mpr ⟨o,k,N⟩))
noncomputable def IA (R:List (List Nat)):List (List Nat):=R.filter λ t=>!t.isEmpty
theorem R9:HX (IA R) i=HX R i:=by
 delta HX IA
 rw[BO,AE,AE];constructor
 ·intro h t k;cases t with
  |nil=>rfl
  |cons a t=>exact h _ (AS.mpr ⟨k,rfl⟩)
 ·intro h t k;exact h t (AS.mp k).1
noncomputable def G4 (R:List (List Nat)):List Nat:=R.filterMap List.head?
theorem Ue (hc:Yu (Dz d) c)(o:∀k<5,k∈b):(G4 (De b d c)).find? (HX (De b d c))=EK (Dz d) b c:=by
 have w:G4 (b.map (λ i=>if IW c i then[i] else[]))=b.filter (IW c):=by
  unfold G4;clear o;induction b with
  |nil=>rfl
  |cons a l s=>
   cases e:IW c a with
   |true=>rw[B7 e,List.filterMap_cons_some (b:=a) (by simp[e]),s]
   |false=>rw[B8 (by simp[e]),List.filterMap_cons_none (by simp[e]),s]
 rw[(funext λ i=>Ou hc:HX (De b d c)=Ek (Dz d) c)]
 delta De G4
 rw[List.filterMap_append,List.find?_append];show(List.find? _ (G4 (b.map (λ i=>if IW c i then[i] else[])))).or _=_;rw[w,List.find?_filter];have H:(b.find? λ a=>decide (IW c a=true/\Ek (Dz d) c a=true))=EK (Dz d) b c:=by
  simp only[EK,IW];congr 1
  funext a
  rw[BO];simp
 rw[H];cases N:EK (Dz d) b c with
 |some k=>rfl
 |none=>
  show List.find? _ _=none;rw[List.find?_eq_none];intro x O;refine C6 λ Z Q=>?_;obtain⟨t,V,h⟩:=List.mem_filterMap.mp O;obtain⟨f,W,rfl⟩:=Al.mp V;refine Q ?_;have:=KX o N (F7.mp (AS.mp (List.mem_of_mem_head? h)).2);simp[this]
noncomputable def PW (h:Nat)(t:List Nat):List Nat:=if t.head? =some h then t.tail else t
theorem PU (o:k∉t.tail):PW k t=t.filter (λ x=>!(x==k)):=by
 have h:∀{t:List Nat},k∉t->t.filter (λ x=>!(x==k))=t:=λ{t} o=>Dk.mpr λ x s=>by
  have:x≠k:=λ q=>o (q▸s);simpa using this
 cases t with
 |nil=>rfl
 |cons a t=>
  unfold PW;by_cases q:a=k
  ·subst q;rw[if_pos (by rfl),B8 (by simp)];exact(h o).symm
  ·rw[if_neg (by simpa using q),B7 (by simpa using q)];rw[(h o:t.filter (λ x=>!(x==k))=t)]
theorem Wl (h:c<32)(hk:k∈Bt c)(o:HX (De a b c) k=true):(De a b c).map (PW k)=De a b (c-2^k):=by
 have H:∀x,IW (c-2^k) x=(IW c x&&!(x==k)):=λ x=>by
  rw[BO,F7,F6 h hk,As,F7];simp
 unfold HX at o;rw[AE] at o;rw[BR,AZ,AZ];congr 1
 ·apply By;intro i O;show PW k (if IW c i then[i] else[])=if IW (c-2^k) i then[i] else[]
  rw[H];by_cases q:i=k
  ·(try clear O;try clear hk;try clear h)
   subst q;cases e:IW c i<;>simp[PW]
  ·cases e:IW c i<;>simp[PW,q]
 ·apply By;intro s w;show PW k (s.reverse.filter (IW c))=s.reverse.filter (IW (c-2^k));have N:=o _ (At _ (Al.mpr ⟨s,w,rfl⟩));rw[PU (λ z=>by simp at N;exact N (by simpa using z)),List.filter_filter];apply C8;intro x _;simp only[H,Bool.and_comm]
end
section
structure Lf (line:List Nat)(chs:List (List Nat)):Prop where
 all:∀k<5,k∈line
 lt:∀k∈line,k<5
 ch:∀ch∈chs,∀x∈ch,x<5
theorem L9 (L:Lf a b):∀t∈De a b c,∀x∈t,x<5:=λ t o x h=>by
 unfold De at o;rcases Ao.mp o with z |z
 ·obtain⟨i,s,rfl⟩:=Al.mp z;split at h
  ·rw[BI.mp h];exact L.lt i s
  ·cases h
 ·obtain⟨w,k,rfl⟩:=Al.mp z;exact L.ch w k x (by simpa using(AS.mp h).1)
theorem O9 (R:List (List Nat)):E3 (Dh R)=Dh (IA R):=by
 unfold E3 Dh IA;rw[Ef];congr 1;apply C8;intro t _;show(!(t.map nm).isEmpty)= !t.isEmpty;cases t<;>rfl
theorem LA {i:Nat}{t:List Nat}(o:∀x∈t,x<5)(s:i<5):(t.map nm).contains (nm i)=t.contains i:=by
 rw[BO,Dw,Dw,Al];exact⟨λ⟨x,k,e⟩=>MC x (o x k) i s e▸k,λ h=>⟨i,h,rfl⟩⟩
theorem UQ (o:∀t∈R,∀x∈t,x<5)(s:i<5):G5 (Dh R) (nm i)=HX R i:=by
 unfold G5 HX Dh;rw[List.all_map];have:∀t∈R,(!((t.map nm).tail.contains (nm i)))= !(t.tail.contains i):=λ t k=>by
  rw[<-List.map_tail,LA (λ x w=>o t k x (List.mem_of_mem_tail w)) s]
 rw[BO,AE,AE];exact⟨λ h t k=>(this t k).symm.trans (h t k),λ h t k=>(this t k).trans (h t k)⟩
theorem Xy {all:List (List Str)}{q:Nat->Bool}{R:List (List Nat)}(k:∀t∈R,∀x∈t,G5 all (nm x)=q x):CW all (Dh R)=((G4 R).find? q).map nm:=by
 induction R with
 |nil=>exact rfl
 |cons t R h=>
  have h:=h λ t o=>k t (Ad _ o);cases t with
  |nil=>exact h
  |cons x t=>
   show(if G5 all (nm x) then some (nm x) else CW all (Dh R))=((x::G4 R).find? q).map nm;rw[k _ Ac x Ac,List.find?_cons];cases q x with
   |true=>rfl
   |false=>exact h
theorem R5 (R:List (List Nat)):G4 (IA R)=G4 R:=by
 unfold G4 IA;induction R with
 |nil=>rfl
 |cons t R h=>
  cases t with
  |nil=>exact h
  |cons a t=>exact congrArg (a::·) h
theorem dZ (h:∀t∈R,∀x∈t,x<5)(hk:k<5):(Dh R).map (Iv (nm k))=Dh (R.map (PW k)):=by
 unfold Dh;rw[AZ,AZ];apply By;intro t o;cases t with
 |nil=>rfl
 |cons a t=>
  show(if some (nm a)=some (nm k) then t.map nm else nm a::t.map nm)=(if some a=some k then t else a::t).map nm;by_cases q:a=k
  ·subst q;rw[if_pos rfl,if_pos rfl]
  ·rw[if_neg (λ z=>q (MC a (h _ o a Ac) k hk (Au z))),if_neg (λ z=>q (Au z))];rfl
theorem ZW:∀n,HF b a n 0=([],0)
 |0=>rfl
  |n+1=>by
   rw(occs:=.all) [Et];cases h:EK b a 0 with
   |none=>rfl
   |some x=>exact absurd (DS h).1 (Md x)
theorem K6:(E3 (Dh (De b c 0))).isEmpty=true:=by
 rw[O9];have:IA (De b c 0)=[]:=by
  unfold IA;rw[FH];intro t h;have:t=[]:=by
   cases t with
   |nil=>rfl
   |cons a t=>
    exfalso;unfold De at h;rcases Ao.mp h with z |z
    ·obtain⟨i,s,e⟩:=Al.mp z;have:IW 0 i=false:=by rfl
     (rw[this] at e;cases e)
    ·obtain⟨k,o,e⟩:=Al.mp z;have:a∈k.reverse.filter (IW 0):=e▸Ac;have:=(AS.mp this).2;cases this
  rw[this];simp
 rw[this];rfl
theorem Sb (L:Lf a b)(h:Yu (Dz b) c):CW (E3 (Dh (De a b c))) (E3 (Dh (De a b c)))=(EK (Dz b) a c).map nm:=by
 rw[O9,Xy (q:=HX (De a b c)) (λ t k x o=>by
  have s:=(AS.mp k).1;rw[UQ (R:=IA (De a b c)) (λ t k x o=>L9 L t (AS.mp k).1 x o) (L9 L t s x o),R9]),R5,Ue h L.all]
theorem aV (L:Lf b d):∀(n c:Nat)(h:List Str),(Bt c).length<=n->c<32->Yu (Dz d) c->
 LU (n+1) (Dh (De b d c)) h=some (if(HF (Dz d) b n c).2=0 then some (h++(HF (Dz d) b n c).1.map nm) else none,Dh (De b d (HF (Dz d) b n c).2)):=λ n=>by
 induction n with
 |zero=>
  intro c h s hc _;have:c=0:=Pe c hc (B6.mp (Ic.mp s));subst this;rw[I3];rw[if_pos K6];show _=some (some (h++[]),_);rw[CN];rfl
 |succ n H=>
  intro c h s hc o;by_cases w:c=0
  ·subst w;have:=H 0 h (by rw[show Bt 0=[] from by decide];exact AP _) hc o;rw[ZW] at this ⊢;rw[<-this];rw(occs:=.all) [I3,I3];rw[if_pos K6,if_pos K6]
  have Q:(E3 (Dh (De b d c))).isEmpty=false:=by
   rw[O9];obtain⟨i,N⟩:∃i,i∈Bt c:=by
    cases e:Bt c with
    |nil=>exact absurd (Pe c hc e) w
    |cons a l=>exact⟨a,Ac⟩
   have:[i]∈IA (De b d c):=AS.mpr ⟨AO _ (Al.mpr ⟨i,L.all i (E6 N).1,by rw[F7.mpr N];rfl⟩),rfl⟩;cases e:IA (De b d c) with
   |nil=>(rw[e] at this;cases this)
   |cons a l=>rfl
  rw[I3,Q,Sb L o];simp only[A3,if_false];rw(occs:=.all) [Et];cases V:EK (Dz d) b c with
  |none=>
   show some (none,_)=some (if c=0 then _ else none,_);rw[if_neg w]
  |some k=>
   obtain⟨hk,O⟩:=DS V;have len:(Bt (c-2^k)).length<=n:=by
    have e:=IV c hc k hk;have W:=Hl c hc;have:(Bt c).filter (λ x=>!(x==k))=(Bt c).erase k:=by rw[W.erase_eq_filter];rfl
    rw[e,this,E9 hk];exact Nat.sub_le_of_le_add s
   show LU (n+1) ((Dh (De b d c)).map (Iv (nm k))) (h++[nm k])=_;rw[dZ (L9 L) (E6 hk).1,Wl hc hk ((Ou o).trans O),H _ _ len (Av (CY _ _) hc) (o.step hc hk O)];show some (if(HF (Dz d) b n (c-2^k)).2=0 then some ((h++[nm k])++(HF (Dz d) b n (c-2^k)).1.map nm) else none,_)=_;rw[Bg];rfl
end
section
noncomputable def UM (h:List (Nat×Nat))(st:List Nat)(n:Nat):Bool:=h.any λ p=>decide (p.1=n)&&st.any (·==p.2)
noncomputable def It (h:List (Nat×Nat))(st:List Nat):List Nat:=st.filter (UM h st)
variable {n:Nat}{st:Stmt} in
noncomputable def FT (h:List (Nat×Nat)):Nat->List Nat->List Nat
 |0,st=>st
 |n+1,st=>FT h n (It h st)
noncomputable def Ea (h:List (Nat×Nat)):List (Str×Str):=h.map λ p=>(nm p.1,nm p.2)
theorem Nz {a:Type} [DecidableEq a] [BEq a] [LawfulBEq a] {l:List a}{x:a}:l.any (·==x)=decide (x∈l):=by
 rw[BO,CD,decide_eq_true_iff];exact⟨λ⟨y,k,e⟩=>(BB e)▸k,λ h=>⟨x,h,by exact beq_self_eq_true _⟩⟩
theorem Tc {n:Nat}{c:List (Nat×Nat)}{st:List Nat}:UM c st n=true↔∃b,(n,b)∈c/\b∈st:=by
 unfold UM;rw[CD];constructor
 ·rintro⟨⟨a,b⟩,h,e⟩;rw[Nz,As,decide_eq_true_iff,decide_eq_true_iff] at e;exact⟨b,e.1▸h,e.2⟩
 ·rintro⟨b,h,k⟩;exact⟨_,h,by refine Eq.trans (congrArg _ (Nz)) ?_;simpa using k⟩
theorem Wy {i:Nat}{st:List Nat}(o:∀x∈st,x<5)(s:i<5):nm i∈st.map nm↔i∈st:=by
 rw[Al];exact⟨λ⟨x,k,e⟩=>MC x (o x k) i s e▸k,λ h=>⟨i,h,rfl⟩⟩
theorem fQ {n:Nat}{c:List (Nat×Nat)}{st:List Nat}(w:∀x∈st,x<5)(o:∀p∈c,p.1<5/\p.2<5)(H:n<5):Op (Ea c) (st.map nm) (nm n)=UM c st n:=by
 delta Op UM Ea
 rw[List.any_map,BO,CD,CD];have:∀p∈c,((decide (nm p.1=nm n)&&(st.map nm).any (·==nm p.2))=true↔(decide (p.1=n)&&st.any (·==p.2))=true):=λ p s=>by
  simp only[Nz,Nz,As,As,decide_eq_true_iff,decide_eq_true_iff,decide_eq_true_iff,decide_eq_true_iff,Wy w (o p s).2];exact⟨λ⟨a,b⟩=>⟨MC _ (o p s).1 _ H a,b⟩,λ⟨a,b⟩=>⟨congrArg nm a,b⟩⟩
 exact⟨λ⟨p,h,k⟩=>⟨p,h,(this p h).mp k⟩,λ⟨p,h,k⟩=>⟨p,h,(this p h).mpr k⟩⟩
theorem VJ (s:∀p∈a,p.1<5/\p.2<5):∀(n:Nat)(st:List Nat),(∀x∈st,x<5)->Ft (Ea a) n (st.map nm)=(FT a n st).map nm:=by
 intro n;induction n with
 |zero=>
  intro st h;exact rfl
 |succ n k=>
  intro st h;have e:Lk (Ea a) (st.map nm)=(It a st).map nm:=by
   unfold Lk It;rw[Ef];congr 1;apply C8;intro x o;exact fQ h s (h x o)
  show Ft (Ea a) n (Lk (Ea a) (st.map nm))=_;rw[e];exact k _ λ x o=>h x (AS.mp o).1
theorem Rt {a:List (Nat×Nat)}{st:List Nat}(k:It a st=st):∀n,FT a n st=st:=by
 intro n;induction n with
 |zero=>
  exact rfl
 |succ n h=>
  show FT a n (It a st)=st;rw[k];exact h
theorem PJ:∀(n:Nat)(st:List Nat),st.length<=n->It prs (FT prs n st)=FT prs n st:=by
 intro n;induction n with
 |zero=>
  intro st h;have:=B6.mp (Ic.mp h);subst this;rfl
 |succ n k=>
  intro st h;by_cases q:(It prs st).length<=n
  ·exact k (It prs st) q
  ·have e:It prs st=st:=Dk.mpr (List.length_filter_eq_length_iff.mp (by show(It prs st).length=_;have:(It prs st).length<=st.length:=(BW (UM prs st) st);omega));rw[Rt e,e]
theorem Rs {a:List (Nat×Nat)}{R:List Nat}(s:∀x∈R,∃b,(x,b)∈a/\b∈R):∀(n:Nat)(st:List Nat),(∀x∈R,x∈st)->∀x∈R,x∈FT a n st:=by
 intro n;induction n with
 |zero=>
  intro st h;exact h
 |succ n k=>
  intro st h;exact k _ λ x o=>AS.mpr ⟨h x o,Tc.mpr (by obtain⟨b,w,H⟩:=s x o;exact⟨b,w,h b H⟩)⟩
theorem Mv:∀(n:Nat)(st:List Nat),∀x∈FT a n st,x∈st:=by
 intro n;induction n with
 |zero=>
  intro st x h;exact h
 |succ n k=>
  intro st x h;exact(AS.mp (k _ x h)).1
theorem fS {a:List (Nat×Nat)}{d:List Nat}{S:List Nat}(H:∀x∈S,∃b,(x,b)∈a/\b∈S):∀(n c:Nat),c<32->(∀x∈S,x∈Bt c)->∀x∈S,x∈Bt (HF a d n c).2:=by
 intro n;induction n with
 |zero=>
  intro c hc h;exact h
 |succ n o=>
  intro c hc h;rw(occs:=.all) [Et];cases N:EK a d c with
  |none=>exact h
  |some k=>
   have s:=DS N;refine o _ (Av (CY _ _) hc) λ x w=>(F6 hc s.1).mpr ⟨h x w,λ q=>?_⟩;obtain⟨b,O,Q⟩:=H x w;exact GC.mp s.2 b (q▸O) (h b Q)
theorem fT (O:∀k<5,k∈a):∀(n c:Nat),(Bt c).length<=n->c<32->∀x∈Bt (HF d a n c).2,∃b,(x,b)∈d/\b∈Bt (HF d a n c).2:=by
 intro n;induction n with
 |zero=>
  intro c w hc;exact λ x o=>by
   have:Bt c=[]:=B6.mp (Ic.mp w);have h:x∈Bt c:=o
   (first |exact BZ this h |obtain rfl:=AF this h |cases Eq.trans (Eq.symm this) h |(replace h:=(this)▸h;contradiction))
 |succ n s=>
  intro c w hc;rw(occs:=.all) [Et];cases H:EK d a c with
  |none=>
   intro x o;have:=KX O H o;exact Classical.byContradiction λ q=>Ce (this.symm.trans (GC.mpr λ b Q V=>q ⟨b,Q,V⟩))
  |some k=>
   have N:=DS H;refine s _ ?_ (Av (CY _ _) hc);have e:=IV c hc k N.1;have W:=Hl c hc;have:(Bt c).filter (λ x=>!(x==k))=(Bt c).erase k:=by rw[W.erase_eq_filter];rfl
   rw[e,this,E9 N.1];omega
theorem T1 (o:∀k<5,k∈a)(x:Nat):x∈FT c 5 (List.range 5)↔x∈Bt (HF c a 5 31).2:=by
 constructor
 ·refine fS (λ x h=>?_) 5 31 (by omega) (λ x h=>?_) x
  ·have e:=PJ (prs:=c) 5 (List.range 5) (by exact Ah _);rw[<-e] at h;obtain⟨b,s,w⟩:=Tc.mp (AS.mp h).2;exact⟨b,s,w⟩
  ·have:=Mv 5 _ x h;have e:Bt 31=List.range 5:=rfl;exact this
 ·exact Rs (fT o 5 31 (Ah _) (by omega)) 5 _ (λ x h=>AC.mpr (E6 h).1) x
theorem VL (h:∀p∈a,p.1<5/\p.2<5):Ft (Ea a) 5 Do=(FT a 5 (List.range 5)).map nm:=by
 have:Do=(List.range 5).map nm:=by decide+kernel
 conv=>lhs;rw[this]
 exact VJ h 5 _ λ x k=>AC.mp k
theorem ZB (L:Lf a c)(O:∀p∈b,p.1<5/\p.2<5):(Dh (De a c 31)).map (λ k=>k.filter λ n=>(Ft (Ea b) 5 Do).any (·==n))=Dh (De a c (HF b a 5 31).2):=by
 rw[VL O];have o:∀t:List Nat,(∀x∈t,x<5)->(t.map nm).filter (λ n=>((FT b 5 (List.range 5)).map nm).any (·==n))=(t.filter (IW (HF b a 5 31).2)).map nm:=λ t s=>by
  refine Eq.trans (Ef) ?_;congr 1;apply C8;intro x w;show((FT b 5 (List.range 5)).map nm).any (·==nm x)=_
  rw[Nz,BO,decide_eq_true_iff,F7,Wy (λ y Q=>AC.mp (Mv 5 _ y Q)) (s x w),T1 L.all]
 have V:(De a c 31).map (λ t=>t.filter (IW (HF b a 5 31).2))=De a c (HF b a 5 31).2:=by
  rw[BR,AZ,AZ];have h:∀i<5,IW 31 i=true:=by decide
  congr 1
  ·apply By;intro i W;show(if IW 31 i then[i] else[]).filter _=_;refine Eq.trans (congrArg _ (if_pos (h i (L.lt i W)))) ?_;cases e:IW (HF b a 5 31).2 i<;>simp[e]
  ·apply By;intro N H;show(N.reverse.filter (IW 31)).filter _=_;refine Eq.trans (List.filter_filter) ?_;apply C8;intro x w;rw[h x (L.ch N H x (by simpa using w)),Gp]
 rw[<-V];unfold Dh;rw[AZ,AZ];apply By;intro t s;exact o t (L9 L t s)
end
section
theorem Rw (o:a.Perm b):HT a=HT b:=by
 have sorted:∀l:List Str,(HT l).Pairwise (λ a b=>S5 a b=true):=λ l=>IL (λ a b c h k=>by simp only[S5,decide_eq_true_eq] at*;exact List.le_trans h k) (λ a b=>by simp only[S5,Cg,decide_eq_true_eq];exact List.le_total _ _) l;refine G9 (le:=λ a b=>S5 a b=true) (λ x y _ _ h k=>?_) (sorted a) (sorted b) (((GV a _).trans o).trans (GV b _).symm);simp only[S5,decide_eq_true_eq] at h k;have:=List.le_antisymm h k;obtain⟨⟨x⟩⟩:=x;obtain⟨⟨y⟩⟩:=y;simp only at this;rw[this]
theorem ZY:∀(n c:Nat),c<32->(HF prs line n c).2=0->(HF prs line n c).1.Perm (Bt c):=by
 intro n;induction n with
 |zero=>
  intro c hc h;have h:c=0:=h;subst h;exact .refl _
 |succ n o=>
  intro c hc h;rw(occs:=.all) [Et] at h ⊢;cases s:EK prs line c with
  |none=>
   rw[s] at h;have h:c=0:=h;subst h;exact .refl _
  |some k=>
   rw[s] at h;obtain⟨hk,O⟩:=DS s;have w:=o _ (Av (CY _ _) hc) h;have e:=IV c hc k hk;have H:=Hl c hc;have N:(Bt c).filter (λ x=>!(x==k))=(Bt c).erase k:=by rw[H.erase_eq_filter];rfl
   rw[e,N] at w;exact(w.cons k).trans (List.perm_cons_erase hk).symm
theorem Xm (s:(a,b)∈prs):∀(n c:Nat),c<32->(HF prs line n c).2=0->a∈Bt c->b∈Bt c->(HF prs line n c).1.idxOf b<(HF prs line n c).1.idxOf a:=by
 intro n;induction n with
 |zero=>
  intro c hc h o _;have h:c=0:=h;subst h;exact absurd o (Md _)
 |succ n w=>
  intro c hc h o O;rw(occs:=.all) [Et] at h ⊢;cases H:EK prs line c with
  |none=>
   rw[H] at h;have h:c=0:=h;subst h;exact absurd o (Md _)
  |some k=>
   rw[H] at h;obtain⟨hk,V⟩:=DS H;have Q:k≠a:=λ q=>GC.mp V b (q▸s) O;show List.idxOf b (k::_)<List.idxOf a (k::_);rw[JB,JB];have W:(k==a)=false:=by simpa using Q
   rw[W];by_cases N:k=b
   ·subst N;simp
   ·have Z:(k==b)=false:=by simpa using N
    rw[Z];have d:=w _ (Av (CY _ _) hc) h ((F6 hc hk).mpr ⟨o,λ z=>Q z.symm⟩) ((F6 hc hk).mpr ⟨O,λ z=>N z.symm⟩);simpa using d
theorem fM (o:i<5):∀{g:List Nat},(∀x∈g,x<5)->(g.map nm).idxOf (nm i)=g.idxOf i:=by
 intro g;induction g with
 |nil=>
  intro _;exact rfl
 |cons a g k=>
  intro h;rw[A0,JB,JB,k λ x s=>h x (Ad _ s)];by_cases q:a=i
  ·subst q;simp
  ·have w:(a==i)=false:=by simpa using q
   have H:(nm a==nm i)=false:=by simpa using λ z=>q (MC a (h a Ac) i o z)
   rw[w,H]
noncomputable def Pn (h k:List Int)(st:Int×List Int)(i:Nat):Int×List Int:=(st.1+h.getD i 0,st.2++[st.1+h.getD i 0-k.getD i 0])
variable {e a:List Int}{d:List (Nat×Nat)}{b:List Nat} in
theorem XH:∀(n c:Nat),c<32->(HF d b n c).2=0->(HF d b n c).1.reverse.foldl (Pn a e) (0,[])=(FW a c,(Ok a e c (HF d b n c).1).reverse):=by
 intro n;induction n with
 |zero=>
  intro c hc h;have h:c=0:=h;subst h;rfl
 |succ n o=>
  intro c hc h;rw(occs:=.all) [Et] at h ⊢;cases s:EK d b c with
  |none=>
   rw[s] at h;have h:c=0:=h;subst h;rfl
  |some k=>
   rw[s] at h;obtain⟨hk,H⟩:=DS s;have w:=o _ (Av (CY _ _) hc) h;show List.foldl _ _ (k::_).reverse=(_,(Ok a e c (k::_)).reverse);rw[List.reverse_cons,List.foldl_append,w,Ok,List.reverse_cons];show(FW a (c-2^k)+a.getD k 0,_++[FW a (c-2^k)+a.getD k 0-e.getD k 0])=_;rw[<-QO hc hk]
theorem WB:Qe l=some m↔m∈l/\∀x∈l,x<=m:=
 (show Qe l=l.max? by cases l<;>rfl)▸List.max?_eq_some_iff
theorem Wz:∀{l:List Int}{m:Int},O5 l=some m↔m∈l/\∀x∈l,x<=m:=by
 intro l;induction l with
 |nil=>
  intro m;simp[O5]
 |cons a l k=>
  intro m;have N:= @k;unfold O5;rw[Option.some.injEq];cases e:O5 l with
  |none=>
   have:l=[]:=by
    cases l with
    |nil=>rfl
    |cons b l=>unfold O5 at e;cases e
   subst this;simp;constructor
   ·intro h;exact⟨h.symm,Int.le_of_eq h⟩
   ·intro h;exact h.1.symm
  |some b=>
   obtain⟨o,s⟩:=(N (m:=b)).mp e;simp only[Ae,forall_eq_or_imp];have w:=Int.le_max_left b a;have H:=Int.le_max_right b a;constructor
   ·intro h;refine⟨?_,h▸H,λ x O=>AT (s x O) (h▸w)⟩;rcases Int.le_total b a with y |y
    ·rw[Gm y] at h;exact .inl h.symm
    ·rw[Int.max_eq_left y] at h;exact .inr (h▸o)
   ·rintro⟨Q,V,W⟩;have Z:=W b o;have:=Int.max_le.mpr ⟨Z,V⟩;rcases Q with z |z
    ·exact Eh this (z▸H)
    ·exact Eh this (AT (s m z) w)
theorem WA (h:O5 l=some m):Qe l.reverse=some m:=by
 rw[WB];have:=Wz.mp h;simpa using this
theorem Yu.start (k:∀p∈a,p.1<5/\p.2<5):Yu a 31:=λ p h o=>by
 have:∀i<5,i∈Bt 31:=by decide
 exact absurd (this _ (k p h).1) o
theorem ZD (L:Lf a b)(H:∀p∈Dz b,p.1<5/\p.2<5)(s:∀k,0<=d.getD k 0)(w:a.Pairwise λ i j=>c.getD j 0<=c.getD i 0):
 (Jx d c (Dz b)=none/\(HF (Dz b) a 5 31).2≠0)\/
 ∃v,Jx d c (Dz b)=some v/\(HF (Dz b) a 5 31).2=0/\Qe (((HF (Dz b) a 5 31).1.reverse.foldl (Pn d c) (0,[])).2)=some v:=by
 obtain⟨T,D,e⟩:=bO (hrs:=d) (dus:=c) (prs:=Dz b);cases h:T 31 with
 |none=>
  refine .inl ⟨e.trans h,λ z=>?_⟩;have:=oK (line:=a) D 5 31 (by omega) (by omega) z
  (rw[h] at this;cases this)
 |some v=>
  obtain⟨o,m⟩:=fE D s w L.all 5 31 (by decide) (by omega) (by omega) v h;exact .inr ⟨v,e.trans h,o,by rw[XH 5 31 (by omega) o];exact WA m⟩
end
variable {dus hrs:List Int}{prs:List (Nat×Nat)}{sp:Scope} in
structure Q3 where
 sp:List Nat
 po:List Int
 wi:List (List Str)
 so:List (List Str)
 hrs:List Int
 dus:List Int
 prs:List (Nat×Nat)
variable {tk:Nat} in
structure dB (D:Q3):Prop where
 tk:PC D.sp D.po D.wi D.so
 hl:D.hrs.length=5
 dl:D.dus.length=5
 pl:D.prs.length<=100
noncomputable def C0:A5:=⟨λ _=>none,iU,λ _=>none⟩
noncomputable def C1:A5:=⟨λ x=>if x="S_IFMT" then some Os else if x="_law_said" then some MV else none,iU,λ _=>none⟩
noncomputable def US (D:Q3)(x:Str):Option (List PV->Option PV):=
 if x="parse257" then some UP else if x="parse229" then some Te else if x="S_IMODE" then some Ph else if x="filemode" then some Tf else if x="_law_talk" then some (GP (SH D.sp D.po D.wi D.so) (.list (NZ D.sp D.po D.wi D.so)))
 else if x="_law_listing" then some MW else if x="_law_best" then some (GP [AD D.hrs,AD D.dus,E1 D.prs] (Fo (Jx D.hrs D.dus D.prs))) else if x="_law_stuck" then some (GP [AB Do,NM (Ea D.prs)] (AB (Ft (Ea D.prs) 5 Do))) else none
noncomputable def CL (D:Q3):A5:=⟨US D,iU,λ _=>none⟩
section
variable {C:A5}
noncomputable def FA (h:World)(k:Heap)(o:Str->Option Value)(s:Nat)(x:Str)(g:List PV->Option PV):Prop:=iI (W1 h k) s o x g
theorem Jt (s:EH (W1 w h) a fd d b)(C:mg x=some (.ref a)){g:List PV->Option PV}(c:Fa (W1 w h) k a g):FA w h mg k x g:=by
 obtain⟨o,H,N,O,Q⟩:=s.obj;exact⟨a,o,fd,C,H,N,O,Q,c⟩
theorem Jr {f g:List PV->Option PV}{r:Option (List PV->Option PV)}(e:(if x=y then some f else r)=some g)(o:FA w h mg k y f)(s:r=some g->FA w h mg k x g):FA w h mg k x g:=by
 by_cases q:x=y
 ·rw[if_pos q] at e;exact q▸Au e▸o
 ·rw[if_neg q] at e;exact s e
theorem cR {b:ExcName->Option Value}(I:EW w h)(T:Top c a b mg mb h)(o:importsNone c=true):Dt (W1 w h) C0 k mg mb:=fR I T o rfl λ x g e=>nomatch e
theorem rY {b:ExcName->Option Value}(I:EW w h)(T:Top c a b mg mb h)(o:importsNone c=true):Dt (W1 w h) C1 (k+1) mg mb:=fR I T o rfl λ x g e=>by
 have s:Dt (W1 w h) C0 k mg mb:=cR I T o;exact Jr e (Jt (Tj I T) ((C7 I T _).trans (by kernel_rfl)) (gJ I T s)) λ e=>Jr e (Jt (Ti I T) ((C7 I T _).trans (by kernel_rfl)) (gI I T s)) λ e=>nomatch e
theorem iV {b:ExcName->Option Value}(I:EW w h)(T:Top c a b mg mb h)(o:importsNone c=true)(C:dB D):Dt (W1 w h) (CL D) (k+2) mg mb:=fR I T o rfl λ x g e=>by
 have s:Dt (W1 w h) C0 (k+1) mg mb:=cR I T o;have H:Dt (W1 w h) C1 (k+1) mg mb:=rY I T o;refine Jr e (Jt (Pj I T) ((C7 I T _).trans (by kernel_rfl)) (kX I T s)) λ e=>?_;refine Jr e (Jt (M1 I T) ((C7 I T _).trans (by kernel_rfl)) (kY I T s)) λ e=>?_;refine Jr e (Jt (QI I T) ((C7 I T _).trans (by kernel_rfl)) (Z7 I T s)) λ e=>?_;refine Jr e (Jt (Ly I T) ((C7 I T _).trans (by kernel_rfl)) (gK I T H rfl rfl)) λ e=>?_;refine Jr e (Jt (Th I T) ((C7 I T _).trans (by kernel_rfl)) (gH I T H rfl C.tk)) λ e=>?_;refine Jr e (Jt (M0 I T) ((C7 I T _).trans (by kernel_rfl)) (UY I T s)) λ e=>?_;refine Jr e (Jt (Tk I T) ((C7 I T _).trans (by kernel_rfl)) (gL I T s C.hl C.dl C.pl)) λ e=>?_;exact Jr e (Jt (QH I T) ((C7 I T _).trans (by kernel_rfl)) (Z6 I T s (by rw[Ea,Af];exact C.pl))) λ e=>nomatch e
end
class inductive Je {σ α:Type} (R:σ->α->σ->Prop):List α->σ->σ->Prop
 |nil {ua}:Je R [] ua ua
 |cons {ux us0 ua ub uc}:R ua ux ub->Je R us0 ub uc->Je R (ux::us0) ua uc
theorem Je.bp {a b:Type}{R:a->b->a->Prop}{x:b}{c t:a}(h:R c x t):Je R [x] c t:=.cons h .nil
theorem Je.append {b c:Type}{R:b->c->b->Prop}{d e:List c}{f t u:b}(a:Je R d f t)(h:Je R e t u):Je R (d++e) f u:=by
 induction a with
 |nil=>exact h
 |cons a _ k=>exact .cons a (k h)
theorem Je.fn {c g:Type}{R:c->g->c->Prop}{d:List g}{b t:c}(h:Je R d b t):∃f:Nat->c,f 0=b/\f d.length=t/\∀i x,d[i]? =some x->R (f i) x (f (i+1)):=by
 induction h with
 |@nil b=>exact⟨λ _=>b,rfl,rfl,λ i x e=>absurd (HZ.symm.trans e) nofun⟩
 |@cons y d b t u a _ k=>
  obtain⟨f,o,s,w⟩:=k;exact⟨λ n=>n.rec b λ n _=>f n,rfl,s,λ i x=>i.casesOn (λ e=>by cases e;show R b _ (f 0);rw[o];exact a) λ i=>w i x⟩
section
variable {C:A5}
noncomputable def HR (k:World)(o:Heap)(D:Q3)(s:Nat)(h:List (Str×PV)×List PV×List PV)(x:PV)(t:List (Str×PV)×List PV×List PV):Prop:=
 ∃r,x=.str r/\Q5 (W1 k o) (CL D) s (Ds k 159).scope hP hK IH QD ZV 58 70 r h.1 h.2.1 h.2.2 t.1 t.2.1 t.2.2
theorem OB (h:O.lookup x=some (.aa d)):Q9 C V O [.Name x q] [d]:=.cons (.aa h) .nil rfl
theorem Xo (e:UP [.str r]=some d):Mo (CL D) (Ds w 159).scope "reply" r IH "parse257" d:=λ o h k=>by
 conv in IH=>whnf
 exact .fn (by rw[k];kernel_rfl) rfl (OB h) e
theorem Ty (h:O.lookup ("words":Str)=some (.aa (.str a))):Q9 C V O [.Name "words" (hP 23),.Tuple [.Constant (.str "peer") (hK 2) (hP 24),.Constant (.int 21) (hK 3) (hP 25)] (hK 4) (hP 26)] [.str a,.aw [.str "peer",.int 21]]:=
 .cons (.aa h) (.cons (.aw (.cons (.af (by kernel_rfl)) (.cons .int .nil rfl) rfl) (by decide+kernel)) .nil rfl) rfl
theorem Xp (e:Te [.str r,.aw [.str "peer",.int 21]]=some d):Mo (CL D) (Ds w 159).scope "words" r (Kv hP hK) "parse229" d:=λ o h k=>
 .fn (by rw[k];kernel_rfl) rfl (Ty h) e
theorem KT {c:ExcName->Option Value}(I:EW w h)(T:Top d a c mg mb h)(N:importsNone d=true){l:List Nat}(g:l.take 3≠[50,53,55]):FF (W1 w h) (k+1) (Ds w 159).scope "reply" (A4 l) IH "parse257" 58 (A4 l):=λ A i V Z X s v j f W St B S m x=>by
 have n:Dt (W1 w h) C0 k mg mb:=cR I T N;obtain⟨o,p,e,q,r⟩:=(Pj I T).obj
 conv in IH=>whnf
 refine QU (cR I T N) f S.F (S.gd B) (by kernel_rfl) (OB m) ((C7 I T _).trans (by kernel_rfl)) p e q r λ O H t C Q u=>?_;exact iZ I T n g A {s with heap:=O,toks:=H} X t j f W (St.bd C) ((S.gd B).step C Q) (λ b V=>⟨(S.F.alive b V).1,Bc C (S.F.alive b V).2⟩) u
theorem N9 {c:ExcName->Option Value}(I:EW w h)(T:Top f a c mg mb h)(N:importsNone f=true)(e:∀i:Dt (W1 w h) C0 k mg mb,PD (W1 w h) (k+1) 79 [.str r,.aw [.str "peer",.int 21]] d r):FF (W1 w h) (k+1) (Ds w 159).scope "words" r (Kv hP hK) "parse229" d r:=λ A l V Z X s y m j W St B S n z=>by
 have i:Dt (W1 w h) C0 k mg mb:=cR I T N;have p:Dt (W1 w h) C0 (k+1) mg mb:=cR I T N;obtain⟨o,q,g,t,u⟩:=(M1 I T).obj;refine QU p j S.F (S.gd B) (by kernel_rfl) (Ty n) ((C7 I T _).trans (by kernel_rfl)) q g t u λ O H v C Q x=>?_;exact e i A {s with heap:=O,toks:=H} X v m j W (St.bd C) ((S.gd B).step C Q) (λ b V=>⟨(S.F.alive b V).1,Bc C (S.F.alive b V).2⟩) x
theorem Qx (e:UP [.str r]=some d)(o:hs.length+1<=Bf):HR w h D k (a,hs,b) (.str r) (a,hs++[d],b):=
 ⟨r,rfl,.nk d (Xo e) o⟩
theorem fP {ss:List PV}{b:ExcName->Option Value}(I:EW w h)(T:Top d a b mg mb h)(o:importsNone d=true)(s:ss.length+1<=Bf):HR w h D (k+1) (f,c,ss) (.str "226 all told") (f,c,ss++[.str "no 226 all told"]):=
 ⟨_,rfl,.sf "226 all told" "226 all told" "no 226 all told" (by
   have e:("226 all told":Str)=A4 (PySem.Str.cps "226 all told").toList:=(IT _).symm;have:=KT (k:=k) I T o (l:=(PySem.Str.cps "226 all told").toList) (by decide+kernel);rwa[<-e] at this) (by
   have e:("226 all told":Str)=A4 (PySem.Str.cps "226 all told").toList:=(IT _).symm;have:=N9 (k:=k) I T o λ C=>oL I T C (l:=(PySem.Str.cps "226 all told").toList) (by decide+kernel);rwa[<-e] at this) (by kernel_rfl) s⟩
theorem fO {d:List PV}{b:ExcName->Option Value}(I:EW w h)(T:Top f a b mg mb h)(o:importsNone f=true)(s:r∈KO)(C:d.length+1<=Bf):HR w h D (k+1) (g,c,d) (.str r) (g,c,d++[.str r]):=
 ⟨r,rfl,.si r r (by
   have e:r=A4 r.cps.toList:=(IT _).symm;have:=KT (k:=k) I T o ((by decide+kernel:∀r∈KO,r.cps.toList.take 3≠[50,53,55]) r s);exact(e)▸this) (N9 I T o λ H=>jA I T H (nJ s)) C⟩
theorem Xj {c:List (Str×PV)}{b:ExcName->Option Value}(I:EW w h)(T:Top d a b mg mb h)(s:importsNone d=true)(C:m∈GQ){i:Int}(H:i.natAbs<10^10)(N:c.length+1<=Bf):
 HR w h D (k+1) (c,[.str n],e) (.str (A4 (Bh m (dg i)))) (D8 c n (.aw [.str "peer",.int i]),[],e):=
 ⟨_,rfl,.sv (A4 (Bh m (dg i))) _ n [] (KT I T s (by
    have:(Bh m (dg i)).take 3=[50,50,57]:=by rfl
    rw[this];decide)) (Xp (Xl C H)) (λ O o=>by
    conv in ZV=>whnf
    exact .sub (b:=.list [.str n]) (.aa o) (.neg .int) (λ _ _=>rfl) (by kernel_rfl)) (λ O o=>by
    conv in QD=>whnf
    exact .slice (b:=.list [.str n]) (.aa o) .no (.int (.neg .int)) .no (by kernel_rfl)) N⟩
end
noncomputable def Ku (h:List Nat):List Nat:=((List.range 3).filter λ k=>!((h.take k).any (·==h.getD k 0))).map λ k=>h.getD k 0
noncomputable def Fj (h:List Nat):Str:=Txt.join "/" (h.map nm)
noncomputable def JI (t:Str)(n:Nat):Bool:=decide (NW (Eb t n).cps.toList=some t.cps.toList)&&decide ((Eb t n).length<=4000)
noncomputable def Mk (h:List Nat):Bool:=
 h.all (λ x=>decide (x<5))&&decide (h.length<=3)&&decide (1<=h.length)&&(decide (h.length<=1)||(F5 (Fj h)&&(List.range 4).all (JI (Fj h))&&decide (Txt.split (Fj h) "/"=h.map nm)&&JoinOk "/" (h.map nm)&&J2 (Fj h)&&(Txt.split (Fj h) "/").all J2&&decide ((Txt.split (Fj h) "/").length<=5)))
theorem XY:∀a<5,∀b<5,∀c<5,Mk (Ku [a,b,c])=true:=by decide+kernel
theorem Zd:∀s<5,∀n<6,JI (nm s) n=true:=by decide+kernel
noncomputable def jX (l:List Int)(h:Nat):Int:=l.getD h 0
noncomputable def sp5 (h:List Int):Nat:=(jX h 7%5).toNat
noncomputable def KQ (h:List Int):List Nat:=[0,1,2,3,4,sp5 h]
noncomputable def KW (h:List Int)(k:Nat):Int:=jX h k%147456-20480
noncomputable def JK (h:List Int):List Int:=(List.range 6).map (KW h)
noncomputable def Ch (h:List Int)(k:Nat):Int:=if k=sp5 h then KW h 5 else KW h k
noncomputable def Bz (h:List Int):List Int:=(List.range 5).map (Ch h)
noncomputable def gP (h:List Int)(k u:Nat):Nat:=(jX h 6/125^k/u%5).toNat
noncomputable def SM (h:List Int)(k:Nat):List Nat:=[gP h k 25,gP h k 5,gP h k 1]
noncomputable def LD (h:List Int):List (List Nat):=(List.range 4).map λ k=>Ku (SM h k)
noncomputable def Lh (h:List Nat):List Str:=if h.length>1 then[Fj h] else[]
noncomputable def KD (h:List Int):List (List Str):=(LD h).map Lh
noncomputable def NN:List (List Str):=[["229 at 272)"],["229 at (|||7|x"],["229 at (||7|)","229 at (|||7||)"],["229 at (|||7|!)"]]
noncomputable def Tw (h:List Int)(k:Nat):Bool:=decide (jX h 7/5/2^k%2=1)
noncomputable def L7 (h:List Int):List (List Str):=(List.range 4).map λ k=>if Tw h k then NN.getD k [] else[]
noncomputable def Qy (m:Int):Int:=9-Txt.count (Txt.slice (A4 (Fk m)) (some ((1:Nat):Int)) none) "-"
noncomputable def JP (h:List Int):List Int:=(Bz h).map Qy
noncomputable def Kp (h:List Int):List Int:=(Bz h).map (·/4096)
noncomputable def Dv (h:List Int):List (Nat×Nat):=Dz (LD h)
noncomputable def Iu (h:List Int):Q3:=⟨KQ h,JK h,KD h,L7 h,JP h,Kp h,Dv h⟩
section
theorem VU:sp5 a<5:=by unfold sp5;exact eP _ (n:=5) (by decide)
theorem Si (h u:Nat):gP a h u<5:=by unfold gP;exact eP _ (n:=5) (by decide)
theorem HN (h:a∈LD b):Mk a=true:=by
 obtain⟨k,_,rfl⟩:=Al.mp h;exact XY _ (Si k 25) _ (Si k 5) _ (Si k 1)
variable {sl:CB} in
structure pV (ch:List Nat):Prop where
 lt:∀x∈ch,x<5
 l3:ch.length<=3
 l1:1<=ch.length
 ok:1<ch.length->F5 (Fj ch)=true
 said:1<ch.length->∀n<4,JI (Fj ch) n=true
 tp:1<ch.length->Txt.split (Fj ch) "/"=ch.map nm
 jok:1<ch.length->JoinOk "/" (ch.map nm)=true
 oks:1<ch.length->J2 (Fj ch)=true
 sok:1<ch.length->(Txt.split (Fj ch) "/").all J2=true
 sl:1<ch.length->(Txt.split (Fj ch) "/").length<=5
theorem aS (h:Mk a=true):pV a:=by
 unfold Mk at h;simp only[As,Cg,decide_eq_true_eq,AE] at h;obtain⟨⟨⟨k,o⟩,s⟩,w⟩:=h;have z:1<a.length->_:=λ q=>w.resolve_left (by omega);exact⟨k,o,s,λ q=>(z q).1.1.1.1.1.1,λ q n H=>(z q).1.1.1.1.1.2 n (AC.mpr H),λ q=>(z q).1.1.1.1.2,λ q=>(z q).1.1.1.2,λ q=>(z q).1.1.2,λ q=>AE.mpr (z q).1.2,λ q=>(z q).2⟩
theorem V2 (h:JI t n=true):UP [.str (Eb t n)]=some (.str t):=by
 unfold JI at h;rw[As,decide_eq_true_iff,decide_eq_true_iff] at h;unfold UP;show(if(Eb t n).length<=4000 then(NW (Eb t n).cps.toList).map (λ t=>PV.str (A4 t)) else none)=_;rw[if_pos h.2,h.1];show some (PV.str (A4 t.cps.toList))=_;rw[IT]
theorem Oc:∀h:List Nat,(DC h).length<=h.length
 |[]=>Ah _
  |[a]=>AP _
  |a::b::r=>by
   have:=Oc (b::r);exact DU this
theorem KU:∀p∈Dv a,p.1<5/\p.2<5:=λ p o=>by
 obtain⟨s,k,h⟩:=IM.mp o;have:=KY h;exact⟨(aS (HN k)).lt _ this.1,(aS (HN k)).lt _ this.2⟩
theorem PX (h:Nat):(KW a h).natAbs<200000:=by unfold KW;exact Ye (n:=200000) (D6 (by decide:-200000<(0:Int)-20480) (Int.sub_le_sub_right (Ei _ (by decide)) _)) (Cf (Int.sub_le_self _ (by decide)) (Int.lt_trans (D7 _ (by decide)) (by decide)))
theorem Hd:dB (Iu b) where
 tk:={
  tp:=rfl
  sp5:=λ s O=>by
   have q:s∈[0,1,2,3,4,sp5 b]:=O;have:= @VU b;simp only[Ae,AU,or_false] at q;rcases q with rfl |rfl |rfl |rfl |rfl |rfl<;>first |exact this |decide
  ur:=by rfl
  u5:=λ p Q=>by
   obtain⟨k,_,rfl⟩:=Al.mp Q;exact Cn (@PX b k) (by decide)
  tu:=by rfl
  uj:=λ l H=>by
   obtain⟨w,o,rfl⟩:=Al.mp H;have F:=aS (HN o);unfold Lh;split
   ·rename_i q;exact⟨Ah _,λ x N=>by rw[BI.mp N];exact F.ok q⟩
   ·exact⟨AP _,λ x N=>(by contradiction)⟩
  t4:=by rfl
  ul:=λ l H=>by
   obtain⟨k,hk,rfl⟩:=Al.mp H;have hk:=AC.mp hk;split
   ·have:∀k<4,(NN.getD k []).length<=9:=by decide
    exact this k hk
   ·exact AP _}
 hl:=by rfl
 dl:=by rfl
 pl:=by
  show((LD b).flatMap DC).length<=100;rw[List.length_flatMap];have:∀l:List (List Nat),(∀w∈l,w.length<=3)->(l.map λ w=>(DC w).length).sum<=3*l.length:=by
   intro l;induction l with
   |nil=>intro _;exact AP _
   |cons a l V=>
    intro h;have W:=V λ w o=>h w (Ad _ o);have Z:=h a Ac;have c:=Oc a;exact Aa (DW (Aa c Z) W) (AG (by rw[Jy,BE]))
  have:=this (LD b) λ w o=>(aS (HN o)).l3;have d:(LD b).length=4:=by simp[LD]
  rw[d] at this;exact Aa this (by decide)
end
section
noncomputable def DA (i:Int):PV:=.aw [.str "peer",.int i]
noncomputable def Nq (h:List Nat)(k:List Int)(o:List (Str×PV))(p:Nat):List (Str×PV):=D8 o (nm (h.getD p 0)) (DA (k.getD p 0))
theorem T8 {d:ExcName->Option Value}(I:EW w h)(T:Top e b d mg mb h)(V:importsNone e=true){a:List Nat}{c:List Int}(i:∀s∈a,s<5)(j:∀p,(c.getD p 0).natAbs<1000000)(m:a.length=6):∀(o:List Nat)(H:List (Str×PV)),(∀p∈o,p<6)->H.length+o.length<=100->∀{N:List PV},
 Je (HR w h D (k+1)) (o.flatMap (Iq a c)) (H,[],N) (o.foldl (Nq a c) H,[],N):=by
 intro o;induction o with
 |nil=>
  intro H _ _ N;exact .nil
 |cons p o W=>
  intro H O g N;have n:=Gb;have Z:=O p Ac;have Q:a.getD p 0<5:=i _ (getD_mem (by omega));have f:H.length+1<=Bf:=Aa (Bb (Dr g) 1) (by decide+kernel);refine .append (.cons (ub:=(H,[.str (nm (a.getD p 0))],N)) (Qx (hs:=[]) (d:=.str (nm (a.getD p 0))) (V2 (Zd _ Q p Z)) (by exact AH _ _)) (.bp (Xj I T V (SZ Q) (by have:=j p;omega) f))) ?_;exact W _ (λ q l=>O q (Ad _ l)) (by
   exact Aa (Bb (Fu ..) _) (Aa (AG (by rw[BV,BE 1];rfl)) g))
variable {b:List PV}{a:List (Str×PV)}{D:Q3} in
theorem V4 {p:Nat}(l:List Str)(o:∀t∈l,JI t p=true){hs:List PV}(s:hs.length+l.length<=1000):Je (HR w h D (k+1)) (l.map λ t=>.str (Eb t p)) (a,hs,b) (a,hs++l.map .str,b):=by
 induction l generalizing hs with
 |nil=>simp only[Jh,Jh,CN];exact .nil
 |cons t l H=>
  have O:=Gb;have:=H (λ x N=>o x (Ad _ N)) (hs:=hs++[.str t]) (by rw[AA,BV,BE [_].length];exact s);simp only[Bg] at this;exact .cons (Qx (V2 (o t Ac)) (by omega)) this
variable {a:List Str}{b:ExcName->Option Value}{c:Program}{D:Q3} in
theorem YO (I:EW w h)(T:Top c a b mg mb h)(o:importsNone c=true):∀(l:List Str),(∀t∈l,t∈KO)->∀{es:List (Str×PV)}{hs ss:List PV},ss.length+l.length<=1000->Je (HR w h D (k+1)) (l.map .str) (es,hs,ss) (es,hs,ss++l.map .str):=by
 intro l;induction l with
 |nil=>
  intro _ es hs ss _;rw[Jh,CN];exact .nil
 |cons t l s=>
  intro H es hs ss N;have Q:=Gb;have:=s (λ x O=>H x (Ad _ O)) (es:=es) (hs:=hs) (ss:=ss++[.str t]) (Aa (AG (by rw[AA,BV,BE (List.length [_])];rfl)) N);simp only[Bg] at this;exact .cons (fO I T o (H t Ac) (by omega)) this
variable {a:List Str}{b:ExcName->Option Value}{c:Program}{D:Q3} in
theorem V6 (I:EW w h)(T:Top c a b mg mb h)(N:importsNone c=true){wi so:List (List Str)}(hw:∀p<4,(wi.getD p []).length<=9/\∀t∈wi.getD p [],JI t p=true)(Z:∀p<4,(so.getD p []).length<=9/\∀t∈so.getD p [],t∈KO):∀(o:List Nat),(∀p∈o,p<4)->∀{es:List (Str×PV)}{hs ss:List PV},hs.length+9*o.length<=1000->ss.length+9*o.length<=1000->
 Je (HR w h D (k+1)) (o.flatMap (Li wi so)) (es,hs,ss) (es,hs++(o.flatMap λ p=>wi.getD p []).map .str,ss++(o.flatMap λ p=>so.getD p []).map .str):=by
 intro o;induction o with
 |nil=>
  intro _ es hs ss _ _;simp;exact .nil
 |cons p o O=>
  intro s es hs ss z1 z2;have H:=s p Ac;obtain⟨Q,d⟩:=hw p H;obtain⟨V,e⟩:=Z p H;simp only[EF] at z1 z2;have W:=O (λ q f=>s q (Ad _ f)) (es:=es) (hs:=hs++(wi.getD p []).map .str) (ss:=ss++(so.getD p []).map .str) (by rw[AA,Af,BV];exact Aa (AK (Aa (Bb Q _) (AG (BE 9 _))) _) z1) (by rw[AA,Af,BV];exact Aa (AK (Aa (Bb V _) (AG (BE 9 _))) _) z2);rw[Bg,Bg,<-BR,<-BR] at W;refine .append ?_ W;exact .append (V4 _ d (Aa (AK (Aa Q (AH 9 _)) _) z1)) (YO I T N _ e (Aa (AK (Aa V (AH 9 _)) _) z2))
theorem V5 {b:ExcName->Option Value}(I:EW w h)(T:Top c a b mg mb h)(H:importsNone c=true):
 Je (HR w h D (k+1)) (NZ (KQ ns) (JK ns) (KD ns) (L7 ns)) ([],[],[]) ((List.range 6).foldl (Nq (KQ ns) (JK ns)) [],((KD ns).flatten).map .str,.str "no 226 all told"::((L7 ns).flatten).map .str):=by
 have W:=Gb;have O:=(@Hd ns).tk;have Z:∀l:List (List Str),l.length=4->(List.range 4).flatMap (λ p=>l.getD p [])=l.flatten:=λ l V=>by
  exact kC (P:=λ l=>(List.range 4).flatMap (λ p=>l.getD p [])=l.flatten) (λ _ _ _ _=>rfl) l V
 have e:=V6 (D:=D) (k:=k) I T H (wi:=KD ns) (so:=L7 ns) (λ p s=>?_) (λ p s=>?_) (List.range 4) (λ p s=>AC.mp s) (es:=(List.range 6).foldl (Nq (KQ ns) (JK ns)) []) (hs:=[]) (ss:=[.str "no 226 all told"]) (AX rfl) (AX rfl)
 ·skip
  unfold NZ;rw[Bg];refine .append (T8 I T H O.sp5 (λ p=>?_) rfl (List.range 6) [] (λ p s=>AC.mp s) (AX rfl)) (.append (.bp (fP I T H (ss:=[]) (by exact AH _ _))) e);rw[Ax];cases q:(JK ns)[p]? with
  |none=>simp
  |some x=>
   obtain⟨k,_,rfl⟩:=Al.mp (C4 q);have:= @PX ns k;exact Cn this (AX rfl)
 ·have N:=getD_mem (d:=[]) (i:=p) (l:=KD ns) (by exact s);refine⟨Aa (O.uj _ N).1 (EQ _),λ t o=>?_⟩;obtain⟨d,Q,e⟩:=Al.mp N
  replace o:=(e)▸o
  unfold Lh at o;split at o
  ·rename_i q;rw[BI.mp o];exact(aS (HN Q)).said q p s
  ·contradiction
 ·have N:=getD_mem (d:=[]) (i:=p) (l:=L7 ns) (by exact s);refine⟨O.ul _ N,λ t o=>?_⟩;obtain⟨k,hk,e⟩:=Al.mp N;have hk:=AC.mp hk
  replace o:=(e)▸o
  split at o
  ·have:∀k<4,∀t∈NN.getD k [],t∈KO:=by decide+kernel
   exact this k hk t o
  ·contradiction
end
noncomputable def Ui:List Int:=[102893,57760,70144,47122,0,123337,12637,79]
noncomputable def Lo (h:List Int)(k:Nat):List Int:=(sliceRange (sliceBounds (some (k:Int)) none (some 8) h.length).1 (sliceBounds (some (k:Int)) none (some 8) h.length).2.1 (sliceBounds (some (k:Int)) none (some 8) h.length).2.2).filterMap (h[·]?)
noncomputable def numAt (k:List Int)(h:Nat):Int:=((Lo k h).sum+Ui.getD h 0)%36000000000000
noncomputable def Lp (h:List Int):List Int:=(List.range 8).map (numAt h)
theorem Ug (h:List Int)(k:Nat):(sliceRange (sliceBounds (some (k:Int)) none (some 8) h.length).1 (sliceBounds (some (k:Int)) none (some 8) h.length).2.1 (sliceBounds (some (k:Int)) none (some 8) h.length).2.2).length<=h.length+8:=by
 unfold sliceRange sliceBounds;simp only[Option.getD_some,Option.getD_none,Zh,if_false,Oy,show((8:Int)>0)=True from eq_true (by decide),if_true];generalize min k h.length=m;simp;split<;>omega
theorem P2 (k:a.length<=1000)(h:Nat):Cz (AD a) (some (h:Int)) none (some 8)=some (AD (Lo a h)):=by
 have e:Iw (a.map PV.int) (some (h:Int)) none (some 8)=(Lo a h).map .int:=by
  unfold Iw Lo;rw[Af,List.map_filterMap];congr 1
  funext i
  rw[Aw]
 have o:((Lo a h).map PV.int).length<=Bf:=by
  have s:=Gb;rw[Af];unfold Lo;have:=Ug a h;have l:=List.length_filterMap_le (a[·]?) (sliceRange (sliceBounds (some (h:Int)) none (some 8) a.length).1 (sliceBounds (some (h:Int)) none (some 8) a.length).2.1 (sliceBounds (some (h:Int)) none (some 8) a.length).2.2)
  exact Aa l (Aa this (Aa (Bb k 8) (by decide+kernel)))
 unfold AD Cz;simp only[e];rw[Mh ⟨by simp,o⟩]
noncomputable def Y0 (h:List Int):AM:=[("script",.aa (AD h))]
noncomputable def Y2 (h k:List Int):AM:=[("script",.aa (AD h)),("taken",.aa (AD k)),("own",.aa (AD Ui))]
noncomputable def Y4 (h:List Int):AM:=[("numbers",.aa (AD h)),("names",.aa (AB Do))]
section
variable {C:A5}{A:Around}{z:Env}
theorem FB (h:i<l.length)(k:l.length<=5000):Dd (AD l) (.int (i:Nat))=some (.int (l.getD i 0)):=by
 have o:=Gb;exact Du (by rw[Af];omega) (by rw[Aw,Ej (d:=0) h]<;>rfl)
noncomputable abbrev LY (k:World)(o:Heap)(s:Around)(h:Env)(w:Heap):=D3 (W1 k o) s (Ds k 181).scope h w
theorem v0 (o:GW w h C k mg mb)(s:Cc k A)(B:Hq w h 181 z N)(H:a.length<=Bf):LY w h A z N (exec (CF 0) z) (Y0 a) (.next (AN (Y0 a) "taken" (.aa (AD (a.take 60))))):=by
 have O:=Gb
 conv in CF 0=>whnf
 have e:Cz (AD a) none (some ((60:Nat):Int)) none=some (AD (a.take 60)):=by
  unfold AD;rw[KS _ _ (by rw[Af];omega),List.map_take]
 exact A6 o s B (.slice (b:=AD a) (.aa (by kernel_rfl)) .no (.int .int) .no e) (by kernel_rfl)
theorem v1 (o:GW w h C k mg mb)(s:Cc k A)(B:Hq w h 181 z N):LY w h A z N (exec (CF 1) z) O (.next (AN O "own" (.aa (AD Ui)))):=by
 have H:=Gb
 conv in CF 1=>whnf
 exact A6 o s B (.list (.cons .int (.cons .int (.cons .int (.cons .int (.cons .int (.cons .int (.cons .int (.cons .int .nil rfl) rfl) rfl) rfl) rfl) rfl) rfl) rfl) (by show 8<=Bf;omega)) (by kernel_rfl)
theorem v2 (s:GW w h C k mg mb)(H:Cc k A)(B:Hq w h 181 z N)(O:a.length<=100):LY w h A z N (exec (CF 2) z) (Y2 b a) (.next (AN (Y2 b a) "numbers" (.aa (AD (Lp a))))):=by
 have Q:=Gb;have e:AD (Lp a)=.list ((List.range 8).map λ i=>PV.int (numAt a i)):=by unfold AD Lp;exact congrArg PV.list (AZ ..)
 rw[e]
 conv in CF 2=>whnf
 refine Cy s H B (.M _ (.bl (by kernel_rfl) .int rfl (by omega)) (by kernel_rfl) (by kernel_rfl) (λ i o=>?_) (by simp;omega)) (by kernel_rfl);have o:=AC.mp o;refine⟨[("k",.aa (.int (i:Nat))),("taken",.aa (AD a)),("own",.aa (AD Ui))],by kernel_rfl,?_⟩;unfold numAt;rw[<-GD (by decide)];refine .ai (.ai (.blt (b:=.sum) (ds:=[AD (Lo a i)]) (d:=.int (Lo a i).sum) (by kernel_rfl) (by kernel_rfl) (.cons (.slice (b:=AD a) (.aa (by kernel_rfl)) (.int (.aa (d:=.int (i:Nat)) (by kernel_rfl))) .no (.int .int) (P2 (by omega) i)) .nil rfl) (by
  show(EA _).map _=_;rw[JO]<;>rfl)) (.sub (b:=AD Ui) (.aa (by kernel_rfl)) (.aa (d:=.int (i:Nat)) (by kernel_rfl)) (λ _ _=>rfl) (FB (by show i<8;omega) (by decide))) (Vi _ _)) .int (K4 (by decide))
theorem v3 (o:GW w h C k mg mb)(s:Cc k A)(B:Hq w h 181 z N):LY w h A z N (exec (CF 3) z) O (.next (AN O "names" (.aa (AB Do)))):=by
 have H:=Gb
 conv in CF 3=>whnf
 exact A6 o s B (.list (.cons (.af (by kernel_rfl)) (.cons (.af (by kernel_rfl)) (.cons (.af (by kernel_rfl)) (.cons (.af (by kernel_rfl)) (.cons (.af (by kernel_rfl)) .nil rfl) rfl) rfl) rfl) rfl) (by show 5<=Bf;omega)) (by kernel_rfl)
theorem Wt (h:List Int):(Lp h).length=8:=by simp[Lp]
end
noncomputable def Rb (l:List (List Nat)):PV:=.list (l.map BH)
noncomputable def MK (l:List (List Str)):PV:=.list (l.map AB)
noncomputable def Tp (h:List Int):List (List Nat):=(List.range 4).map (SM h)
noncomputable def Y5 (h:List Int):AM:=[("numbers",.aa (AD h)),("names",.aa (AB Do)),("spots",.aa (BH (KQ h)))]
noncomputable def Y6 (h:List Int):AM:=[("numbers",.aa (AD h)),("names",.aa (AB Do)),("spots",.aa (BH (KQ h))),("ports",.aa (AD (JK h)))]
noncomputable def Y7 (h:List Int):AM:=[("numbers",.aa (AD h)),("names",.aa (AB Do)),("spots",.aa (BH (KQ h))),("ports",.aa (AD (JK h))),("last",.aa (AD (Bz h)))]
noncomputable def Y8 (h:List Int)(k:PV):AM:=[("numbers",.aa (AD h)),("names",.aa (AB Do)),("spots",.aa (BH (KQ h))),("ports",.aa (AD (JK h))),("last",.aa (AD (Bz h))),("drawn",.aa k)]
theorem Qm {b:Type}{l:List b}(h:l.length=n+1):∃a r,l=a::r/\r.length=n:=by
 cases l with
 |nil=>contradiction
 |cons a r=>exact⟨a,r,rfl,Ia h⟩
theorem nS {e:List Int}(h:e.length=4):∃a b c d,e=[a,b,c,d]:=by
 obtain⟨a,r,rfl,k⟩:=Qm h
 (try clear h;try clear e)
 obtain⟨b,r,rfl,o⟩:=Qm k
 (try clear k;try clear h;try clear e)
 obtain⟨c,r,rfl,s⟩:=Qm o
 (try clear o;try clear k;try clear h;try clear e)
 obtain⟨d,r,rfl,w⟩:=Qm s;exact⟨a,b,c,d,by rw[List.eq_nil_of_length_eq_zero w]⟩
theorem nQ {j:List Int}(h:j.length=8):∃a b c d e f g i,j=[a,b,c,d,e,f,g,i]:=by
 refine C6 λ N k=>?_;obtain⟨a,r,rfl,o⟩:=Qm h;obtain⟨b,r,rfl,s⟩:=Qm o;obtain⟨c,r,rfl,w⟩:=Qm s;obtain⟨d,r,rfl,H⟩:=Qm w;obtain⟨e,f,g,i,rfl⟩:=nS H;refine k ?_;exact⟨a,b,c,d,e,f,g,i,rfl⟩
section
variable {C:A5}{A:Around}{z:Env}
theorem J5 (h:i<l.length)(k:l.length<=5000):Dd (BH l) (.int (i:Nat))=some (.int (l.getD i 0:Nat)):=by
 have o:=Gb;exact Du (by rw[Af];omega) (by rw[Aw,Ej (d:=0) h]<;>rfl)
theorem Ir (h:i<5):Dd (AB Do) (.int (i:Nat))=some (.str (nm i)):=by
 have k:=Gb;exact Du (by show 5<=Bf;omega) (by rw[Aw,Ej (l:=Do) (d:="") h]<;>rfl)
theorem v4 (o:GW w h C k mg mb)(s:Cc k A)(B:Hq w h 181 z N)(H:a.length=8):LY w h A z N (exec (CF 4) z) (Y4 a) (.next (AN (Y4 a) "spots" (.aa (BH (KQ a))))):=by
 have O:=Gb;have e:BH (KQ a)=.list [.int 0,.int 1,.int 2,.int 3,.int 4,.int ((a.getD 7 0).fmod 5)]:=by
  delta BH KQ sp5
  rw[GD (by decide)];have:(((jX a 7%5).toNat:Nat):Int)=a.getD 7 0%5:=BX (by omega);simp only[A0,Jh,this];rfl
 rw[e]
 conv in CF 4=>whnf
 exact A6 o s B (.list (.cons .int (.cons .int (.cons .int (.cons .int (.cons .int (.cons (.ai (.sub (b:=AD a) (.aa (by kernel_rfl)) .int (λ _ _=>rfl) (FB (i:=7) (by omega) (by omega))) .int (K4 (by decide))) .nil rfl) rfl) rfl) rfl) rfl) rfl) (by show 6<=Bf;exact AH _ _)) (by kernel_rfl)
theorem v5 (o:GW w h C k mg mb)(s:Cc k A)(B:Hq w h 181 z N)(H:j.length=8):LY w h A z N (exec (CF 5) z) (Y5 j) (.next (AN (Y5 j) "ports" (.aa (AD (JK j))))):=by
 have V:=Gb;have e:AD (JK j)=.list ((j.take 6).map λ x=>PV.int (x%147456-20480)):=by
  refine C6 λ W O=>?_;obtain⟨a,b,c,d,e,f,g,i,rfl⟩:=nQ H;refine O ?_;rfl
 have Q:Cz (AD j) none (some ((6:Nat):Int)) none=some (AD (j.take 6)):=by
  unfold AD;rw[KS _ _ (by rw[Af];omega),List.map_take]
 rw[e]
 conv in CF 5=>whnf
 refine Cy o s B (.M (l:=j.take 6) (g:=PV.int) _ (.list (.slice (b:=AD j) (.aa (by kernel_rfl)) .no (.int .int) .no Q) rfl) (by kernel_rfl) (by kernel_rfl) (λ x Z=>?_) (by rw[ED];omega)) (by kernel_rfl);refine⟨[("number",.aa (.int x))],by kernel_rfl,?_⟩;rw[<-GD (by decide)];exact .ai (.ai (.aa (d:=.int x) (by kernel_rfl)) .int (K4 (by decide))) .int (GZ _ _)
theorem v6 (s:GW w h C k mg mb)(H:Cc k A)(B:Hq w h 181 z N)(Q:a.length=8):LY w h A z N (exec (CF 6) z) (Y6 a) (.next (AN (Y6 a) "last" (.aa (AD (Bz a))))):=by
 have V:=Gb;have e:AD (Bz a)=.list ((List.range 5).map λ i=>PV.int (Ch a i)):=by delta AD Bz<;>rfl
 have W:(JK a).length=6:=by rfl
 have O:∀i<6,(JK a).getD i 0=KW a i:=λ i o=>by
  rw[Ax,Aw,Dj o]<;>rfl
 have Z:(KQ a).getD 5 0=sp5 a:=rfl;rw[e]
 conv in CF 6=>whnf
 refine Cy s H B (.M _ (.bl (by kernel_rfl) .int rfl (by exact AH _ _)) (by kernel_rfl) (by kernel_rfl) (λ i o=>?_) (by exact AH _ _)) (by kernel_rfl);have o:=AC.mp o;refine⟨[("k",.aa (.int (i:Nat))),("spots",.aa (BH (KQ a))),("ports",.aa (AD (JK a)))],by kernel_rfl,?_⟩;unfold Ch;refine .p0 (b':=decide (((i:Nat):Int)=((sp5 a:Nat):Int))) (.an (.aa (d:=.int (i:Nat)) (by kernel_rfl)) (.sub (b:=BH (KQ a)) (.aa (by kernel_rfl)) .int (λ _ _=>rfl) (J5 (i:=5) (by show 5<6;omega) (by show 6<=5000;exact AH _ _))) rfl (by exact QM _ _)) ?_;by_cases q:i=sp5 a
 ·rw[decide_eq_true (by omega),if_pos rfl,if_pos q];have:=FB (l:=JK a) (i:=5) (by exact Ah _) (by omega);exact .sub (b:=AD (JK a)) (.aa (by kernel_rfl)) .int (λ _ _=>rfl) this
 ·rw[decide_eq_false (by omega),if_neg (by exact Bool.noConfusion),if_neg q];have:=FB (l:=JK a) (i:=i) (by exact Bp ‹_›) (by omega);rw[O i (by exact Bp ‹_›)] at this;exact .sub (b:=AD (JK a)) (.aa (by kernel_rfl)) (.aa (d:=.int (i:Nat)) (by kernel_rfl)) (λ _ _=>rfl) this
theorem v7 (O:GW w h C k mg mb)(Q:Cc k A)(B:Hq w h 181 z N)(Z:a.length=8):LY w h A z N (exec (CF 7) z) (Y7 a) (.next (AN (Y7 a) "drawn" (.aa (Rb (Tp a))))):=by
 have b:=Gb;have e:Rb (Tp a)=.list ((List.range 4).map λ i=>BH (SM a i)):=by delta Rb Tp<;>rfl
 rw[e]
 conv in CF 7=>whnf
 refine Cy O Q B (.M _ (.bl (by kernel_rfl) .int rfl (by exact AH _ _)) (by kernel_rfl) (by kernel_rfl) (λ i s=>?_) (by exact AH _ _)) (by kernel_rfl);have s:=AC.mp s;refine⟨[("k",.aa (.int (i:Nat))),("numbers",.aa (AD a))],by kernel_rfl,?_⟩;have V:BH (SM a i)=.list ([25,5,1].map λ(u:Nat)=>PV.int (gP a i u:Nat)):=rfl;rw[V];refine Cu.ev<| .M (g:=λ(u:Nat)=>PV.int (u:Nat)) _ (.aw (.aw (.cons .int (.cons .int (.cons .int .nil rfl) rfl) rfl) (by show 3<=Bf;omega)) rfl) (by kernel_rfl) (by kernel_rfl) (λ u H=>?_) (by omega);refine⟨[("unit",.aa (.int (u:Nat))),("k",.aa (.int (i:Nat))),("numbers",.aa (AD a))],by kernel_rfl,?_⟩;have o:0<u/\u<100:=by
  simp only[Ae,AU,or_false] at H;rcases H with rfl |rfl |rfl<;>decide
 have W:((gP a i u:Nat):Int)=(((a.getD 6 0).fdiv (125^i)).fdiv (u:Nat)).fmod 5:=by
  have p:=(by decide:∀i<4,(0:Int)<=125^i) i s;rw[GD (by decide),GE (by omega),GE p];exact BX (by omega)
 rw[W];refine .ai (a:=.int (((a.getD 6 0).fdiv (125^i)).fdiv (u:Nat))) (.ai (a:=.int ((a.getD 6 0).fdiv (125^i))) (.ai (.sub (b:=AD a) (.aa (by kernel_rfl)) .int (λ _ _=>rfl) (FB (i:=6) (by omega) (by omega))) (.ai .int (.aa (d:=.int (i:Nat)) (by kernel_rfl)) (Wk ⟨by omega,by omega,by decide⟩)) (JR ((by decide:∀i<4,(125:Int)^i≠0/\((125:Int)^i).natAbs<1073741824) i s))) (.aa (d:=.int (u:Nat)) (by kernel_rfl)) (JR ⟨λ q=>Cm o.1 (Int.ofNat.inj q),Cn o.2 (AX rfl)⟩)) .int (K4 (by decide))
theorem v8 (V:GW w h C k mg mb)(W:Cc k A)(B:Hq w h 181 z N):LY w h A z N (exec (CF 8) z) (Y8 a (Rb (Tp a))) (.next (AN (Y8 a (Rb (Tp a))) "chains" (.aa (Rb (LD a))))):=by
 have d:=Gb;have e:Rb (LD a)=.list ((Tp a).map λ o=>BH (Ku o)):=by delta Rb LD Tp<;>rfl
 rw[e]
 conv in CF 8=>whnf
 refine Cy V W B (.M (l:=Tp a) (g:=BH) _ (.list (.aa (by kernel_rfl)) rfl) (by kernel_rfl) (by kernel_rfl) (λ o s=>?_) (by simp[Tp];exact AH _ _)) (by kernel_rfl);obtain⟨i,Z,H⟩:=Al.mp s;have f:o.length=3:=by rw[<-H]<;>rfl
 clear H Z s;refine⟨[("row",.aa (BH o))],by kernel_rfl,?_⟩;have b:BH (Ku o)=.list (((List.range 3).filter λ k=>!((o.take k).any (·==o.getD k 0))).map λ k=>PV.int (o.getD k 0:Nat)):=by delta BH Ku;exact congrArg _ (AZ)<;>rfl
 rw[b];refine Cu.ev<| .T _ _ (.bl (by kernel_rfl) .int rfl (by exact AH _ _)) (by kernel_rfl) (by kernel_rfl) (λ j O=>?_) (by exact AH _ _);have O:=AC.mp O;have c:Cz (BH o) none (some ((j:Nat):Int)) none=some (BH (o.take j)):=by
  unfold BH;rw[KS _ _ (by rw[Af];omega),List.map_take]
 have Q:=J5 (l:=o) (i:=j) (by omega) (by omega);refine⟨[("k",.aa (.int (j:Nat))),("row",.aa (BH o))],by kernel_rfl,.bp (.o4 (.sub (b:=BH o) (.aa (by kernel_rfl)) (.aa (d:=.int (j:Nat)) (by kernel_rfl)) (λ _ _=>rfl) Q) (b:=BH (o.take j)) (.bh (.slice (b:=BH o) (.aa (by kernel_rfl)) .no (.int (.aa (d:=.int (j:Nat)) (by kernel_rfl))) .no c)) rfl (by exact .inr rfl) ?_),λ _=>.sub (b:=BH o) (.aa (by kernel_rfl)) (.aa (d:=.int (j:Nat)) (by kernel_rfl)) (λ _ _=>rfl) Q⟩;show(Vr _ _).map (!·)=_
 rw[S9]<;>rfl
end
noncomputable def Y9 (h:List Int)(k:PV):AM:=[("numbers",.aa (AD h)),("names",.aa (AB Do)),("spots",.aa (BH (KQ h))),("ports",.aa (AD (JK h))),("last",.aa (AD (Bz h))),("drawn",.aa k),("chains",.aa (Rb (LD h)))]
noncomputable def mM (h:List Int):AM:=[("numbers",.aa (AD h)),("names",.aa (AB Do)),("spots",.aa (BH (KQ h))),("ports",.aa (AD (JK h))),("last",.aa (AD (Bz h))),("chains",.aa (Rb (LD h))),("pairs",.aa (E1 (Dv h)))]
noncomputable def qK (h:List Int):AM:=[("numbers",.aa (AD h)),("names",.aa (AB Do)),("spots",.aa (BH (KQ h))),("ports",.aa (AD (JK h))),("last",.aa (AD (Bz h))),("pairs",.aa (E1 (Dv h))),("wished",.aa (MK (KD h)))]
noncomputable def mL (h:List Int):AM:=[("numbers",.aa (AD h)),("names",.aa (AB Do)),("spots",.aa (BH (KQ h))),("ports",.aa (AD (JK h))),("last",.aa (AD (Bz h))),("pairs",.aa (E1 (Dv h))),("wished",.aa (MK (KD h))),("odd",.aa (MK NN))]
noncomputable def lR (h:List Int):AM:=[("names",.aa (AB Do)),("spots",.aa (BH (KQ h))),("ports",.aa (AD (JK h))),("last",.aa (AD (Bz h))),("pairs",.aa (E1 (Dv h))),("wished",.aa (MK (KD h))),("spoiled",.aa (MK (L7 h)))]
theorem Wp (h:l.length<=3):DC l=(List.range (l.length-1)).map λ k=>(l.getD k 0,l.getD (k+1) 0):=by
 exact Lv (P:=λ l=>DC l=(List.range (l.length-1)).map λ k=>(l.getD k 0,l.getD (k+1) 0)) rfl (λ a=>Lv rfl λ b=>Lv rfl λ c=>kD rfl) l h
theorem JG (l:List Str):Em (l.map PV.str)=some l:=by
 unfold Em;rw[Oi (g:=λ d=>match d with | .str i=>i |_=>"") λ x h=>?_,AZ]
 ·congr 1;exact List.map_id l
 ·obtain⟨i,_,rfl⟩:=Al.mp h;rfl
theorem M3 {c d:Type}(f:c->List d)(l:List c)(h:∀a∈l,(f a).length<=m):(l.flatMap f).length<=m*l.length:=by
 induction l with
 |nil=>exact AP _
 |cons a l k=>
  rw[FG,AA,EF,Jy,BE];exact DW (k λ b o=>h b (Ad _ o)) (h a Ac)
section
variable {C:A5}{A:Around}{z:Env}
theorem v9 (W:GW w h C k mg mb)(Z:Cc k A)(B:Hq w h 181 z N):LY w h A z N (exec (CF 9) z) (Y9 c d) (.next (AN (Y9 c d) "pairs" (.aa (E1 (Dv c))))):=by
 have p:=Gb;have O:∀o∈LD c,o.length<=3/\1<=o.length:=λ o s=>⟨(aS (HN s)).l3,(aS (HN s)).l1⟩;have e:E1 (Dv c)=.list ((LD c).flatMap λ o=>(List.range (o.length-1)).map λ k=>Wu (o.getD k 0,o.getD (k+1) 0)):=by
  unfold E1 Dv Dz;rw[List.map_flatMap];congr 1;have:∀l:List (List Nat),(∀o∈l,o.length<=3)->(l.flatMap λ o=>(DC o).map Wu)=l.flatMap λ o=>(List.range (o.length-1)).map λ k=>Wu (o.getD k 0,o.getD (k+1) 0):=by
   intro l;induction l with
   |nil=>intro _;rfl
   |cons a l f=>
    intro V;rw[FG,FG,f λ b N=>V b (Ad _ N),Wp (V a Ac),AZ];rfl
  exact this _ λ o s=>(O o s).1
 have q:(LD c).length=4:=by simp[LD]
 have g:((LD c).flatMap λ o=>(List.range (o.length-1)).map λ k=>Wu (o.getD k 0,o.getD (k+1) 0)).length<=Bf:=by
  have:=M3 (m:=3) (λ o:List Nat=>(List.range (o.length-1)).map λ k=>Wu (o.getD k 0,o.getD (k+1) 0)) (LD c) λ o s=>by
   have:=(O o s).1;simp;omega
  omega
 rw[e];generalize LD c=Q at*
 conv in CF 9=>whnf
 refine Cy W Z B (.M2 (l:=Q) (g:=BH) (g2:=λ(i:Nat)=>PV.int (i:Nat)) (λ o=>List.range (o.length-1)) (λ o k=>Wu (o.getD k 0,o.getD (k+1) 0)) (.list (.aa ?_) rfl) (by kernel_rfl) (by kernel_rfl) (λ o s=>?_) g) (by kernel_rfl)
 ·kernel_rfl
 ·obtain⟨r,m⟩:=O o s;refine⟨[("row",.aa (BH o))],by kernel_rfl,.bl (by kernel_rfl) (.ai (a:=.int (o.length:Nat)) (.blt (b:=.len) (ds:=[BH o]) (by kernel_rfl) (by kernel_rfl) (.cons (.aa (d:=BH o) (by kernel_rfl)) .nil rfl) (by show some (PV.int ((o.map λ n=>PV.int (n:Nat)).length:Nat))=_;rw[Af])) .int ?_) rfl (by omega),by kernel_rfl,λ j H=>?_⟩
  ·rw[GZ];exact congrArg (λ x=>some (PV.int x)) (Int.ofNat_sub m).symm
  ·have H:=AC.mp H;refine⟨[("k",.aa (.int (j:Nat))),("row",.aa (BH o))],by kernel_rfl,.aw (.cons (.sub (b:=BH o) (.aa (by kernel_rfl)) (.aa (d:=.int (j:Nat)) (by kernel_rfl)) (λ _ _=>rfl) (J5 (AJ H (CY ..)) (by omega))) (.cons (.sub (b:=BH o) (.aa (by kernel_rfl)) (.ai (b:=.int 1) (d:=.int ((j+1:Nat):Int)) (.aa (d:=.int (j:Nat)) (by kernel_rfl)) .int (Vi _ _)) (λ _ _=>rfl) (J5 (Nat.add_lt_of_lt_sub H) (by omega))) .nil rfl) rfl) (by show 2<=Bf;omega)⟩
theorem rG (H:GW w h C k mg mb)(O:Cc k A)(B:Hq w h 181 z N):LY w h A z N (exec (CF 10) z) (mM a) (.next (AN (mM a) "wished" (.aa (MK (KD a))))):=by
 have Z:=Gb;have Q:∀o∈LD a,pV o:=λ o s=>aS (HN s);have b:(LD a).length=4:=by simp[LD]
 have e:MK (KD a)=.list ((LD a).map λ o=>AB (Lh o)):=by unfold MK KD;rw[AZ]<;>rfl
 rw[e]
 conv in CF 10=>whnf
 refine Cy H O B (.M (l:=LD a) (g:=BH) _ (.list (.aa (by kernel_rfl)) rfl) (by kernel_rfl) (by kernel_rfl) (λ o s=>?_) (by omega)) (by kernel_rfl);have F:=Q o s;have c:=F.l3;refine⟨[("row",.aa (BH o)),("names",.aa (AB Do))],by kernel_rfl,?_⟩;refine .p0 (b':=decide ((1:Int)<(o.length:Nat))) (.an (a:=.int (o.length:Nat)) (.blt (b:=.len) (ds:=[BH o]) (by kernel_rfl) (by kernel_rfl) (.cons (.aa (d:=BH o) (by kernel_rfl)) .nil rfl) (by show some (PV.int ((o.map λ n=>PV.int (n:Nat)).length:Nat))=_;rw[Af])) .int rfl (by rfl)) ?_;unfold Lh;by_cases q:1<o.length
 ·rw[decide_eq_true (by omega),if_pos rfl,if_pos q];refine .list (.cons (.bn (mf:=.join) (b:=.str "/") (ds:=[AB (o.map nm)]) (by kernel_rfl) (by kernel_rfl) (.af (by kernel_rfl)) (.cons ?_ .nil rfl) (by simp) ?_) .nil rfl) (by show 1<=Bf;omega)
  ·have V:AB (o.map nm)=.list (o.map λ i=>PV.str (nm i)):=by unfold AB;rw[AZ]<;>rfl
   rw[V];refine Cu.ev<| .M (l:=o) (g:=λ(i:Nat)=>PV.int (i:Nat)) _ (.list (.aa (by kernel_rfl)) rfl) (by kernel_rfl) (by kernel_rfl) (λ i W=>?_) (by omega);exact⟨[("k",.aa (.int (i:Nat))),("names",.aa (AB Do))],by kernel_rfl,.sub (b:=AB Do) (.aa (by kernel_rfl)) (.aa (d:=.int (i:Nat)) (by kernel_rfl)) (λ _ _=>rfl) (Ir (F.lt i W))⟩
  ·show(Em ((o.map nm).map PV.str)).bind _=_;rw[JG];show(if(JoinOk "/" (o.map nm)&&J2 (Fj o))=true then some (PV.str (Fj o)) else none)=_;rw[F.jok q,F.oks q]<;>rfl
 ·rw[decide_eq_false (by omega),if_neg (by simp),if_neg q];exact .list .nil (by show 0<=Bf;omega)
theorem rF (o:GW w h C k mg mb)(s:Cc k A)(B:Hq w h 181 z N):LY w h A z N (exec (CF 11) z) O (.next (AN O "odd" (.aa (MK NN)))):=by
 have H:=Gb;have z1:1<=Bf:=by omega
 have z2:2<=Bf:=by omega
 conv in CF 11=>whnf
 exact A6 o s B (.list (.cons (.list (.cons (.af (by kernel_rfl)) .nil rfl) z1) (.cons (.list (.cons (.af (by kernel_rfl)) .nil rfl) z1) (.cons (.list (.cons (.af (by kernel_rfl)) (.cons (.af (by kernel_rfl)) .nil rfl) rfl) z2) (.cons (.list (.cons (.af (by kernel_rfl)) .nil rfl) z1) .nil rfl) rfl) rfl) rfl) (by show 4<=Bf;omega)) (by kernel_rfl)
theorem rE (s:GW w h C k mg mb)(H:Cc k A)(B:Hq w h 181 z N)(V:a.length=8):LY w h A z N (exec (CF 12) z) (mL a) (.next (AN (mL a) "spoiled" (.aa (MK (L7 a))))):=by
 have W:=Gb;have e:MK (L7 a)=.list ((List.range 4).map λ k=>AB (if Tw a k then NN.getD k [] else[])):=by unfold MK L7;rw[AZ]<;>rfl
 rw[e]
 conv in CF 12=>whnf
 refine Cy s H B (.M _ (.bl (by kernel_rfl) .int rfl (by omega)) (by kernel_rfl) (by kernel_rfl) (λ i o=>?_) (by simp;omega)) (by kernel_rfl);have o:=AC.mp o;refine⟨[("k",.aa (.int (i:Nat))),("numbers",.aa (AD a)),("odd",.aa (MK NN))],by kernel_rfl,?_⟩;have p:=(by decide:∀i<4,(2:Int)^i≠0/\((2:Int)^i).natAbs<1073741824/\(0:Int)<=2^i) i o;have O:Tw a i=decide ((((a.getD 7 0).fdiv 5).fdiv (2^i)).fmod 2=1):=by
  unfold Tw;rw[GD (by decide),GE p.2.2,GE (by decide)]<;>rfl
 rw[O];refine .p0 (b':=decide ((((a.getD 7 0).fdiv 5).fdiv (2^i)).fmod 2=1)) (.an (a:=.int ((((a.getD 7 0).fdiv 5).fdiv (2^i)).fmod 2)) (.ai (a:=.int (((a.getD 7 0).fdiv 5).fdiv (2^i))) (.ai (a:=.int ((a.getD 7 0).fdiv 5)) (.ai (.sub (b:=AD a) (.aa (by kernel_rfl)) .int (λ _ _=>rfl) (FB (i:=7) (by omega) (by omega))) .int (JR (by decide))) (.ai .int (.aa (d:=.int (i:Nat)) (by kernel_rfl)) (Wk ⟨by omega,by omega,by decide⟩)) (JR ⟨p.1,p.2.1⟩)) .int (K4 (by decide))) .int rfl (QM _ _)) ?_;generalize decide ((((a.getD 7 0).fdiv 5).fdiv (2^i)).fmod 2=1)=Q;cases Q with
 |true=>
  rw[if_pos rfl,if_pos rfl];exact .sub (b:=MK NN) (.aa (by kernel_rfl)) (.aa (d:=.int (i:Nat)) (by kernel_rfl)) (λ _ _=>rfl) (Du (by show 4<=Bf;omega) (by rw[Aw,Ej (l:=NN) (d:=[]) o]<;>rfl))
 |false=>
  rw[if_neg (by simp),if_neg (by simp)];exact .list .nil (by show 0<=Bf;omega)
end
structure LE (w:World)(h:Heap)(A:Around)(env:Env)(hb:Heap):Prop where
 B:Hq w h 181 env hb
 hA:Cc 8 A
 O:Vl (W1 w h) A env hb []
 wr:∀b∈Ay env,C3 (Ds w 181).scope env b
 he:∃n,env=callEnvC (Ds w 181) n 181
structure PG (w:World)(h:Heap)(A:Around)(env:Env)(hb:Heap)(sts:List Stmt)(ρ:AM):Prop where
 go:∀(s:Shared)(Q:Flow->Shared->Prop)(E:B3),XS (W1 w h) (Ds w 181).scope env hb (Ay env) (Ay env) s ρ->(∀h' tk,A9 (W1 w h) hb h'->s.toks<=tk->Q (.ret (.bool true)) {s with heap:=h',toks:=tk})->wpAny (W1 w h).M A (execs sts env) Q E s
section
variable {C:A5}{A:Around}{z:Env}
theorem EI {r:List Stmt}{st:Stmt}{a:AM}(c:LY w h A z N (exec st z) O (.next a))(d:PG w h A z N r a):PG w h A z N (st::r) O:=.mk λ s Q E S e=>
 Aj (c.go _ _ s _ _ S λ C k H f V=>d.go {s with heap:=C,toks:=k} Q E H λ W o b Z=>e W o b (Aa V Z))
theorem Ip (e:a=Ci b O)(k:PG w h A z N r a):PG w h A z N r O:=.mk λ s Q E S o=>k.go s Q E (S.au (e▸CP)) o
theorem dL {r:List Stmt}{st:Stmt}(V:LY w h A z N (exec st z) O (.ret (.bool true))):PG w h A z N (st::r) O:=.mk λ s Q E S W=>
 Aj (V.go _ _ s _ _ S λ v o k H C Z=>(show v=.bool true from Z.ah)▸W o k H C)
theorem Xt (o:(fd.scope.names.map (·.1)).Nodup)(n a:Nat):∀b∈Ay (callEnvC fd n a),C3 fd.scope (callEnvC fd n a) b:=λ b w=>by
 rcases Ae.mp w with q |q
 ·exact .inl q
 ·obtain⟨⟨x,c⟩,z,rfl⟩:=Al.mp q;have s:(callEnvC fd n a).cells.lookup x=some c:=Jw fd.scope.names (n+1) [] o (λ p h=>nomatch h) (λ p h=>nomatch h) (x,c) z;refine .inr ⟨x,?_,s⟩;cases e:decide (fd.scope.names.lookup x=some .cell) with
  |true=>simpa using e
  |false=>
   have A:fd.scope.names.lookup x≠some .cell:=by simpa using e
   have:=(Cs x fd.scope.names (n+1) [] o).1 A;have k:(cellsFrom (n+1) fd.scope.names []).lookup x=some c:=s;exact BZ this k
noncomputable def Wv (h:AM):Bool:=h.all λ p=>match p.2 with | .own _=>false |_=>true
theorem IY (k:Wv O=true):∀y d,O.lookup y≠some (.own d):=λ y d q=>by
 have:∀l:AM,Wv l=true->l.lookup y=some (.own d)->False:=by
  intro l;induction l with
  |nil=>intro _ q;cases q
  |cons p l o=>
   intro h q;obtain⟨x,s⟩:=p;unfold Wv at h;rw[Ct,As] at h;rw[List.lookup_cons] at q;split at q
   ·cases q;exact absurd h.1 (by simp)
   ·exact o h.2 q
 exact this O k q
theorem t0 (s:GW w h C k mg mb)(L:LE w h A z N)(hk:k<=8)(c:a.length<=Bf)(d:PG w h A z N r (lR (Lp (a.take 60)))):
 PG w h A z N (CF 0::CF 1::CF 2::CF 3::CF 4::CF 5::CF 6::CF 7::CF 8::CF 9::CF 10::CF 11::CF 12::r) (Y0 a):=by
 have H:=L.hA.ag hk;have B:=L.B;have e:(a.take 60).length<=100:=by rw[ED];exact Aa (Eg ..) (by decide)
 refine EI (v0 s H B c) (EI (v1 s H B) ?_);have O:=Wt (a.take 60);generalize a.take 60=Q at*;have f:Y2 a Q=Ci ["script","taken","own"] (AN (AN (Y0 a) "taken" (.aa (AD Q))) "own" (.aa (AD Ui))):=by kernel_rfl
 refine Ip f (EI (v2 s H B e) ?_);generalize Lp Q=o at*;refine EI (v3 s H B) ?_;have g:Y4 o=Ci ["numbers","names"] (AN (AN (Y2 a Q) "numbers" (.aa (AD o))) "names" (.aa (AB Do))):=by kernel_rfl
 refine Ip g (EI (v4 s H B O) ?_);have i:Y5 o=Ci ["numbers","names","spots"] (AN (Y4 o) "spots" (.aa (BH (KQ o)))):=by kernel_rfl
 refine Ip i (EI (v5 s H B O) ?_);have j:Y6 o=Ci ["numbers","names","spots","ports"] (AN (Y5 o) "ports" (.aa (AD (JK o)))):=by kernel_rfl
 refine Ip j (EI (v6 s H B O) ?_);have l:Y7 o=Ci ["numbers","names","spots","ports","last"] (AN (Y6 o) "last" (.aa (AD (Bz o)))):=by kernel_rfl
 refine Ip l (EI (v7 s H B O) ?_);have m:Y8 o (Rb (Tp o))=Ci ["numbers","names","spots","ports","last","drawn"] (AN (Y7 o) "drawn" (.aa (Rb (Tp o)))):=by kernel_rfl
 refine Ip m (EI (v8 s H B) ?_);have n:Y9 o (Rb (Tp o))=Ci ["numbers","names","spots","ports","last","drawn","chains"] (AN (Y8 o (Rb (Tp o))) "chains" (.aa (Rb (LD o)))):=by kernel_rfl
 refine Ip n (EI (v9 s H B) ?_);have V:mM o=Ci ["numbers","names","spots","ports","last","chains","pairs"] (AN (Y9 o (Rb (Tp o))) "pairs" (.aa (E1 (Dv o)))):=by kernel_rfl
 refine Ip V (EI (rG s H B) ?_);have W:qK o=Ci ["numbers","names","spots","ports","last","pairs","wished"] (AN (mM o) "wished" (.aa (MK (KD o)))):=by kernel_rfl
 refine Ip W (EI (rF s H B) ?_);have Z:mL o=Ci ["numbers","names","spots","ports","last","pairs","wished","odd"] (AN (qK o) "odd" (.aa (MK NN))):=by kernel_rfl
 refine Ip Z (EI (rE s H B O) ?_);have b:lR o=Ci ["names","spots","ports","last","pairs","wished","spoiled"] (AN (mL o) "spoiled" (.aa (MK (L7 o)))):=by kernel_rfl
 exact Ip b d
end
noncomputable def Tu (h:List Int):List (Str×PV):=(List.range 6).foldl (Nq (KQ h) (JK h)) []
noncomputable def LF (h:List Int):List (Str×PV):=(List.range 5).map λ k=>(nm k,DA (Ch h k))
theorem Ts:Tu a=LF a:=by
 have w:= @VU a;unfold Tu LF Nq;have h:∀i<6,(JK a).getD i 0=KW a i:=λ i k=>by
  unfold JK;rw[Ax,Aw,Dj k]<;>rfl
 show[0,1,2,3,4,5].foldl (λ o p=>D8 o (nm ((KQ a).getD p 0)) (DA ((JK a).getD p 0))) []=[0,1,2,3,4].map _;simp only[JC,List.foldl_nil,A0,Jh,h 0 (by omega),h 1 (by omega),h 2 (by omega),h 3 (by omega),h 4 (by omega),h 5 (by omega)];unfold KQ Ch;generalize KW a 0=H;generalize KW a 1=N;generalize KW a 2=O;generalize KW a 3=Q;generalize KW a 4=V;generalize KW a 5=W;generalize sp5 a=s at*
 revert s
 repeat (refine Mq ?_ (by kernel_rfl))
 exact Jj
theorem Vb:Kr (Tu a) (LF a)=some true:=by
 rw[Ts];have h:∀i:Int,KE (DA i) (DA i)=some true:=λ i=>by
  show some (PyData.eqv (FR (DA i)) (FR (DA i)))=_;show some (decide (("peer":Str)="peer")&&((i==i)&&true))=_;simp
 unfold Kr LF;have:Kj ((List.range 5).map λ k=>(nm k,DA (Ch a k))) ((List.range 5).map λ k=>(nm k,DA (Ch a k)))=some true:=by
  generalize Ch a=f;show Kj [(nm 0,DA (f 0)),(nm 1,DA (f 1)),(nm 2,DA (f 2)),(nm 3,DA (f 3)),(nm 4,DA (f 4))] [(nm 0,DA (f 0)),(nm 1,DA (f 1)),(nm 2,DA (f 2)),(nm 3,DA (f 3)),(nm 4,DA (f 4))]=_;generalize f 0=s;generalize f 1=w;generalize f 2=H;generalize f 3=N;generalize f 4=O;have step:∀(o:List (Str×PV))(n:Str)(d:PV)(r:List (Str×PV))(e:Str×PV),o.find? (λ e=>e.1=n)=some e->KE d e.2=some true->Kj o r=some true->Kj o ((n,d)::r)=some true:=λ o n d r e Q V W=>by
   rw(occs:=.all) [MS];rw[Q];show(KE d e.2).bind _=_;rw[V,W]<;>rfl
  refine step _ _ _ _ (nm 0,DA s) (by kernel_rfl) (h s) (step _ _ _ _ (nm 1,DA w) (by kernel_rfl) (h w) (step _ _ _ _ (nm 2,DA H) (by kernel_rfl) (h H) (step _ _ _ _ (nm 3,DA N) (by kernel_rfl) (h N) (step _ _ _ _ (nm 4,DA O) (by kernel_rfl) (h O) rfl))))
 rw[this];simp
theorem Zt:∀{k:List PV},(∀x∈k,O7 (n+1) x=true)->lvlL (n+1) k=true:=by
 intro k;induction k with
 |nil=>
  intro _;exact rfl
 |cons x k o=>
  intro h;show(O7 (n+1) x&&lvlL (n+1) k)=true;rw[h x Ac,o λ y s=>h y (Ad _ s)]<;>rfl
theorem U1:∀{k:List PV},(∀x∈k,PyData.eqv (FR x) (FR x)=true)->PyData.eqvAll (toPyL k) (toPyL k)=true:=by
 intro k;induction k with
 |nil=>
  intro _;rfl
 |cons x k o=>
  intro h;exact Ai.mpr ⟨h x Ac,o λ y s=>h y (Ad _ s)⟩
theorem QL (h:∀x∈a,PyData.eqv (FR x) (FR x)=true):PyData.eqv (FR (.list a)) (FR (.list a))=true:=by
 show PyData.eqv (.list (toPyL a)) (.list (toPyL a))=true;rw[PyData.eqv];exact U1 h
theorem Pm (h:∀x∈a,O7 5 x=true)(k:∀x∈a,PyData.eqv (FR x) (FR x)=true):KE (.list a) (.list a)=some true:=by
 unfold KE;have:O7 6 (.list a)=true:=Zt h;rw[this,if_pos (show(true&&true)=true from rfl),QL k]
theorem QK (x:Str):PyData.eqv (FR (.str x)) (FR (.str x))=true:=by
 show decide (x=x)=true;simp
theorem XE (x:Int):PyData.eqv (FR (.int x)) (FR (.int x))=true:=by
 show(x==x)=true;simp
theorem Mj (l:List Str):KE (AB l) (AB l)=some true:=
 Pm (λ x h=>by obtain⟨y,_,rfl⟩:=Al.mp h;rfl) λ x h=>by obtain⟨y,_,rfl⟩:=Al.mp h;exact QK y
theorem aL (l:List Int):KE (AD l) (AD l)=some true:=
 Pm (λ x h=>by obtain⟨y,_,rfl⟩:=Al.mp h;rfl) λ x h=>by obtain⟨y,_,rfl⟩:=Al.mp h;exact XE y
theorem To (l:List (List Str)):KE (.list (Cw l)) (.list (Cw l))=some true:=
 Pm (λ x h=>by obtain⟨y,_,rfl⟩:=Al.mp h;exact MJ 3 y) λ x h=>by
  obtain⟨y,_,rfl⟩:=Al.mp h;exact QL λ z k=>by obtain⟨u,_,rfl⟩:=Al.mp k;exact QK u
noncomputable def YR (h:List Int):List Str:="no 226 all told"::(L7 h).flatten
noncomputable def J4 (h:List Int):PV:=.aw [.dict (LF h),AB (KD h).flatten,AB (YR h)]
noncomputable def pH (h:List Int)(t:Addr):AM:=[("names",.aa (AB Do)),("spots",.aa (BH (KQ h))),("ports",.aa (AD (JK h))),("last",.aa (AD (Bz h))),("pairs",.aa (E1 (Dv h))),("wished",.aa (MK (KD h))),("spoiled",.aa (MK (L7 h))),("told",.ao (.ref t))]
noncomputable def mK (h:List Int)(t:Addr):AM:=[("names",.aa (AB Do)),("spots",.aa (BH (KQ h))),("ports",.aa (AD (JK h))),("last",.aa (AD (Bz h))),("pairs",.aa (E1 (Dv h))),("wished",.aa (MK (KD h))),("spoiled",.aa (MK (L7 h))),("told",.ao (.ref t)),("refused",.aa (AB (YR h)))]
noncomputable def mJ (h:List Int):AM:=[("names",.aa (AB Do)),("last",.aa (AD (Bz h))),("pairs",.aa (E1 (Dv h))),("told",.aa (J4 h))]
theorem I0 (l:List (List Str)):(l.flatMap λ h=>h.map PV.str)=l.flatten.map PV.str:=by
 rw[List.map_flatten,ZZq]
section
variable {C:A5}{A:Around}{z:Env}
theorem Rc:(KD a).flatten.length<=4:=by
 have:=M3 (m:=1) (λ l:List Str=>l) (KD a) λ l h=>((@Hd a).tk.uj l h).1;have k:(KD a).length=4:=(@Hd a).tk.tu;rw[ZZq,List.map_id',k] at this;exact this
theorem dR:(L7 a).flatten.length<=36:=by
 have:=M3 (m:=9) (λ l:List Str=>l) (L7 a) λ l h=>(@Hd a).tk.ul l h;have k:(L7 a).length=4:=(@Hd a).tk.t4;rw[ZZq,List.map_id',k] at this;exact this
theorem rC (s:GW w h C k mg mb)(H:Cc k A)(B:Hq w h 181 z N):LY w h A z N (exec (CF 14) z) (pH a t) (.next (mK a t)):=by
 have O:=Gb;have Q:= @dR a;have e:mK a t=Ci ["names","spots","ports","last","pairs","wished","spoiled","told","refused"] (AN (pH a t) "refused" (.aa (.list ([.str "no 226 all told"]++(L7 a).flatten.map .str)))):=by kernel_rfl
 refine Ex e ?_
 conv in CF 14=>whnf
 refine A6 s H B (.ai (a:=.list [.str "no 226 all told"]) (b:=.list ((L7 a).flatten.map .str)) (.list (.cons (.af (by kernel_rfl)) .nil rfl) (by show 1<=Bf;omega)) (by
  rw[<-I0];refine Cu.ev<| .M2 (l:=L7 a) (g:=AB) (g2:=PV.str) (λ o=>o) (λ _ t=>.str t) (.list (.aa (by kernel_rfl)) rfl) (by kernel_rfl) (by kernel_rfl) (λ o V=>?_) (by rw[I0,Af];omega);exact⟨[("part",.aa (AB o))],by kernel_rfl,.list (.aa (by kernel_rfl)) rfl,by kernel_rfl,λ t W=>⟨[("text",.aa (.str t)),("part",.aa (AB o))],by kernel_rfl,.aa (by kernel_rfl)⟩⟩) ?_) (by kernel_rfl)
 show(if[PV.str "no 226 all told"].length+((L7 a).flatten.map PV.str).length<=Bf then some (PV.list ([.str "no 226 all told"]++(L7 a).flatten.map .str)) else none)=_;rw[if_pos (by rw[Af];show 1+_<=Bf;omega)]
end
section
variable {C:A5}{A:Around}{z:Env}
theorem YA:(CL D).fn "_law_talk"=some (GP (SH D.sp D.po D.wi D.so) (.list (NZ D.sp D.po D.wi D.so))):=by
 show US D "_law_talk"=_;unfold US;rw[if_neg (by decide+kernel),if_neg (by decide+kernel),if_neg (by decide+kernel),if_neg (by decide+kernel),if_pos rfl]
theorem JL (a:List PV)(r:PV):GP a r a=some r:=by unfold GP;rw[if_pos rfl]
theorem t1 {d:ExcName->Option Value}(I:EW w h)(T:Top g c d mg mb h)(l:importsNone g=true)(L:LE w h A z N)(a6:PG w h A z N r (mJ a)):PG w h A z N (CF 13::CF 14::CF 15::r) (lR a):=.mk λ s Q E S hQ=>by
 have b1:=Gb;have Gk:Dt (W1 w h) (CL (Iu a)) 2 mg mb:=iV (k:=0) I T l Hd;refine C6 λ gg kk=>?_;obtain⟨f,f0,f1,f2⟩:=(V5 (k:=1) (D:=Iu a) (ns:=a) I T l).fn;refine kk ?_;have fo:=Xv I T;have tv:∀m p p3 p4 p5 p6 p7,CE (CL (Iu a)) (Ds w 181).scope (lR a) (.Call (.Name "_law_talk" m) [.Name "names" p,.Name "spots" p3,.Name "ports" p4,.Name "wished" p5,.Name "spoiled" p6] [] p7) (.list (NZ (KQ a) (JK a) (KD a) (L7 a))):=λ m p p3 p4 p5 p6 p7=>
  .fn (by kernel_rfl) YA (.cons (.aa (d:=AB Do) (by kernel_rfl)) (.cons (.aa (d:=BH (KQ a)) (by kernel_rfl)) (.cons (.aa (d:=AD (JK a)) (by kernel_rfl)) (.cons (.aa (d:=MK (KD a)) (by kernel_rfl)) (.cons (.aa (d:=MK (L7 a)) (by kernel_rfl)) .nil rfl) rfl) rfl) rfl) rfl) (JL _ _)
 conv in CF 13=>whnf
 refine Aj (TS Gk L.B L.O S (IY (by kernel_rfl)) L.wr (jR I T) ((C7 I T _).trans (by kernel_rfl)) fo ZT ((C7 I T _).trans (by kernel_rfl)) (XC I T) (cU I T) (rfl) (L.hA.ag (by exact AH _ _)) (tv _ _ _ _ _ _ _) rfl (es:=λ i=>(f i).1) (hs:=λ i=>(f i).2.1) (ss:=λ i=>(f i).2.2) (by exact congrArg _ (f0)) (by rw[f0]) (by rw[f0]) (λ i x e=>f2 i x e) (by kernel_rfl) (by kernel_rfl) (by kernel_rfl) λ O V D t nt v1 v2 u hD v hT m p pD y=>?_);simp only[f1] at m p pD;have eY:AN (lR a) "told" (.ao (.ref t))=pH a t:=by kernel_rfl
 have B:D∉Ay z:=λ q=>by
  obtain⟨o,ho⟩:=S.F.am D q;exact BZ hD ho
 have a2:¬C3 (Ds w 181).scope z D:=λ q=>B (S.F.bq q);refine Aj ((rC Gk (L.hA.ag (by omega)) L.B).go _ _ {s with heap:=O,toks:=V} _ _ u λ H W G kd J=>?_);have a3:H.get? t=some (Jk #[.ref D,v1,v2] nt):=kd t _ (.inl ⟨v,.inr (.inl rfl)⟩) hT;have M:∀b o,O.get? b=some o->b∉D::Ay z->(o.cls=.type "list"\/o.cls=.type "tuple"\/o.cls=.type "dict")->H.get? b=some o/\b∉D::Ay z:=λ b o e n hd=>⟨kd b o (.inl ⟨n,hd⟩) e,n⟩;have re:CE (CL (Iu a)) (Ds w 181).scope (mK a t) (((Fz (CF 15)).e 0).x 1) (.aw [.dict (LF a),AB (KD a).flatten,AB (YR a)]):=by
  have wl:= @Rc a
  conv in EV.x _ _=>whnf
  refine .aw (.cons (by
   refine Cu.ev<| .D (λ k=>nm k) (λ k=>DA (Ch a k)) (.bl (by kernel_rfl) .int rfl (by exact AH _ _)) (by kernel_rfl) (by kernel_rfl) (λ i hi=>?_) (by exact AH _ _);have hi:=AC.mp hi;have la:(Bz a).getD i 0=Ch a i:=by
    rw[Ax,Aw,Dj hi]<;>rfl
   have sl:=FB (l:=Bz a) (i:=i) (by simp[Bz];omega) (by simp[Bz]);rw[la] at sl;exact⟨[("k",.aa (.int (i:Nat))),("names",.aa (AB Do)),("last",.aa (AD (Bz a)))],by kernel_rfl,.sub (b:=AB Do) (.aa (by kernel_rfl)) (.aa (d:=.int (i:Nat)) (by kernel_rfl)) (λ _ _=>rfl) (Ir hi),.aw (.cons (.af (by kernel_rfl)) (.cons (.sub (b:=AD (Bz a)) (.aa (by kernel_rfl)) (.aa (d:=.int (i:Nat)) (by kernel_rfl)) (λ _ _=>rfl) sl) .nil rfl) rfl) (by show 2<=Bf;exact AH _ _)⟩) (.cons (by
   show CE _ _ _ _ (.list _);rw[<-I0];refine Cu.ev<| .M2 (l:=KD a) (g:=AB) (g2:=PV.str) (λ C=>C) (λ _ t=>.str t) (.list (.aa (by kernel_rfl)) rfl) (by kernel_rfl) (by kernel_rfl) (λ C hp=>?_) (by rw[I0,Af];omega);exact⟨[("part",.aa (AB C))],by kernel_rfl,.list (.aa (by kernel_rfl)) rfl,by kernel_rfl,λ t ht=>⟨[("text",.aa (.str t)),("part",.aa (AB C))],by kernel_rfl,.aa (by kernel_rfl)⟩⟩) (.cons (.aa (by kernel_rfl)) .nil rfl) rfl) rfl) (by show 3<=Bf;exact AH _ _)
 conv at re in EV.x _ _=>whnf
 conv in CF 15=>whnf
 refine Aj (ZR (s:={s with heap:=H,toks:=W}) Gk (L.hA.ag (by omega)) L.B G (x:="told") (by kernel_rfl) (IY (by kernel_rfl)) (λ _ h=>h) (λ _ h=>h) B v a3 (Rp.be M m) (Rp.be M p) (Bo.aj kd Ac a2 pD) re rfl (@Vb a) (Mj _) (Mj _) λ R Z U Y=>?_);have a4:mJ a=Ci ["names","last","pairs","told"] (AN (mK a t) "told" (.aa (.aw [.dict (Tu a),.list ((KD a).flatten.map .str),.list (.str "no 226 all told"::(L7 a).flatten.map .str)]))):=by
  rw[Ts];kernel_rfl
 refine a6.go {s with heap:=R,toks:=Z} Q E (U.au (by rw[a4];exact CP)) λ a0 j a5 a1=>hQ a0 j a5 (Aa y (Aa J (Aa Y a1)))
end
theorem PO (l:List Nat)(h:1<=l.length):Txt.slice (A4 l) (some ((1:Nat):Int)) none=A4 (l.drop 1):=by
 have:=KR l (i:=1) (j:=l.length) h;rw[Cj (by rw[EE];exact Ah _)] at this;rw[<-this];have e:strSliceIndices (some ((1:Nat):Int)) none 1 (A4 l).length=strSliceIndices (some ((1:Nat):Int)) (some (l.length:Int)) 1 (A4 l).length:=by
  rw[BY];have k:max (0:Int) (min (l.length:Int) (l.length:Int))=l.length:=by rw[Oy,Nat.min_self]
  simp only[strSliceIndices,show((1:Int)>0)=True from by simp,if_true,Zh,if_false,k]
 unfold Txt.slice;rw[e]
theorem gV (c:Nat):∀l:List Nat,cnt c l<=l.length:=by
 intro l;induction l with
 |nil=>
  rw[cnt_nil];simp
 |cons n l h=>
  have:=h;rw[cnt_cons,EF];split
  ·exact AT (Int.add_le_add_left this 1) (Int.le_of_eq (Int.add_comm 1 _))
  ·exact AT (Int.le_of_eq (Int.zero_add _)) (AT this (ET.mpr (A8 _)))
theorem Qc (m:Int):(Fk m).length=10:=by
 unfold Fk J3 jF;rfl
theorem UL (m:Int):0<=Qy m:=by
 unfold Qy;rw[PO _ (by rw[Qc];omega)];have e:("-":Str)=⟨#[45]⟩:=by kernel_rfl
 rw[e,count_cnt];have:=gV 45 (A4 ((Fk m).drop 1)).cps.toList;have l:(A4 ((Fk m).drop 1)).cps.toList.length=9:=by
  show((Fk m).drop 1).toArray.toList.length=9;rw[List.toList_toArray,EE,Qc]
 rw[l] at this;exact Int.sub_nonneg.mpr this
theorem Pq (a b:PV):H8 .NotEq a b=(KE a b).map (!·):=rfl
noncomputable def Fe (f:Nat->PV):List (Str×PV):=(List.range 5).map λ k=>(nm k,f k)
theorem VI (f:Nat->PV)(h:i<5):Dd (.dict (Fe f)) (.str (nm i))=some (f i):=by
 show Dd (.dict [(nm 0,f 0),(nm 1,f 1),(nm 2,f 2),(nm 3,f 3),(nm 4,f 4)]) _=_;exact(show ∀i:Nat,i<5->Dd (.dict [(nm 0,f 0),(nm 1,f 1),(nm 2,f 2),(nm 3,f 3),(nm 4,f 4)]) (.str (nm i))=some (f i) from by
  repeat (refine Mq ?_ (by kernel_rfl))
  exact Jj) i h
noncomputable def Gw (h:List Int):List Str:=(Bz h).map λ m=>A4 (Fk m)
noncomputable def Fp (h:List Int)(k:Nat):PV:=.int (Qy (Ch h k))
noncomputable def EL (h:List Int)(k:Nat):PV:=.int (Ch h k/4096)
noncomputable def pG (h:List Int):AM:=[("names",.aa (AB Do)),("last",.aa (AD (Bz h))),("pairs",.aa (E1 (Dv h))),("told",.aa (J4 h)),("modes",.aa (AD (Bz h)))]
noncomputable def lQ (h:List Int):AM:=[("names",.aa (AB Do)),("last",.aa (AD (Bz h))),("pairs",.aa (E1 (Dv h))),("told",.aa (J4 h)),("modes",.aa (AD (Bz h))),("signs",.aa (AB (Gw h)))]
noncomputable def pF (h:List Int):AM:=[("names",.aa (AB Do)),("last",.aa (AD (Bz h))),("pairs",.aa (E1 (Dv h))),("told",.aa (J4 h)),("modes",.aa (AD (Bz h))),("hours",.aa (.dict (Fe (Fp h))))]
noncomputable def pE (h:List Int):AM:=[("names",.aa (AB Do)),("last",.aa (AD (Bz h))),("pairs",.aa (E1 (Dv h))),("told",.aa (J4 h)),("hours",.aa (.dict (Fe (Fp h)))),("dues",.aa (.dict (Fe (EL h))))]
noncomputable def HY (h:List Int):PV:=Fo (Jx (JP h) (Kp h) (Dv h))
noncomputable def pC (h:List Int):AM:=[("names",.aa (AB Do)),("pairs",.aa (E1 (Dv h))),("told",.aa (J4 h)),("hours",.aa (.dict (Fe (Fp h)))),("dues",.aa (.dict (Fe (EL h)))),("best",.aa (HY h))]
section
variable {C:A5}{A:Around}{z:Env}
theorem VD {a:List Int}{i:Nat}(h:i<5):Dd (AD (Bz a)) (.int (i:Nat))=some (.int (Ch a i)):=by
 have k:(Bz a).getD i 0=Ch a i:=by
  unfold Bz;rw[Ax,Aw,Dj h]<;>rfl
 have o:=FB (l:=Bz a) (i:=i) (by simp[Bz];omega) (by simp[Bz]);rwa[k] at o
theorem Kf:(Bz a).length=5:=by simp[Bz]
theorem rB (s:GW w h C k mg mb)(H:Cc k A)(B:Hq w h 181 z N):LY w h A z N (exec (CF 16) z) (mJ a) (.next (pG a)):=by
 have V:=Gb;refine Ex (ks:=["names","last","pairs","told","modes"]) (ρ1:=AN (mJ a) "modes" (.aa (.list ((List.range 5).map λ i=>.int (Ch a i))))) (by kernel_rfl) ?_
 conv in CF 16=>whnf
 refine Cy s H B (.M (l:=List.range 5) (g:=λ i=>.str (nm i)) _ (.list (.aa (by kernel_rfl)) rfl) (by kernel_rfl) (by kernel_rfl) (λ i O=>?_) (by exact AH _ _)) (by kernel_rfl);have Q:Dd (.dict (LF a)) (.str (nm i))=some (DA (Ch a i)):=VI (λ k=>DA (Ch a k)) (AC.mp O);refine⟨[("name",.aa (.str (nm i))),("told",.aa (J4 a))],by kernel_rfl,?_⟩;generalize Ch a i=x at*;generalize LF a=o at*;exact .sub (b:=DA x) (.bh (.sub (b:=.dict o) (.bh (.sub (b:=.aw [.dict o,AB (KD a).flatten,AB (YR a)]) (.aa (by kernel_rfl)) .int (λ _ _=>rfl) (by kernel_rfl))) (.aa (d:=.str (nm i)) (by kernel_rfl)) (λ _ _=>rfl) Q)) .int (λ _ _=>rfl) (by kernel_rfl)
theorem Z4:(CL D).fn "filemode"=some Tf:=by
 show US D "filemode"=_;unfold US;rw[if_neg (by decide+kernel),if_neg (by decide+kernel),if_neg (by decide+kernel),if_pos rfl]
theorem Qu:(CL D).fn "S_IMODE"=some Ph:=by
 show US D "S_IMODE"=_;unfold US;rw[if_neg (by decide+kernel),if_neg (by decide+kernel),if_pos rfl]
theorem ML:(CL D).fn "_law_listing"=some MW:=by
 show US D "_law_listing"=_;unfold US;rw[if_neg (by decide+kernel),if_neg (by decide+kernel),if_neg (by decide+kernel),if_neg (by decide+kernel),if_neg (by decide+kernel),if_pos rfl]
theorem bN:(CL D).fn "_law_best"=some (GP [AD D.hrs,AD D.dus,E1 D.prs] (Fo (Jx D.hrs D.dus D.prs))):=by
 show US D "_law_best"=_;unfold US;rw[if_neg (by decide+kernel),if_neg (by decide+kernel),if_neg (by decide+kernel),if_neg (by decide+kernel),if_neg (by decide+kernel),if_neg (by decide+kernel),if_pos rfl]
theorem VK:(CL D).fn "_law_stuck"=some (GP [AB Do,NM (Ea D.prs)] (AB (Ft (Ea D.prs) 5 Do))):=by
 show US D "_law_stuck"=_;unfold US;rw[if_neg (by decide+kernel),if_neg (by decide+kernel),if_neg (by decide+kernel),if_neg (by decide+kernel),if_neg (by decide+kernel),if_neg (by decide+kernel),if_neg (by decide+kernel),if_pos rfl]
theorem Z5 (m:Int):Tf [.int m]=some (.str (A4 (Fk m))):=by
 show some (PV.str (A4 (E8 m 0 Gx)))=_;rw[UW]
theorem Qv (m:Int):Ph [.int m]=some (.int (m%4096)):=by
 show some (PV.int (Builtin.bitAnd m 4095))=_;rw[Yc]
theorem rA (o:Dt (W1 w h) (CL D) k mg mb)(s:Cc k A)(B:Hq w h 181 z N):LY w h A z N (exec (CF 17) z) (pG a) (.next (lQ a)):=by
 have C:=Gb;have H:= @Kf a;have e:AB (Gw a)=.list ((Bz a).map λ m=>.str (A4 (Fk m))):=by delta AB Gw<;>rfl
 refine Ex (ks:=["names","last","pairs","told","modes","signs"]) (ρ1:=AN (pG a) "signs" (.aa (AB (Gw a)))) (by kernel_rfl) ?_;rw[e]
 conv in CF 17=>whnf
 refine Cy o s B (.M (l:=Bz a) (g:=PV.int) _ (.list (.aa (by kernel_rfl)) rfl) (by kernel_rfl) (by kernel_rfl) (λ m O=>?_) (by exact AH _ _)) (by kernel_rfl);exact⟨[("mode",.aa (.int m))],by kernel_rfl,.fn (by kernel_rfl) Z4 (.cons (.aa (d:=.int m) (by kernel_rfl)) .nil rfl) (Z5 m)⟩
theorem qZ (C:Dt (W1 w h) (CL D) k mg mb)(H:Cc k A)(B:Hq w h 181 z N):LY w h A z N (exec (CF 18) z) (lQ a) (.next (lQ a)):=by
 have O:=Gb;have Q:= @Kf a;have e:AB (Gw a)=.list ((Bz a).map λ m=>.str (A4 (Fk m))):=by delta AB Gw<;>rfl
 have o:AD ((Bz a).map (·%4096))=.list ((Bz a).map λ m=>.int (m%4096)):=by unfold AD<;>rfl
 conv in CF 18=>whnf
 refine DY C H B (c:=(false||(false||false))) (.all (.ng (.an (a:=AB (Gw a)) (b:=AB (Gw a)) (.aa (by kernel_rfl)) (by
  rw[e];refine Cu.ev<| .M (l:=Bz a) (g:=PV.int) _ (.list (.aa (by kernel_rfl)) rfl) (by kernel_rfl) (by kernel_rfl) (λ m s=>?_) (by omega);exact⟨[("port",.aa (.int m))],by kernel_rfl,.fn (by kernel_rfl) ML (.cons (.aa (d:=.int m) (by kernel_rfl)) .nil rfl) rfl⟩) rfl (by rw[Pq,Mj]<;>rfl)) λ _=>.ng (.an (a:=AD ((Bz a).map (·%4096))) (b:=AD ((Bz a).map (·%4096))) (by
  rw[o];refine Cu.ev<| .M (l:=Bz a) (g:=PV.int) _ (.list (.aa (by kernel_rfl)) rfl) (by kernel_rfl) (by kernel_rfl) (λ m s=>?_) (by omega);exact⟨[("mode",.aa (.int m))],by kernel_rfl,.fn (by kernel_rfl) Qu (.cons (.aa (d:=.int m) (by kernel_rfl)) .nil rfl) (Qv m)⟩) (by
  rw[o];refine Cu.ev<| .M (l:=Bz a) (g:=PV.int) _ (.list (.aa (by kernel_rfl)) rfl) (by kernel_rfl) (by kernel_rfl) (λ m s=>?_) (by omega);refine⟨[("port",.aa (.int m))],by kernel_rfl,?_⟩;rw[<-GD (by decide)];exact .ai (.aa (d:=.int m) (by kernel_rfl)) .int (K4 (by decide))) rfl (by rw[Pq,aL]<;>rfl)) λ _=>.nil)) ?_
 exact DN
theorem qY (s:Dt (W1 w h) (CL D) k mg mb)(C:Cc k A)(B:Hq w h 181 z N):LY w h A z N (exec (CF 19) z) (lQ a) (.next (pF a)):=by
 have Q:=Gb;have V:= @Kf a;refine Ex (ks:=["names","last","pairs","told","modes","hours"]) (ρ1:=AN (lQ a) "hours" (.aa (.dict (Vt (Fe (Fp a)))))) (by kernel_rfl) ?_
 conv in CF 19=>whnf
 refine Cy s C B (.D (λ k=>nm k) (Fp a) (.bl (by kernel_rfl) .int rfl (by exact AH _ _)) (by kernel_rfl) (by kernel_rfl) (λ i o=>?_) (by exact AH _ _)) (by kernel_rfl);have o:=AC.mp o;have H:Dd (AB (Gw a)) (.int (i:Nat))=some (.str (A4 (Fk (Ch a i)))):=by
  have O:(Bz a)[i]? =some (Ch a i):=by
   rw[Aw,Dj o]<;>rfl
  refine Du (by rw[Af,Af];exact AH _ _) ?_;rw[Aw,Aw,O]<;>rfl
 refine⟨[("k",.aa (.int (i:Nat))),("names",.aa (AB Do)),("signs",.aa (AB (Gw a)))],by kernel_rfl,.sub (b:=AB Do) (.aa (by kernel_rfl)) (.aa (d:=.int (i:Nat)) (by kernel_rfl)) (λ _ _=>rfl) (Ir o),?_⟩;refine .ai .int (.bn (mf:=.count) (b:=.str (Txt.slice (A4 (Fk (Ch a i))) (some ((1:Nat):Int)) none)) (ds:=[.str "-"]) (by kernel_rfl) (by kernel_rfl) (.slice (b:=.str (A4 (Fk (Ch a i)))) (.bh (.sub (b:=AB (Gw a)) (.aa (by kernel_rfl)) (.aa (d:=.int (i:Nat)) (by kernel_rfl)) (λ _ _=>rfl) H)) (.int .int) .no .no (by show(if(none:Option Int)=none then some (PV.str _) else none)=_<;>rfl)) (.cons (.af (by kernel_rfl)) .nil rfl) (by decide) rfl) (GZ _ _)
theorem qX (C:Dt (W1 w h) (CL D) k mg mb)(H:Cc k A)(B:Hq w h 181 z N):LY w h A z N (exec (CF 20) z) (pF a) (.next (pE a)):=by
 have O:=Gb;refine Ex (ks:=["names","last","pairs","told","hours","dues"]) (ρ1:=AN (pF a) "dues" (.aa (.dict (Vt (Fe (EL a)))))) (by kernel_rfl) ?_
 conv in CF 20=>whnf
 refine Cy C H B (.D (λ k=>nm k) (EL a) (.bl (by kernel_rfl) .int rfl (by exact AH _ _)) (by kernel_rfl) (by kernel_rfl) (λ i o=>?_) (by exact AH _ _)) (by kernel_rfl);have o:=AC.mp o;have s:= @VD a i o;refine⟨[("k",.aa (.int (i:Nat))),("names",.aa (AB Do)),("modes",.aa (AD (Bz a)))],by kernel_rfl,.sub (b:=AB Do) (.aa (by kernel_rfl)) (.aa (d:=.int (i:Nat)) (by kernel_rfl)) (λ _ _=>rfl) (Ir o),?_⟩;have e:EL a i=.int ((Ch a i-Ch a i%4096).fdiv 4096):=by
  unfold EL;generalize Ch a i=x;rw[GE (by decide)];have:x/4096=(x-x%4096)/4096:=by rw[Int.emod_def,Int.sub_sub_self,Int.mul_ediv_cancel_left _ (by decide)]
  exact congrArg _ (this)
 simp only[e];exact .ai (a:=.int (Ch a i-Ch a i%4096)) (.ai (a:=.int (Ch a i)) (b:=.int (Ch a i%4096)) (.sub (b:=AD (Bz a)) (.aa (by kernel_rfl)) (.aa (d:=.int (i:Nat)) (by kernel_rfl)) (λ _ _=>rfl) s) (.fn (by kernel_rfl) Qu (.cons (.sub (b:=AD (Bz a)) (.aa (by kernel_rfl)) (.aa (d:=.int (i:Nat)) (by kernel_rfl)) (λ _ _=>rfl) s) .nil rfl) (Qv _)) (GZ _ _)) .int (JR (by decide))
theorem qW (o:Dt (W1 w h) (CL (Iu a)) k mg mb)(s:Cc k A)(B:Hq w h 181 z N):LY w h A z N (exec (CF 21) z) (pE a) (.next (pC a)):=by
 have Q:=Gb;have V:= @Kf a;have C:AD (JP a)=.list ((Bz a).map λ m=>.int (Qy m)):=by delta AD JP<;>rfl
 have H:AD (Kp a)=.list ((Bz a).map λ m=>.int (m.fdiv 4096)):=by
  delta AD Kp;rw[AZ]
  congr 1;apply By;intro m _;show PV.int (m/4096)=_;exact(congrArg _ (GE (by decide))).symm
 refine Ex (ks:=["names","pairs","told","hours","dues","best"]) (ρ1:=AN (pE a) "best" (.aa (HY a))) (by kernel_rfl) ?_
 conv in CF 21=>whnf
 refine A6 o s B (.fn (ds:=[AD (JP a),AD (Kp a),E1 (Dv a)]) (by kernel_rfl) bN (.cons ?_ (.cons ?_ (.cons (.aa (by kernel_rfl)) .nil rfl) rfl) rfl) (JL _ _)) (by kernel_rfl)
 ·rw[C];refine Cu.ev<| .M (l:=Bz a) (g:=PV.int) _ (.list (.aa (by kernel_rfl)) rfl) (by kernel_rfl) (by kernel_rfl) (λ m O=>?_) (by omega);refine⟨[("port",.aa (.int m))],by kernel_rfl,?_⟩;exact .ai .int (.bn (mf:=.count) (b:=.str (Txt.slice (A4 (Fk m)) (some ((1:Nat):Int)) none)) (ds:=[.str "-"]) (by kernel_rfl) (by kernel_rfl) (.slice (b:=.str (A4 (Fk m))) (.bh (.fn (by kernel_rfl) ML (.cons (.aa (d:=.int m) (by kernel_rfl)) .nil rfl) rfl)) (.int .int) .no .no (by show(if(none:Option Int)=none then some (PV.str _) else none)=_<;>rfl)) (.cons (.af (by kernel_rfl)) .nil rfl) (by decide) rfl) (GZ _ _)
 ·rw[H];refine Cu.ev<| .M (l:=Bz a) (g:=PV.int) _ (.list (.aa (by kernel_rfl)) rfl) (by kernel_rfl) (by kernel_rfl) (λ m O=>?_) (by omega);exact⟨[("port",.aa (.int m))],by kernel_rfl,.ai (.aa (d:=.int m) (by kernel_rfl)) .int (JR (by decide))⟩
end
noncomputable def M7 (h:List Int)(i:Nat):Int:=Ch h i/4096
noncomputable def WF (h:List Int)(i j:Nat):Bool:=decide (M7 h j-M7 h i<0)
noncomputable def kE (p:List Nat):PV:=AB (p.map nm)
noncomputable def dA (h:List Int)(p:List Nat):AM:=[("names",.aa (AB Do)),("pairs",.aa (E1 (Dv h))),("told",.aa (J4 h)),("hours",.aa (.dict (Fe (Fp h)))),("dues",.aa (.dict (Fe (EL h)))),("best",.aa (HY h)),("line",.aa (kE p))]
theorem eS:Le 5 (WF nu):=⟨λ i j _ _ h=>by unfold WF at*;simp at*;omega,λ i j l _ _ _ k o=>by unfold WF at*;simp at*;omega⟩
theorem Pg (h:i<5):Do.getD i Str.empty=nm i:=by
 exact(show ∀i:Nat,i<5->Do.getD i Str.empty=nm i from by
  repeat (refine Mq ?_ (by rfl))
  exact Jj) i h
section
variable {C:A5}{A:Around}{z:Env}
theorem WR {g:ExcName->Option Value}{φ:AM}(I:EW w h)(T:Top i e g mg mb h)(L:LE w h A z N){b:Scope}(o:(f,("law.<locals>.<lambda>":Str))∈cN)(d:∀z,defaultsOf a z=([],[]))(t:Yg a c b ps)(s:(b.names.map (·.1)).Nodup)
 (C:b.names.all (λ p=>!(p.2== .free)||(Ds w 181).scope.names.lookup p.1==some .cell)=true) (H:∀x k,φ.lookup x=some k->b.names.lookup x=some .free/\CM x=true/\O.lookup x=some k/\∃d,k=.aa d):TG (W1 w h) mg (Ds w 181).scope z O a c b f ps φ:=by
 obtain⟨n,rfl⟩:=L.he;refine⟨⟨180,178,cN,"law.<locals>.<lambda>",kG,by decide,bG I T (by decide),by kernel_rfl,o,by kernel_rfl⟩,d _,t,s,λ p Q V=>?_,H⟩;have:=AE.mp C p Q;rw[V] at this;simpa using this
noncomputable def fN (a:Str):Nat:=Do.idxOf a
theorem Mi:∀i<5,fN (nm i)=i:=by decide+kernel
theorem SY:∀a∈Do,∃i∈List.range 5,a=nm i:=by decide+kernel
theorem gO:∀a∈Do,∀b∈Do,CE (CL D) LR.2.2.1 ((["one","other"]:List Str).zip [CB.aa (.str a),.aa (.str b)]++([("dues",CB.aa (.dict (Fe (EL c))))]:AM)) LR.2.1 (.int (M7 c (fN b)-M7 c (fN a))):=λ a o b s=>by
 obtain⟨i,h,rfl⟩:=SY a o;obtain⟨j,k,rfl⟩:=SY b s;have h:=AC.mp h;have k:=AC.mp k;rw[Mi i h,Mi j k]
 conv in LR.2.1=>whnf
 exact .ai (a:=EL c j) (b:=EL c i) (.sub (b:=.dict (Fe (EL c))) (.aa (by kernel_rfl)) (.aa (d:=.str (nm j)) (by kernel_rfl)) (λ _ _=>rfl) (VI _ k)) (.sub (b:=.dict (Fe (EL c))) (.aa (by kernel_rfl)) (.aa (d:=.str (nm i)) (by kernel_rfl)) (λ _ _=>rfl) (VI _ h)) (GZ _ _)
theorem WV:Yg LR.1 LR.2.1 LR.2.2.1 ["one","other"]:=by
 refine⟨by kernel_rfl,by kernel_rfl,by kernel_rfl,?_,?_,by decide,λ h k w z A o s=>?_⟩
 ·decide+kernel
 ·decide+kernel
 ·obtain⟨a,b,rfl⟩:=Qn s
  conv in LR.1=>whnf
  rfl
theorem qV {c:ExcName->Option Value}(I:EW w h)(T:Top d b c mg mb h)(V:importsNone d=true)(L:LE w h A z N)(B:∀p,F3 5 (WF a) p->PG w h A z N r (dA a p)):PG w h A z N (CF 22::r) (pC a):=.mk λ s Q E S D=>by
 have b1:=Gb;have G:Dt (W1 w h) (CL (Iu a)) 2 mg mb:=iV (k:=0) I T V Hd;have J:Dt (W1 w h) C0 1 mg mb:=cR I T V;obtain⟨o,M,n,R,U⟩:=(Xw I T).obj;have Y:=WV;have hn:(LR.2.2.1.names.map (·.1)).Nodup:=by decide+kernel
 have fr:LR.2.2.1.names.all (λ p=>!(p.2== .free)||(Ds w 181).scope.names.lookup p.1==some .cell)=true:=by kernel_rfl
 have t:LR.2.2.1.names.lookup ("dues":Str)=some .free:=by kernel_rfl
 have hp:(LR.2.2.2,("law.<locals>.<lambda>":Str))∈cN:=Ac
 conv in CF 22=>whnf
 refine Aj (Uv G (L.hA.ag (by omega)) L.B S (oR I T J) ((C7 I T _).trans (by kernel_rfl)) ⟨o,_,M,n,R,U⟩ T.nolimit (WR I T L (ps:=["one","other"]) (φ:=[("dues",.aa (.dict (Fe (EL a))))]) hp (λ _=>rfl) Y hn fr λ x sl l=>?_) rfl (ns:=Do) (y:="names") (by kernel_rfl) (by decide) (eS (nu:=a)) gO (λ i j k m=>by have k:i<5:=k;have m:j<5:=m;rw[Pg k,Pg m,Mi i k,Mi j m]<;>rfl) (by kernel_rfl) (by kernel_rfl) (by kernel_rfl) λ p y W H C kd Z=>?_)
 ·rw[JN] at l;split at l
  ·rename_i q;subst q;cases l;exact⟨t,by decide+kernel,by kernel_rfl,_,rfl⟩
  ·cases l
 ·have u:∀i∈p,i<5:=λ i k=>AC.mp ((y.1.mem_iff).mp k);have e:(p.map λ i=>Do.getD i Str.empty)=p.map nm:=By λ i k=>Pg (u i k);rw[e] at C;have eZ:dA a p=Ci ["names","pairs","told","hours","dues","best","line"] (AN (pC a) "line" (.aa (.list ((p.map nm).map .str)))):=by kernel_rfl
  exact(B p y).go {s with heap:=W,toks:=H} Q E (C.au (by rw[eZ];exact CP)) λ f O v g=>D f O v (Aa Z g)
end
theorem N8 (h:f.length<=5):Cz (.list f) none none (some (-1))=some (.list f.reverse):=by
 exact Lv (P:=λ f=>Cz (.list f) none none (some (-1))=some (.list f.reverse)) (by kernel_rfl) (λ a=>Lv (P:=λ f=>Cz (.list (a::f)) none none (some (-1))=some (.list (a::f).reverse)) (by kernel_rfl) λ b=>Lv (P:=λ f=>Cz (.list (a::b::f)) none none (some (-1))=some (.list (a::b::f).reverse)) (by kernel_rfl) λ c=>Lv (P:=λ f=>Cz (.list (a::b::c::f)) none none (some (-1))=some (.list (a::b::c::f).reverse)) (by kernel_rfl) λ d=>Lv (P:=λ f=>Cz (.list (a::b::c::d::f)) none none (some (-1))=some (.list (a::b::c::d::f).reverse)) (by kernel_rfl) λ e=>kD (by kernel_rfl)) f h
noncomputable def QR (h:List Int):List (List Nat):=(LD h).filter λ k=>decide (1<k.length)
noncomputable def nA (t:Str):Prop:=(Txt.split t "/").all J2=true/\(Txt.split t "/").length<=5
noncomputable def HU (h:List Int)(p:List Nat):List (List Str):=Dh (De p (QR h) 31)
theorem aR (h:a∈QR b):pV a/\1<a.length:=by
 obtain⟨k,o⟩:=AS.mp h;exact⟨aS (HN k),by simpa using o⟩
theorem SP:Dv b=Dz (QR b):=by
 unfold Dv QR Dz;have:∀l:List (List Nat),l.flatMap DC=(l.filter λ h=>decide (1<h.length)).flatMap DC:=by
  intro l;induction l with
  |nil=>rfl
  |cons a l k=>
   rw[FG,k];by_cases q:1<a.length
   ·rw[B7 (by simpa using q),FG]
   ·rw[B8 (by simpa using q)];have:DC a=[]:=by
     match a,q with
     |[],_=>rfl
     |[x],_=>rfl
     |x::y::r,q=>exact absurd (by simp) q
    rw[this,GL]
 exact this _
theorem dF:(KD b).flatten=(QR b).map Fj:=by
 unfold KD QR;have:∀l:List (List Nat),(l.map Lh).flatten=(l.filter λ h=>decide (1<h.length)).map Fj:=by
  intro l;induction l with
  |nil=>rfl
  |cons a l k=>
   rw[A0,List.flatten_cons,k];by_cases q:1<a.length
   ·rw[B7 (by simpa using q),A0];unfold Lh;rw[if_pos q]<;>rfl
   ·rw[B8 (by simpa using q)];unfold Lh;rw[if_neg q]<;>rfl
 exact this _
theorem Ma (s:∀i∈p,i<5):((p.map nm).map λ n=>[n])++((KD nu).flatten.map λ t=>(Txt.split t "/").reverse)=HU nu p:=by
 have h:∀i<5,IW 31 i=true:=by decide
 unfold HU Dh De;rw[dF,BR,AZ,AZ,AZ,AZ];congr 1
 ·apply By;intro i w;show[nm i]=(if IW 31 i then[i] else[]).map nm;rw[if_pos (h i (s i w))]<;>rfl
 ·apply By;intro k o;obtain⟨F,q⟩:=aR o;show(Txt.split (Fj k) "/").reverse=(k.reverse.filter (IW 31)).map nm;have:k.reverse.filter (IW 31)=k.reverse:=Dk.mpr λ x H=>h x (F.lt x (by simpa using H));rw[this,F.tp q,IN]
theorem Mf (o:F3 5 (WF a) p):Lf p (QR a):=
 ⟨λ k hk=>(o.1.mem_iff).mpr (AC.mpr hk),λ k hk=>AC.mp ((o.1.mem_iff).mp hk),λ w h x s=>(aR h).1.lt x s⟩
section
variable {C:A5}{A:Around}{z:Env}
noncomputable def cS (n:Str):AM:=[("name",.aa (.str n))]
noncomputable def Xs (n:Str):AM:=[("text",.aa (.str n))]
noncomputable def EV.comp (l:EV):Expr×Comprehension×Scope:=(l.x 0,l.gs.getD 0 default,l.sc)
noncomputable def Lm:Expr×Comprehension×Scope:=(((Fz (CF 23)).e 0).e 0).comp
noncomputable def J8:Expr×Comprehension×Scope:=(((Fz (CF 23)).e 0).e 1).comp
theorem fX (n:Str):FX HV Lm.2.2 (cS n) Lm.1 [n]:=by
 conv in Lm.1=>whnf
 exact .own (.list (.cons (.aa (by kernel_rfl)) .nil rfl) (by show 1<=Bf;decide))
theorem fW (z:nA t):FX HV J8.2.2 (Xs t) J8.1 (Txt.split t "/").reverse:=by
 have Q:=Gb;obtain⟨A,C⟩:=z;have H:∀(o h s k:Pos)(w:Nat),h.endLine=k.line->Vv HV J8.2.2 (Xs t) (.Call (.Attribute (.Name "text" o) "split" h) [.Constant (.str "/") w s] [] k) (.list ((Txt.split t "/").map .str)):=λ o h s k w N=>.bh (.bn (mf:=.split) (b:=.str t) (ds:=[.str "/"]) (by rw[N];exact Ai.mpr ⟨rfl,beq_self_eq_true _⟩) (by kernel_rfl) (.aa (by kernel_rfl)) (.cons (.af (by kernel_rfl)) .nil rfl) (by simp) (by
  show(if(!(("/":Str).length==0)&&(Txt.split t "/").all J2&&decide ((Txt.split t "/").length<=Bf))=true then some (PV.list ((Txt.split t "/").map .str)) else none)=_;rw[A,decide_eq_true (by omega),if_pos (by decide+kernel)]))
 have O:Cz (.list ((Txt.split t "/").map PV.str)) none none (some (-1))=some (.list (((Txt.split t "/").reverse).map PV.str)):=by
  rw[N8 (by rw[Af];exact C),IN]
 generalize Txt.split t "/"=V at*
 conv in J8.1=>whnf
 exact .slice (H _ _ _ _ _ rfl) .no .no (.int (.neg .int)) O
end
noncomputable def mI (h:List Int)(p:List Nat)(k:Addr):AM:=[("names",.aa (AB Do)),("pairs",.aa (E1 (Dv h))),("hours",.aa (.dict (Fe (Fp h)))),("dues",.aa (.dict (Fe (EL h)))),("best",.aa (HY h)),("rows",.ao (.ref k))]
noncomputable def OL (h:List Int):List Str:=Ft (Ea (Dv h)) 5 Do
noncomputable def mH (h:List Int)(p:List Nat)(k:Addr):AM:=[("names",.aa (AB Do)),("pairs",.aa (E1 (Dv h))),("hours",.aa (.dict (Fe (Fp h)))),("dues",.aa (.dict (Fe (EL h)))),("best",.aa (HY h)),("rows",.ao (.ref k)),("stuck",.aa (AB (OL h)))]
section
variable {C:A5}{A:Around}{z:Env}
theorem Yt.all {c:Type}{l:List c}{g:c->PV}(f:c->List Str)(k:LJ C V O e (l.map g))(o:Dm V b=true)(s:(DM t).all (λ x=>((BD b O).lookup x).isNone)=true)
 (w:∀a∈l,∃h,EN b t (g a) (BD b O)=some h/\FX C b h d (f a)) (z:l.length<=Bf):Yt C V O b d t e [] (l.map f):=
 ⟨c,l,g,λ _=>true,f,by rw[M4],o,k,s,λ a A=>by obtain⟨r,x,y⟩:=w a A;exact⟨r,x,.nil,λ _=>y⟩,z⟩
theorem qU (e:GW w h C k mg mb)(f:Cc k A)(B:Hq w h 181 z N){p:List Nat}(g:∀i∈p,i<5)(J:p.length=5)(S:XS (W1 w h) (Ds w 181).scope z N Z X s (dA a p)){b:Flow->Shared->Prop}
 (j:∀H O o Q n,XS (W1 w h) (Ds w 181).scope z N (o++Z) (o++X) {s with heap:=H,toks:=O} (AN (dA a p) "rows" (.ao (.ref Q)))->A9 (W1 w h) N H->s.toks<=O->H.get? Q=some (Fd (o.map Value.ref).toArray n)->o.Nodup->(∀r∈o,s.heap.get? r=none)->Q∉o++X->Di (W1 w h) X H o (HU a p)->b .next {s with heap:=H,toks:=O}):
 wpAny (W1 w h).M A (exec (CF 23) z) b E s:=by
 have L:=Gb;have M:= @Rc a;have l:=Ma (nu:=a) g;have m:Yt HV (Ds w 181).scope (dA a p) Lm.2.2 Lm.1 Lm.2.1.target Lm.2.1.iter [] ((p.map nm).map λ n=>[n]):=by
  refine .all (g:=PV.str) _ ?_ (by kernel_rfl) (by kernel_rfl) (λ n _=>⟨cS n,by kernel_rfl,fX n⟩) (by rw[Af];omega)
  conv in Lm.2.1.iter=>whnf
  exact .list (.aa (by kernel_rfl)) rfl
 have u:Yt HV (Ds w 181).scope (dA a p) J8.2.2 J8.1 J8.2.1.target J8.2.1.iter [] ((KD a).flatten.map λ t=>(Txt.split t "/").reverse):=by
  refine .all (g:=PV.str) _ ?_ (by kernel_rfl) (by kernel_rfl) (λ t c=>⟨Xs t,by kernel_rfl,fW (by
   rw[dF] at c;obtain⟨R,W,rfl⟩:=Al.mp c;obtain⟨F,q⟩:=aR W;exact⟨F.sok q,F.sl q⟩)⟩) (by omega)
  conv in J8.2.1.iter=>whnf
  exact .list (.sub (b:=J4 a) (.aa (by kernel_rfl)) .int (λ _ _=>rfl) (by kernel_rfl)) rfl
 conv in CF 23=>whnf
 refine T9 e f B S m u (by rw[Af,Af,Af];omega) (by kernel_rfl) λ H O o Q n V v x y D G I d=>?_;rw[l] at d;exact j H O o Q n V v x y D G I d
theorem qT (o:Dt (W1 w h) (CL (Iu a)) k mg mb)(s:Cc k A)(B:Hq w h 181 z N):LY w h A z N (exec (CF 24) z) (mI a p b) (.next (mH a p b)):=by
 have W:=Gb;have C:=(@Hd a).pl;have H:= @KU a;have e:NM (Ea (Dv a))=.list ((Dv a).map λ q=>mE (nm q.1,nm q.2)):=by unfold NM Ea;rw[AZ]<;>rfl
 refine Ex (ks:=["names","pairs","hours","dues","best","rows","stuck"]) (ρ1:=AN (mI a p b) "stuck" (.aa (AB (OL a)))) (by kernel_rfl) ?_
 conv in CF 24=>whnf
 refine A6 o s B (.fn (ds:=[AB Do,NM (Ea (Dv a))]) (by kernel_rfl) VK (.cons (.aa (by kernel_rfl)) (.cons ?_ .nil rfl) rfl) (JL _ _)) (by kernel_rfl);rw[e];refine Cu.ev<| .M (l:=Dv a) (g:=Wu) _ (.list (.aa (by kernel_rfl)) rfl) (by kernel_rfl) (by kernel_rfl) (λ q O=>?_) (by have:(Dv a).length<=100:=C;omega);obtain⟨Q,V⟩:=H q O;exact⟨[("b",.aa (.int (q.2:Nat))),("a",.aa (.int (q.1:Nat))),("names",.aa (AB Do))],by kernel_rfl,.aw (.cons (.sub (b:=AB Do) (.aa (by kernel_rfl)) (.aa (d:=.int (q.1:Nat)) (by kernel_rfl)) (λ _ _=>rfl) (Ir Q)) (.cons (.sub (b:=AB Do) (.aa (by kernel_rfl)) (.aa (d:=.int (q.2:Nat)) (by kernel_rfl)) (λ _ _=>rfl) (Ir V)) .nil rfl) rfl) (by show 2<=Bf;omega)⟩
end
noncomputable def LP (h:List Int)(p:List Nat):Nat:=(HF (Dv h) p 5 31).2
noncomputable def Dg (h:List Int)(p:List Nat):List Nat:=(HF (Dv h) p 5 31).1
noncomputable def HW (h:List Int)(p:List Nat):List (List Str):=Dh (De p (QR h) (LP h p))
theorem Sh (h:i<5):(Kp a).getD i 0=M7 a i:=by
 unfold Kp Bz;rw[Ax,Aw,Aw,Dj h]<;>rfl
theorem Xi (h:i<5):(JP a).getD i 0=Qy (Ch a i):=by
 unfold JP Bz;rw[Ax,Aw,Aw,Dj h]<;>rfl
theorem WL (h:F3 5 (WF c) p):(Jx (JP c) (Kp c) (Dv c)=none/\LP c p≠0)\/∃v,Jx (JP c) (Kp c) (Dv c)=some v/\LP c p=0/\Qe (((Dg c p).reverse.foldl (Pn (JP c) (Kp c)) (0,[])).2)=some v:=by
 have L:=Mf h;unfold LP Dg;rw[SP];refine ZD L (λ q o=>?_) (λ k=>?_) ?_
 ·rw[<-SP] at o;exact KU q o
 ·by_cases hk:k<5
  ·rw[Xi hk];exact UL _
  ·rw[Ax,List.getElem?_eq_none (by simp[JP,Bz];omega)];simp
 ·refine List.Pairwise.imp_of_mem (λ{a b} s w q=>?_) h.2;rw[Sh (L.lt a s),Sh (L.lt b w)];have:=q.1;unfold WF at this;exact Int.sub_nonneg.mp (DL.mp (of_decide_eq_false this))
theorem lD (k:F3 5 (WF a) p):LU 6 (HU a p) []=some (if LP a p=0 then some ((Dg a p).map nm) else none,HW a p):=by
 have L:=Mf k;have:=aV L 5 31 [] (by decide) (by omega) (Yu.start λ q h=>by rw[<-SP] at h;exact KU q h);rw[<-SP] at this;exact this
theorem ZC (k:F3 5 (WF a) p):(HU a p).map (λ h=>h.filter λ n=>(OL a).any (·==n))=HW a p:=ZB (Mf k) KU
noncomputable def pB (h:List Int)(p:List Nat)(k:Addr):AM:=[("names",.aa (AB Do)),("pairs",.aa (E1 (Dv h))),("hours",.aa (.dict (Fe (Fp h)))),("dues",.aa (.dict (Fe (EL h)))),("best",.aa (HY h)),("rows",.ao (.ref k)),("left",.aa (.list (Cw (HW h p))))]
noncomputable def TC (h:List Int)(p:List Nat):AM:=[("names",.aa (AB Do)),("pairs",.aa (E1 (Dv h))),("hours",.aa (.dict (Fe (Fp h)))),("dues",.aa (.dict (Fe (EL h)))),("best",.aa (HY h)),("rows",.aa (.list (Cw (HW h p)))),("left",.aa (.list (Cw (HW h p)))),("merged",.aa (AB ((Dg h p).map nm)))]
section
variable {C:A5}{A:Around}{z:Env}
noncomputable def kP (st h:List Str):AM:=[("row",.aa (AB h)),("stuck",.aa (AB st))]
noncomputable def Hz:Expr×Comprehension×Scope:=((Fz (CF 25)).e 0).comp
theorem fV {st a:List Str}(h:a.length<=100):FX HV Hz.2.2 (kP st a) Hz.1 (a.filter λ n=>st.any (·==n)):=by
 have k:=Gb
 conv in Hz.1=>whnf
 refine .comp (.T (l:=a) (g:=PV.str) (λ n=>st.any (·==n)) PV.str (.list (.aa (by kernel_rfl)) rfl) (by kernel_rfl) (by kernel_rfl) (λ n o=>?_) (by omega))
 exact⟨[("name",.aa (.str n)),("stuck",.aa (AB st))],by kernel_rfl,.bp (.o4 (.aa (d:=.str n) (by kernel_rfl)) (.aa (d:=AB st) (by kernel_rfl)) rfl (by simp) (S8 n st)),λ _=>.aa (by kernel_rfl)⟩
end
section
variable {C:A5}{A:Around}{z:Env}
noncomputable def gY (q:Nat->Pos):List Stmt:=[.Try [.Assign [.Name "merged" (q 20)] (.Call (.Name "_c3_merge" (q 21)) [.Name "rows" (q 22)] [] (q 23)) (q 24)] [.ExceptHandler (some (.Name "RuntimeError" (q 25))) (some "error") [.Return (some (.BoolOp .And (No q λ _=>0) (q 26))) (q 27)] (q 28)] [] [] (q 29)]
noncomputable def tq:Nat->Pos:=IS gY [CF 26]
theorem jE:CF 26=.Try [.Assign [.Name "merged" (tq 20)] (.Call (.Name "_c3_merge" (tq 21)) [.Name "rows" (tq 22)] [] (tq 23)) (tq 24)] [.ExceptHandler (some (.Name "RuntimeError" (tq 25))) (some "error") [.Return (some (.BoolOp .And (No tq λ _=>0) (tq 26))) (tq 27)] (tq 28)] [] [] (tq 29):=by kernel_rfl
theorem En.aj (x:En W h b a)(s:C9 V z Z X h H)(o:∀r∈b,r∈Z/\¬C3 V z r):En W H b a:=by
 obtain⟨c,w,A⟩:=x;refine⟨c,w,λ r k=>?_⟩;obtain⟨C,n,e,N,l⟩:=A r k;exact⟨C,n,s r _ (.inr ⟨(o r k).1,(o r k).2,by simp,by simp⟩) e,N,Gu l⟩
theorem t3 {c:ExcName->Option Value}(I:EW w h)(T:Top d b c mg mb h)(b5:importsNone d=true)(L:LE w h A z N)(gp:F3 5 (WF a) p)(c6:LP a p=0->PG w h A z N r (TC a p)):PG w h A z N (CF 23::CF 24::CF 25::CF 26::r) (dA a p):=.mk λ s Q E S hQ=>by
 have b1:=Gb;have Gk:Dt (W1 w h) (CL (Iu a)) 2 mg mb:=iV (k:=0) I T b5 Hd;have hA:Cc 2 A:=L.hA.ag (by exact AH _ _);have B:=L.B;have LO:=Mf gp;have hl:p.length=5:=by have:=gp.1.length_eq;exact this
 have wl:= @Rc a;refine Aj (qU Gk hA B LO.lt hl S λ j R i H n a5 b6 m hL nd t nL RR=>?_);have k:∀r∈i,r∉Ay z:=λ r u q=>by
  obtain⟨o,ho⟩:=S.F.am r q
  replace ho:=Eq.trans (Eq.symm (t r u)) ho;contradiction
 have y:∀r∈i,r∈i++Ay z/\¬C3 (Ds w 181).scope z r:=λ r u=>⟨AO _ u,λ q=>k r u (S.F.bq q)⟩;have RA:En (W1 w h) j i (HU a p):=Di.fn nd RR;have hz:i.length<=Bf:=by
  have:=RR.len;simp only[<-Ma LO.lt,AA,Af,Af,Af] at this;omega
 have U:=a5.au (by rw[(by kernel_rfl:mI a p H=Ci ["names","pairs","hours","dues","best","rows"] (AN (dA a p) "rows" (.ao (.ref H))))];exact CP:Vj (mI a p H) _);refine Aj ((qT Gk hA B).go _ _ {s with heap:=j,toks:=R} _ _ U λ V Y D W G=>?_);have a6:V.get? H=some (Fd (i.map Value.ref).toArray n):=W H _ (.inl ⟨nL,.inl rfl⟩) hL;have a7:En (W1 w h) V i (HU a p):=RA.aj W y;have a8:H∉Ay z:=λ q=>nL (At _ q);have rl:∀C∈HU a p,C.length<=100:=λ C O=>by
  rw[<-Ma LO.lt] at O;rcases Ao.mp O with q |q
  ·obtain⟨x,_,rfl⟩:=Al.mp q;show 1<=100;omega
  ·obtain⟨x,hx,rfl⟩:=Al.mp q;rw[dF] at hx;obtain⟨ch,b7,rfl⟩:=Al.mp hx;obtain⟨F,q⟩:=aR b7;rw[GY];exact Aa (F.sl q) (by decide)
 have ll:(HU a p).length<=Bf:=by
  rw[<-Ma LO.lt,AA,Af,Af,Af];omega
 have fc:Yt HV (Ds w 181).scope (AN (mH a p H) "rows" (.aa (.list (Cw (HU a p))))) Hz.2.2 Hz.1 Hz.2.1.target Hz.2.1.iter [] (HW a p):=by
  rw[<-ZC gp];generalize HU a p=R0 at*;generalize b8:OL a=st at*;have e0:BD Hz.2.2 (AN (mH a p H) "rows" (.aa (.list (Cw R0))))=([("stuck",CB.aa (AB st))]:AM):=by rw[<-b8];kernel_rfl
  refine .all (g:=λ C:List Str=>PV.list (C.map .str)) (λ C=>C.filter λ n=>st.any (·==n)) ?_ (by kernel_rfl) (by rw[e0];kernel_rfl) (λ C O=>⟨kP st C,by rw[e0];kernel_rfl,fV (rl C O)⟩) ll
  conv in Hz.2.1.iter=>whnf
  exact .list (.aa (by kernel_rfl)) rfl
 have b9:=lD gp;have c0:=aZ
 conv in CF 25=>whnf
 refine Aj (Ux Gk hA B D (N7 (s:={s with heap:=V,toks:=Y}) D (x:="rows") (by kernel_rfl) (IY (by kernel_rfl)) (λ _ h=>h) (λ _ h=>h) k a6 a8 hz a7 k).F fc (by kernel_rfl) λ Z a0 a9 e J=>?_);have a1:=a9.au (by rw[(by kernel_rfl:pB a p H=Ci ["names","pairs","hours","dues","best","rows","left"] (AN (mH a p H) "left" (.aa (.list (Cw (HW a p))))))];exact CP:Vj (pB a p H) _);have c1:Z.get? H=some (Fd (i.map Value.ref).toArray n):=e H _ (.inl ⟨nL,.inl rfl⟩) a6;have c2:En (W1 w h) Z i (HU a p):=a7.aj e y;have fo:=kQ I T;simp only[c0] at fo;have eR:=To (HW a p);rw[jE];refine Aj (gX (s:={s with heap:=Z,toks:=a0}) Gk B L.O a1 fo ((C7 I T _).trans (by kernel_rfl)) oU lC (⟨(C7 I T _).trans (by kernel_rfl),Lu T (by decide+kernel) (by kernel_rfl)⟩) (L.hA.ag (by exact AH _ _)) (oc:={cls:=.none,data:=.plain}) (best:=HY a) (left:=HW a p) c1 (λ q=>(Ao.mp q).elim (λ q=>nL (AO _ q)) nL) nd hz (λ r u=>⟨AO _ u,k r u,Gy S.le (t r u)⟩) c2 (IY (by kernel_rfl)) (by kernel_rfl) (by kernel_rfl) (by kernel_rfl) (by kernel_rfl) (by kernel_rfl) (by kernel_rfl) (by kernel_rfl) (by kernel_rfl) (fuel:=6) (by exact AH _ _) b9 (λ c7 f M g b0 c3 c4 b2=>?_) λ ho=>?_)
 ·by_cases a2:LP a p=0
  ·rw[if_pos a2] at f;cases f;have c5:TC a p=Ci ["names","pairs","hours","dues","best","rows","left","merged"] (AN (AN (pB a p H) "merged" (.aa (.list (((Dg a p).map nm).map .str)))) "rows" (.aa (.list (Cw (HW a p))))):=by kernel_rfl
   exact(c6 a2).go {s with heap:=M,toks:=g} Q E ((N7 (s:={s with heap:=M,toks:=g}) b0 (x:="rows") (by kernel_rfl) (IY (by kernel_rfl)) (λ _ h=>h) (λ _ h=>h) k c3 a8 hz c4 k).au (by rw[c5];exact CP)) λ b3 a3 a4 b4=>hQ b3 a3 a4 (Aa m (Aa G (Aa J (Aa b2 b4))))
  ·rw[if_neg a2] at f
   contradiction
 ·rcases WL gp with⟨h1,h2⟩ |⟨v,h1,h2,_⟩
  ·refine⟨true,true,by unfold HY;rw[h1]<;>rfl,eR,λ h' tk a4 l=>?_⟩;exact hQ h' tk a4 (Aa m (Aa G (Aa J l)))
  ·replace ho:=Eq.trans (Eq.symm (if_pos h2)) ho
   contradiction
end
theorem sorted_strs (h:(x::l).length<64):QW .sorted [AB (x::l)]=some (AB (HT (x::l))):=by
 show(if decide (((x::l).map PV.str).length<64)=true then((EA ((x::l).map PV.str)).map λ k=>PV.list ((VX k).map .int)).or ((Em ((x::l).map PV.str)).map λ o=>.list ((HT o).map .str)) else none)=_;rw[if_pos (decide_eq_true (by rw[Af];exact h)),JG];have:EA ((x::l).map PV.str)=none:=rfl;rw[this]<;>rfl
noncomputable def Vo (st:Int×List Int):PV:=.aw [.int st.1,AD st.2]
noncomputable def F1 (h:List Int)(p:List Nat)(i:Nat):Int×List Int:=((Dg h p).reverse.take i).foldl (Pn (JP h) (Kp h)) (0,[])
noncomputable def pA (h:List Int)(p:List Nat):AM:=[("best",.aa (HY h)),("end",.aa (Vo (F1 h p 5)))]
theorem XI:∀(l:List Nat)(st:Int×List Int),(l.foldl (Pn a b) st).2.length=st.2.length+l.length:=by
 intro l;induction l with
 |nil=>
  intro st;exact rfl
 |cons i l h=>
  intro st;rw[JC,h];show(st.2++[_]).length+l.length=_;simp;omega
section
variable {C:A5}{A:Around}{z:Env}
theorem Ka (h:LP a p=0):(Dg a p).Perm (List.range 5):=by
 have:=ZY (prs:=Dv a) (line:=p) 5 31 (by omega) h;rwa[show Bt 31=List.range 5 from by decide] at this
theorem rJ {c:ExcName->Option Value}(I:EW w h)(T:Top d b c mg mb h)(f:importsNone d=true)(L:LE w h A z N)(J:LP a p=0)(M:PG w h A z N r (TC a p)):PG w h A z N (CF 27::r) (TC a p):=.mk λ s Q E S R=>by
 have b1:=Gb;have U:Dt (W1 w h) (CL (Iu a)) 2 mg mb:=iV (k:=0) I T f Hd;have i:=Ka J;have Y:(Dg a p).length=5:=by have:=i.length_eq;simpa using this
 have e5:Do=(List.range 5).map nm:=by decide+kernel
 have sp:HT ((Dg a p).map nm)=HT Do:=by rw[e5];exact Rw (i.map nm)
 have C:mg "isinstance"=none/\mb "isinstance"=some (.builtin "isinstance"):=⟨(C7 I T _).trans (by kernel_rfl),Lu T (by decide+kernel) (by kernel_rfl)⟩;have s1:QW .sorted [AB ((Dg a p).map nm)]=some (AB (HT Do)):=by
  rw[<-sp];have j:((Dg a p).map nm).length=5:=by rw[Af];exact Y
  generalize (Dg a p).map nm=m at*
  match m,j with
  |x::r,j=>exact sorted_strs (by omega)
 have s2:QW .sorted [AB Do]=some (AB (HT Do)):=sorted_strs (by decide);generalize a0:HT Do=l at*;have ev:∀n q t u v y B D G H,Yk (CL (Iu a)) (Ds w 181).scope (TC a p) .Or [.Compare (.Name "rows" n) [.NotEq] [.Name "left" q] t,.Compare (.Call (.Name "sorted" u) [.Name "merged" v] [] y) [.NotEq] [.Call (.Name "sorted" B) [.Name "names" D] [] G] H] (false||(false||false)):=λ n q t u v y B D G H=>
  .ng (.an (a:=.list (Cw (HW a p))) (b:=.list (Cw (HW a p))) (.aa (by kernel_rfl)) (.aa (by kernel_rfl)) rfl (by rw[Pq,To]<;>rfl)) λ _=>.ng (.an (a:=AB l) (b:=AB l) (.blt (b:=.sorted) (by kernel_rfl) (by kernel_rfl) (.cons (.aa (d:=AB ((Dg a p).map nm)) (by kernel_rfl)) .nil rfl) s1) (.blt (b:=.sorted) (by kernel_rfl) (by kernel_rfl) (.cons (.aa (d:=AB Do) (by kernel_rfl)) .nil rfl) s2) rfl (by rw[Pq,Mj]<;>rfl)) λ _=>.nil
 conv in CF 27=>whnf
 refine Aj (fL U (L.hA.ag (by omega)) L.B S C (x:="merged") (xs:=((Dg a p).map nm).map .str) (by kernel_rfl) (by kernel_rfl) (by kernel_rfl) (ev _ _ _ _ _ _ _ _ _ _) λ O k V kd W=>?_);exact M.go {s with heap:=O,toks:=k} Q E V λ Z o g e=>R Z o g (Aa W e)
theorem qR (e:GW w h C k mg mb)(f:Cc k A)(B:Hq w h 181 z N)(b:LP a p=0):LY w h A z N (exec (CF 28) z) (TC a p) (.next (TC a p)):=by
 have m:=Gb;have c:=Ka b;have s:∀x∈Dg a p,x<5:=λ x g=>AC.mp ((c.mem_iff).mp g);have W:∀i<5,i∈Dg a p:=λ i H=>(c.mem_iff).mpr (AC.mpr H);have j:=(@Hd a).pl;have d:∀i<5,Iy .nv (AB ((Dg a p).map nm)) [.str (nm i)]=some (.int ((Dg a p).idxOf i:Nat)):=λ i H=>by
  show(Em (((Dg a p).map nm).map PV.str)).bind _=_;rw[JG];show(if((Dg a p).map nm).contains (nm i)=true then some (PV.int (((Dg a p).map nm).idxOf (nm i):Nat)) else none)=_;rw[LA s H,if_pos (by rw[Dw];exact W i H),fM H s]
 have no:∀q∈Dv a,decide (((Dg a p).idxOf q.1:Nat)<(((Dg a p).idxOf q.2:Nat):Int))=false:=λ q o=>by
  obtain⟨Q,V⟩:=KU q o;have O:∀i<5,i∈Bt 31:=by decide
  have:=Xm (prs:=Dv a) (line:=p) (a:=q.1) (b:=q.2) o 5 31 (by omega) b (O _ Q) (O _ V);have:(Dg a p).idxOf q.2<(Dg a p).idxOf q.1:=this;rw[decide_eq_false_iff_not];omega
 have em:(Dv a).filter (λ q=>decide (((Dg a p).idxOf q.1:Nat)<(((Dg a p).idxOf q.2:Nat):Int)))=[]:=by
  rw[FH];intro q o;rw[no q o];simp
 have Z:= @KU a;have l:(Dv a).length<=100:=j
 conv in CF 28=>whnf
 refine DY e f B (c:=false) (.an (a:=.list (((Dv a).filter (λ q=>decide (((Dg a p).idxOf q.1:Nat)<(((Dg a p).idxOf q.2:Nat):Int)))).map λ q=>.int (q.1:Nat))) (b:=.list []) ?_ (.list .nil (by show 0<=Bf;omega)) rfl (by rw[em]<;>rfl)) (by rw[if_neg (by simp)];exact DN);refine Cu.ev<| .T (l:=Dv a) (g:=Wu) _ _ (.list (.aa (by kernel_rfl)) rfl) (by kernel_rfl) (by kernel_rfl) (λ q o=>?_) (by omega);obtain⟨Q,V⟩:=Z q o;refine⟨[("b",.aa (.int (q.2:Nat))),("a",.aa (.int (q.1:Nat))),("names",.aa (AB Do)),("merged",.aa (AB ((Dg a p).map nm)))],by kernel_rfl,.bp (.an (a:=.int ((Dg a p).idxOf q.1:Nat)) (b:=.int ((Dg a p).idxOf q.2:Nat)) (.bn (mf:=.nv) (b:=AB ((Dg a p).map nm)) (ds:=[.str (nm q.1)]) (by kernel_rfl) (by kernel_rfl) (.aa (by kernel_rfl)) (.cons (.sub (b:=AB Do) (.aa (by kernel_rfl)) (.aa (d:=.int (q.1:Nat)) (by kernel_rfl)) (λ _ _=>rfl) (Ir Q)) .nil rfl) (by simp) (d _ Q)) (.bn (mf:=.nv) (b:=AB ((Dg a p).map nm)) (ds:=[.str (nm q.2)]) (by kernel_rfl) (by kernel_rfl) (.aa (by kernel_rfl)) (.cons (.sub (b:=AB Do) (.aa (by kernel_rfl)) (.aa (d:=.int (q.2:Nat)) (by kernel_rfl)) (λ _ _=>rfl) (Ir V)) .nil rfl) (by simp) (d _ V)) rfl (Vp _ _)),λ _=>.aa (by kernel_rfl)⟩
theorem TZ (a b:PV):Dd (.aw [a,b]) (.int 0)=some a:=by kernel_rfl
theorem N0 (a b:PV):Dd (.aw [a,b]) (.int 1)=some b:=by kernel_rfl
theorem WU:Yg HB.1 HB.2.1 HB.2.2.1 ["state","name"]:=by
 refine⟨by kernel_rfl,by kernel_rfl,by kernel_rfl,?_,?_,by decide,λ h k w z A o s=>?_⟩
 ·decide+kernel
 ·decide+kernel
 ·obtain⟨a,b,rfl⟩:=Qn s
  conv in HB.1=>whnf
  rfl
noncomputable def Uh (h:List Int):AM:=[("dues",.aa (.dict (Fe (EL h)))),("hours",.aa (.dict (Fe (Fp h))))]
theorem gN (st:Int×List Int)(w:st.2.length<=100)(o:j<5):CE C HB.2.2.1 ((["state","name"]:List Str).zip [CB.aa (Vo st),.aa (.str (nm j))]++Uh a) HB.2.1 (Vo (Pn (JP a) (Kp a) st j)):=by
 have d:=Gb;obtain⟨t,l⟩:=st;have w:l.length<=100:=w;unfold Pn;rw[Xi o,Sh o]
 conv in HB.2.1=>whnf
 have b:Dd (.dict (Fe (Fp a))) (.str (nm j))=some (.int (Qy (Ch a j))):=VI _ o;have c:Dd (.dict (Fe (EL a))) (.str (nm j))=some (.int (M7 a j)):=VI _ o;generalize Qy (Ch a j)=h at*;generalize M7 a j=k at*;have s:FE .Add (AD l) (.list [.int (t+h-k)])=some (AD (l++[t+h-k])):=by
  unfold AD;show(if(l.map PV.int).length+1<=Bf then some (PV.list (l.map PV.int++[.int (t+h-k)])) else none)=_;rw[if_pos (by rw[Af];omega),BR]<;>rfl
 have z:∀A H N O Q V W Z,CE C HB.2.2.1 ((["state","name"]:List Str).zip [CB.aa (Vo (t,l)),.aa (.str (nm j))]++Uh a) (.BinOp (.Subscript (.Name "state" A) (.Constant (.int 0) Z H) N) .Add (.Subscript (.Name "hours" O) (.Name "name" Q) V) W) (.int (t+h)):=λ A H N O Q V W Z=>
  .ai (a:=.int t) (b:=.int h) (.sub (b:=Vo (t,l)) (.aa (by kernel_rfl)) .int (λ _ _=>rfl) (TZ _ _)) (.sub (b:=.dict (Fe (Fp a))) (.aa (by kernel_rfl)) (.aa (d:=.str (nm j)) (by kernel_rfl)) (λ _ _=>rfl) b) (Vi _ _)
 exact .aw (.cons (z _ _ _ _ _ _ _ _) (.cons (.ai (a:=AD l) (b:=.list [.int (t+h-k)]) (.sub (b:=Vo (t,l)) (.aa (by kernel_rfl)) .int (λ _ _=>rfl) (N0 _ _)) (.list (.cons (.ai (a:=.int (t+h)) (b:=.int k) (z _ _ _ _ _ _ _ _) (.sub (b:=.dict (Fe (EL a))) (.aa (by kernel_rfl)) (.aa (d:=.str (nm j)) (by kernel_rfl)) (λ _ _=>rfl) c) (GZ _ _)) .nil rfl) (by show 1<=Bf;omega)) s) .nil rfl) rfl) (by show 2<=Bf;omega)
end
section
variable {C:A5}{A:Around}{z:Env}
theorem rI {c:ExcName->Option Value}(I:EW w h)(T:Top f b c mg mb h)(t:importsNone f=true)(L:LE w h A z N)(hr:LP a p=0)(a1:PG w h A z N r (pA a p)):PG w h A z N (CF 29::r) (TC a p):=.mk λ s Q E S hQ=>by
 have b1:=Gb;have Gk:Dt (W1 w h) (CL (Iu a)) 2 mg mb:=iV (k:=0) I T t Hd;have M:=Ka hr;have hl:(Dg a p).length=5:=by have:=M.length_eq;simpa using this
 have u:∀x∈Dg a p,x<5:=λ x k=>AC.mp ((M.mem_iff).mp k);have lt:=WU;have hn:(HB.2.2.1.names.map (·.1)).Nodup:=by decide+kernel
 have fr:HB.2.2.1.names.all (λ p=>!(p.2== .free)||(Ds w 181).scope.names.lookup p.1==some .cell)=true:=by kernel_rfl
 have O:HB.2.2.1.names.lookup ("dues":Str)=some .free/\HB.2.2.1.names.lookup ("hours":Str)=some .free:=⟨by kernel_rfl,by kernel_rfl⟩;have hp:(HB.2.2.2,("law.<locals>.<lambda>":Str))∈cN:=Ad _ Ac;have xe:∀i x,(((Dg a p).reverse.map nm).map PV.str)[i]? =some x->i<5/\∃j,j<5/\(Dg a p).reverse[i]? =some j/\x=.str (nm j):=λ i x e=>by
  rw[Aw,Aw] at e;cases q:(Dg a p).reverse[i]? with
  |none=>(rw[q] at e;cases e)
  |some j=>
   rw[q] at e;have e:some (PV.str (nm j))=some x:=e;cases e;have v:=(CS.mp q).1;rw[GY] at v;exact⟨by omega,j,u j (by simpa using C4 q),rfl,rfl⟩
 have B:∀i x,(((Dg a p).reverse.map nm).map PV.str)[i]? =some x->CE (CL (Iu a)) HB.2.2.1 ((["state","name"]:List Str).zip [CB.aa (Vo (F1 a p i)),.aa x]++Uh a) HB.2.1 (Vo (F1 a p (i+1))):=λ i x e=>by
  obtain⟨v,j,hj,q,rfl⟩:=xe i x e;have hz:(F1 a p i).2.length<=100:=by
   unfold F1;rw[XI,ED,GY];exact Aa (AG (EP _)) (Aa (Eg ..) (Aa (Cx v) (by decide)))
  have e1:F1 a p (i+1)=Pn (JP a) (Kp a) (F1 a p i) j:=by
   unfold F1;rw[List.take_add_one,q,List.foldl_append]<;>rfl
  rw[e1];exact gN _ hz hj
 have es:Cz (AB ((Dg a p).map nm)) none none (some (-1))=some (.list (((Dg a p).reverse.map nm).map PV.str)):=by
  unfold AB;rw[N8 (by rw[Af,Af];omega),<-IN,<-IN]
 have sq:∀R m U Y q5 V,CE (CL (Iu a)) (Ds w 181).scope (TC a p) (.Subscript (.Name "merged" R) (.Slice none none (some (.UnaryOp .USub (.Constant (.int 1) V m) U)) Y) q5) (.list (((Dg a p).reverse.map nm).map PV.str)):=λ R m U Y q5 V=>
  .slice (b:=AB ((Dg a p).map nm)) (.aa (by kernel_rfl)) .no .no (.int (.neg .int)) es
 have x5:(((Dg a p).reverse.map nm).map PV.str).length=5:=by simp[hl]
 have a0:∀y d,(TC a p).lookup y≠some (.own d):=IY (by kernel_rfl);have z0:∀q V,CE (CL (Iu a)) (Ds w 181).scope (TC a p) (.Constant (.int 0) V q) (.int 0):=λ q V=>.int;have zl:∀q,CE (CL (Iu a)) (Ds w 181).scope (TC a p) (.List [] q) (.list []):=λ q=>.list .nil (AP _);have ph:∀x n,(Uh a).lookup x=some n->HB.2.2.1.names.lookup x=some .free/\CM x=true/\(TC a p).lookup x=some n/\∃d,n=.aa d:=λ x n k=>by
  unfold Uh at k;by_cases q:x="dues"
  ·subst q;obtain rfl:=AF An k;exact⟨O.1,by decide+kernel,by kernel_rfl,_,rfl⟩
  ·rw[Ar q,JN] at k;split at k
   ·rename_i m;subst m;cases k;exact⟨O.2,by decide+kernel,by kernel_rfl,_,rfl⟩
   ·cases k
 have D:Vo (F1 a p 0)=.aw [.int 0,.list []]:=rfl;have G:pA a p=Ci ["best","end"] (AN (TC a p) "end" (.aa (Vo (F1 a p 5)))):=by kernel_rfl
 have a2:HB=HB:=rfl
 conv in CF 29=>whnf
 refine Aj (V9 Gk (L.hA.ag (by omega)) L.B L.O S (jR I T) ((C7 I T _).trans (by kernel_rfl)) T.nolimit (WR I T L (ps:=["state","name"]) (φ:=Uh a) hp (λ _=>rfl) lt hn fr ph) rfl (sq _ _ _ _ _ _) rfl rfl rfl (z0 _ _) (zl _) (st:=λ i=>Vo (F1 a p i)) D B (by kernel_rfl) (by kernel_rfl) λ W C o kd Z=>?_);rw[x5] at o;exact a1.go {s with heap:=W,toks:=C} Q E (o.au (by rw[G];exact CP)) λ g H J l=>hQ g H J (Aa Z l)
theorem rH (s:GW w h C k mg mb)(H:Cc k A)(B:Hq w h 181 z N)(O:F3 5 (WF a) p)(o:LP a p=0):LY w h A z N (exec (CF 30) z) (pA a p) (.ret (.bool true)):=by
 have Q:=Ka o;have f:(Dg a p).length=5:=by have:=Q.length_eq;simpa using this
 rcases WL O with⟨_,V⟩ |⟨v,W,_,Z⟩
 ·exact absurd o V
 ·have b:(F1 a p 5).2=((Dg a p).reverse.foldl (Pn (JP a) (Kp a)) (0,[])).2:=by
   unfold F1;rw[Cj (by rw[GY];omega)]
  have c:QW .max [AD (F1 a p 5).2]=some (.int v):=by
   rw[b];refine(show _=(pZ (AD _)).or none from rfl).trans ?_;rw[Option.or_none];show(EA _).bind (λ d=>(Qe d).map PV.int)=_;rw[JO,Option.bind_some,Z]<;>rfl
  have e:HY a=.int v:=by unfold HY;rw[W]<;>rfl
  conv in CF 30=>whnf
  refine Fn s H B (.bh (.an (a:=.int v) (b:=.int v) (.blt (b:=.max) (ds:=[AD (F1 a p 5).2]) (by kernel_rfl) (by kernel_rfl) (.cons (.sub (b:=Vo (F1 a p 5)) (.aa (by kernel_rfl)) .int (λ _ _=>rfl) (N0 _ _)) .nil rfl) c) (by rw[<-e];exact .aa (by kernel_rfl)) rfl ?_));rw[QM];simp
end
theorem WP:Mg=[CF 0,CF 1,CF 2,CF 3,CF 4,CF 5,CF 6,CF 7,CF 8,CF 9,CF 10,CF 11,CF 12,CF 13,CF 14,CF 15,CF 16,CF 17,CF 18,CF 19,CF 20,CF 21,CF 22,CF 23,CF 24,CF 25,CF 26,CF 27,CF 28,CF 29,CF 30]:=by kernel_rfl
section
variable {A:Around}{z:Env}
theorem WQ {c:ExcName->Option Value}(k:importsNone d=true)(I:EW w h)(T:Top d a c mg mb h)(L:LE w h A z N){b:List Int}(Q:b.length<=Bf):PG w h A z N Mg (Y0 b):=by
 have V:Dt (W1 w h) C0 2 mg mb:=cR I T k;rw[WP];refine t0 V L (by omega) Q ?_;generalize Lp (b.take 60)=W;have o:Dt (W1 w h) (CL (Iu W)) 2 mg mb:=iV (k:=0) I T k Hd;have s:Cc 2 A:=L.hA.ag (by omega);have B:=L.B;refine t1 I T k L (EI (rB o s B) (EI (rA o s B) (EI (qZ o s B) (EI (qY o s B) (EI (qX o s B) (EI (qW o s B) (qV I T k L λ p O=>t3 I T k L O λ H=>rJ I T k L H (EI (qR o s B H) (rI I T k L H (dL (rH o s B O H)))))))))))
theorem Nn:Cc 9 callerA:=⟨rfl,by show 1+claimMargin+10*9<900;decide+kernel,by show 4+100*9<9000;decide⟩
end
theorem jB:∀q l X(d:DefRec) k,importsNone q=true->d.name=("law":Str)->WalkO q l X (kmHook hk.1 hk.2.1 (λ _=>by kernel_rfl) [16,178]).says (OpenLaw.row PySem.Challenge.rw_oy0180_01).toRowW d k λ f v=>call f v:=λ _ _ _ _ _ W i=>dS i λ w s x y Z c I j T m v r Q E p=>by
 have t:m.length<=Bf:=by
  obtain⟨_,_,_,_,e,n,z,l⟩:=r.ah;have:=l.length;rw[CK,Af] at this;exact this▸z
 have a:=fY I T;have u:=a.names;refine Uz (k:=8) a (by kernel_rfl) Nn (.refl _) (TT I j) r λ h N o V B S=>?_;have L:LE w s.heap (callerA.deeper h) h s.heap:=⟨B,Nn.down h,⟨rfl,by rw[V];show(Ds w 181).scope.kind≠_;rw[a.kind];simp,by rw[V]<;>rfl,trivial,rfl⟩,by rw[V];exact Xt u _ _,⟨_,V⟩⟩;exact(WQ W I T L t).go {s with heap:=N,toks:=o} _ _ S λ O H b g=>p O H b
theorem holds1.jh:True:=trivial
theorem holds1.jo:True:=trivial
theorem holds1.li:True:=trivial
theorem holds1.k8:True:=trivial
theorem holds1.me:True:=trivial
theorem holds1.gw:True:=trivial
theorem holds1.kt:True:=trivial
theorem holds1.lb:True:=trivial
theorem holds1.iq:True:=trivial
theorem holds1.cp:True:=trivial
theorem holds1.ca:True:=trivial
theorem holds1.cj:True:=trivial
theorem holds1.ka:True:=trivial
theorem holds1.mo:True:=trivial
theorem holds1.lr:True:=trivial
theorem holds1.dm:True:=trivial
theorem holds1.dz:True:=trivial
theorem holds1.gn:True:=trivial
theorem holds1.dc:True:=trivial
theorem holds1.jl:True:=trivial
theorem holds1.gk:True:=trivial
theorem holds1.fp:True:=trivial
theorem holds1.bt:True:=trivial
theorem holds1.iw:True:=trivial
theorem holds1.ja:True:=trivial
theorem holds1.jw:True:=trivial
theorem holds1.j9:True:=trivial
theorem holds1.dy:True:=trivial
theorem holds1.fg:True:=trivial
theorem holds1.jg:True:=trivial
theorem holds1.kh:True:=trivial
theorem holds1.mh:True:=trivial
theorem holds1.bz:True:=trivial
theorem holds1.j6:True:=trivial
theorem holds1.kq:True:=trivial
theorem holds1.fk:True:=trivial
theorem holds1.fv:True:=trivial
theorem holds1.ie:True:=trivial
theorem holds1.ko:True:=trivial
theorem holds1.fy:True:=trivial
theorem holds1.fe:True:=trivial
theorem holds1.dr:True:=trivial
theorem holds1.cr:True:=trivial
theorem holds1.cy:True:=trivial
theorem holds1.jj:True:=trivial
theorem holds1.ma:True:=trivial
theorem holds1.dj:True:=trivial
theorem holds1.dt:True:=trivial
theorem holds1.ed:True:=trivial
theorem holds1.gh:True:=trivial
theorem holds1.mw:True:=trivial
theorem holds1.ic:True:=trivial
theorem holds1.jv:True:=trivial
theorem holds1.kf:True:=trivial
theorem holds1.k7:True:=trivial
theorem holds1.k9:True:=trivial
theorem holds1.lf:True:=trivial
theorem holds1.ln:True:=trivial
theorem holds1.cu:True:=trivial
theorem holds1.dv:True:=trivial
theorem holds1.iz:True:=trivial
theorem holds1.gq:True:=trivial
theorem holds1.ia:True:=trivial
theorem holds1.ig:True:=trivial
theorem holds1.jc:True:=trivial
theorem holds1.my:True:=trivial
theorem holds1.ji:True:=trivial
theorem holds1.jq:True:=trivial
theorem holds1.jr:True:=trivial
theorem holds1.jt:True:=trivial
theorem holds1.kj:True:=trivial
theorem holds1.lc:True:=trivial
theorem holds1.lw:True:=trivial
theorem holds1.cw:True:=trivial
theorem holds1.df:True:=trivial
theorem holds1.dh:True:=trivial
theorem holds1.di:True:=trivial
theorem holds1.dw:True:=trivial
theorem holds1.ee:True:=trivial
theorem holds1.fb:True:=trivial
theorem holds1.fw:True:=trivial
theorem holds1.gb:True:=trivial
theorem holds1.mq:True:=trivial
theorem holds1.kg:True:=trivial
theorem holds1.cx:True:=trivial
theorem holds1.bu:True:=trivial
theorem holds1.k6:True:=trivial
theorem holds1.ii:True:=trivial
theorem holds1.jz:True:=trivial
theorem holds1.jp:True:=trivial
theorem holds1.gc:True:=trivial
theorem holds1.l5:True:=trivial
theorem holds1.lj:True:=trivial
theorem holds1.jy:True:=trivial
theorem holds1.l7:True:=trivial
theorem holds1.j8:True:=trivial
theorem holds1.kl:True:=trivial
theorem holds1.ik:True:=trivial
theorem holds1.kr:True:=trivial
theorem holds1.km:True:=trivial
theorem holds1.cz:True:=trivial
theorem holds1.kz:True:=trivial
theorem holds1.j7:True:=trivial
theorem holds1.db:True:=trivial
theorem holds1.gz:True:=trivial
theorem holds1.de:True:=trivial
theorem holds1.m6:True:=trivial
theorem holds1.ki:True:=trivial
theorem holds1.fj:True:=trivial
theorem holds1.fh:True:=trivial
theorem holds1.gr:True:=trivial
theorem holds1.fi:True:=trivial
theorem holds1.ir:True:=trivial
theorem holds1.mz:True:=trivial
theorem holds1.ff:True:=trivial
theorem holds1.m7:True:=trivial
theorem holds1.ku:True:=trivial
theorem holds1.eh:True:=trivial
theorem holds1.ck:True:=trivial
theorem holds1.du:True:=trivial
theorem holds1.et:True:=trivial
theorem holds1.lv:True:=trivial
theorem holds1.ga:True:=trivial
theorem holds1.mj:True:=trivial
theorem holds1.gl:True:=trivial
theorem holds1.jn:True:=trivial
theorem holds1.ci:True:=trivial
theorem holds1.jk:True:=trivial
theorem holds1.fq:True:=trivial
theorem holds1.bv:True:=trivial
theorem holds1.ij:True:=trivial
theorem holds1.dk:True:=trivial
theorem holds1.gj:True:=trivial
theorem holds1.bw:True:=trivial
theorem holds1.eg:True:=trivial
theorem holds1.gm:True:=trivial
theorem holds1.jb:True:=trivial
theorem holds1.je:True:=trivial
theorem holds1.dn:True:=trivial
theorem holds1.m0:True:=trivial
theorem holds1.iu:True:=trivial
theorem holds1.jd:True:=trivial
theorem holds1.ea:True:=trivial
theorem holds1.ip:True:=trivial
theorem holds1.ke:True:=trivial
theorem holds1.gy:True:=trivial
theorem holds1.lh:True:=trivial
theorem holds1.io:True:=trivial
theorem holds1.eo:True:=trivial
theorem holds1.m9:True:=trivial
theorem holds1.l8:True:=trivial
theorem holds1.ju:True:=trivial
theorem holds1.ek:True:=trivial
theorem holds1.fz:True:=trivial
theorem holds1.il:True:=trivial
theorem holds1.gu:True:=trivial
theorem holds1.ml:True:=trivial
theorem holds1.da:True:=trivial
theorem holds1.l4:True:=trivial
theorem holds1.dq:True:=trivial
theorem holds1.jx:True:=trivial
theorem holds1.gi:True:=trivial
theorem holds1.fu:True:=trivial
theorem holds1.gx:True:=trivial
theorem holds1.ew:True:=trivial
theorem holds1.gf:True:=trivial
theorem holds1.l9:True:=trivial
theorem holds1.lq:True:=trivial
theorem holds1.bx:True:=trivial
theorem holds1.dp:True:=trivial
theorem holds1.jf:True:=trivial
theorem holds1.cq:True:=trivial
theorem holds1.ft:True:=trivial
theorem holds1.lg:True:=trivial
theorem holds1.nc:True:=trivial
theorem holds1.lp:True:=trivial
theorem holds1.nf:True:=trivial
theorem holds1.cg:True:=trivial
theorem holds1.tw14514996853120130799:True:=trivial
theorem holds1.tw12710388993565291481:True:=trivial
theorem holds1.tw4539166170441203513:True:=trivial
theorem holds1.tw9312702174969149222:True:=trivial
theorem holds1.tw15391659546199481172:True:=trivial
theorem holds1.tw2147012343310637790:True:=trivial
theorem holds1.tw1968647754051983814:True:=trivial
theorem holds1.tw14661350768939261835:True:=trivial
theorem holds1.tw6907726247593605747:True:=trivial
theorem holds1.tw8086783703278527771:True:=trivial
theorem holds1.tw4199022590025780788:True:=trivial
theorem holds1.tw9610522564701373412:True:=trivial
theorem holds1.tw4682049585694121764:True:=trivial
theorem holds1.tw1788973157911999011:True:=trivial
theorem holds1.tw6372600166037120513:True:=trivial
theorem holds1.tw9646131394589461018:True:=trivial
theorem holds1.tw7733200895515207574:True:=trivial
theorem holds1.tw17280460527603987970:True:=trivial
theorem holds1.tw13161745070165580944:True:=trivial
theorem holds1.tw17122260036110843677:True:=trivial
theorem holds1.tw4078998466134919994:True:=trivial
theorem holds1.tw2774747345140812412:True:=trivial
theorem holds1.tw3479767737881918044:True:=trivial
theorem holds1.tw1943953427803674544:True:=trivial
theorem holds1.tw1892848873492515818:True:=trivial
theorem holds1.tw9191737302721848645:True:=trivial
theorem holds1.tw5627927273670975959:True:=trivial
theorem holds1.tw8863258522124206701:True:=trivial
theorem holds1.tw3679138988928346111:True:=trivial
theorem holds1.tw13352721917897248462:True:=trivial
theorem holds1.tw17664978847121337845:True:=trivial
theorem holds1.tw957014184690575682:True:=trivial
theorem holds1.tw16443999806118001737:True:=trivial
theorem holds1.tw5809389102989404194:True:=trivial
theorem holds1.tw3754023190032385723:True:=trivial
theorem holds1.tw6790545379223248766:True:=trivial
theorem holds1.tw6992164741149433035:True:=trivial
theorem holds1.tw6777008699517409389:True:=trivial
theorem holds1.tw7249236758303204133:True:=trivial
theorem holds1.tw4445359283989157876:True:=trivial
theorem holds1.tw13911055521795920847:True:=trivial
theorem holds1.tw2214098520060296381:True:=trivial
theorem holds1.tw424635857183827242:True:=trivial
theorem holds1.tw958723481105556781:True:=trivial
theorem holds1.tw3435150445413619131:True:=trivial
theorem holds1.tw16471439029403377690:True:=trivial
theorem holds1.tw6280532599723930150:True:=trivial
theorem holds1.tw1806422031102358329:True:=trivial
theorem holds1.tw4292805024018544054:True:=trivial
theorem holds1.tw589050840884361439:True:=trivial
theorem holds1.tw7892131976521633626:True:=trivial
theorem holds1.tw11803510830981195554:True:=trivial
theorem holds1.tw7314248668632583250:True:=trivial
theorem holds1.tw5026497840718678979:True:=trivial
theorem holds1.tw15047870469291090519:True:=trivial
theorem holds1.tw1521095938966409046:True:=trivial
theorem holds1.tw9122259192342550338:True:=trivial
theorem holds1.tw11472121577030031059:True:=trivial
theorem holds1.tw17678359323726558567:True:=trivial
theorem holds1.tw4158243736972496992:True:=trivial
theorem holds1.tw17300633147961384954:True:=trivial
theorem holds1.tw970024554835542797:True:=trivial
theorem holds1.tw11046308035322838536:True:=trivial
theorem holds1.tw11756276023381032100:True:=trivial
theorem holds1.tw17816011529898655572:True:=trivial
theorem holds1.tw12603240934129434909:True:=trivial
theorem holds1.tw1154130203660506132:True:=trivial
theorem holds1.tw16957884650212512695:True:=trivial
theorem holds1.tw11033528786592090027:True:=trivial
theorem holds1.tw7346462117901596437:True:=trivial
theorem holds1.tw9627384581340234391:True:=trivial
theorem holds1.tw10306458833911806572:True:=trivial
theorem holds1.tw11806714517261266007:True:=trivial
theorem holds1.tw9717070815049893068:True:=trivial
theorem holds1.tw6044898874963424949:True:=trivial
theorem holds1.tw283921801037455003:True:=trivial
theorem holds1.tw8871810644153937863:True:=trivial
theorem holds1.tw7562785485628990918:True:=trivial
theorem holds1.tw7244168715444115342:True:=trivial
theorem holds1.tw6736496249213019844:True:=trivial
theorem holds1.tw16730135496611200485:True:=trivial
theorem holds1.tw6439518452336467903:True:=trivial
theorem holds1.tw3311278536960525469:True:=trivial
theorem holds1.tw18443943179739791339:True:=trivial
theorem holds1.tw1536079817178710590:True:=trivial
theorem holds1.tw14525113097093462137:True:=trivial
theorem holds1.tw10627453944944788852:True:=trivial
theorem holds1.tw5114124487160576727:True:=trivial
theorem holds1.tw10054761403541054482:True:=trivial
theorem holds1.tw14371323117006203098:True:=trivial
theorem holds1.tw5973973985303577696:True:=trivial
theorem holds1.tw17025551805958365996:True:=trivial
theorem holds1.tw5023055615955155559:True:=trivial
theorem holds1.tw6218595316019884523:True:=trivial
theorem holds1.tw6902222257315495568:True:=trivial
theorem holds1.tw12333466646405418337:True:=trivial
theorem holds1.tw14827519920478339876:True:=trivial
theorem holds1.tw9709028053615250574:True:=trivial
theorem holds1.tw13628457581272844381:True:=trivial
theorem holds1.tw6698281132161665438:True:=trivial
theorem holds1.tw12088896247590762357:True:=trivial
theorem holds1.tw8965706603787027370:True:=trivial
theorem holds1.tw844711583025077444:True:=trivial
theorem holds1.tw5950644944585086201:True:=trivial
theorem holds1.tw311903547453505697:True:=trivial
theorem holds1.tw195925421180098501:True:=trivial
theorem holds1.tw18343542604022582702:True:=trivial
theorem holds1.tw18155651073312039463:True:=trivial
theorem holds1.tw17376794213688765402:True:=trivial
theorem holds1.tw16928085069157133102:True:=trivial
theorem holds1.tw16416374545414124659:True:=trivial
theorem holds1.tw14427273628584241659:True:=trivial
theorem holds1.tw14325401644890467746:True:=trivial
theorem holds1.tw136355633897386044:True:=trivial
theorem holds1.tw1226442572134976983:True:=trivial
theorem holds1.tw10098189682797942459:True:=trivial
theorem holds1.tw845284664307535052:True:=trivial
theorem holds1.tw2314526549993043843:True:=trivial
theorem holds1.tw15073878928212407067:True:=trivial
theorem holds1.tw10709993854320742875:True:=trivial
theorem holds1.tw413127383055811001:True:=trivial
theorem holds1.tw14160343552031792641:True:=trivial
theorem holds1.tw15569411686379285044:True:=trivial
theorem holds1.tw4132469746977623199:True:=trivial
theorem holds1.tw1396721138869736929:True:=trivial
theorem holds1.tw12564233618111019011:True:=trivial
theorem holds1.tw9465769204148153256:True:=trivial
theorem holds1.tw3065332984432948403:True:=trivial
theorem holds1.tw18388681429238011610:True:=trivial
theorem holds1.tw9655616474567730194:True:=trivial
theorem holds1.tw15835466032930511567:True:=trivial
theorem holds1.tw12944199523500396618:True:=trivial
theorem holds1.tw889925780855335452:True:=trivial
theorem holds1.tw1338490826761224440:True:=trivial
theorem holds1.tw9339734238157223648:True:=trivial
theorem holds1.tw8301785120089923531:True:=trivial
theorem holds1.tw3681413386528617397:True:=trivial
theorem holds1.tw15033963437504689633:True:=trivial
theorem holds1.tw14128052098762970660:True:=trivial
theorem holds1.tw1345255345607832996:True:=trivial
theorem holds1.tw1208835565323118792:True:=trivial
theorem holds1.tw11425217072096831876:True:=trivial
theorem holds1.tw1130723461305720838:True:=trivial
theorem holds1.tw15968518813678647109:True:=trivial
theorem holds1.tw18387333669365649200:True:=trivial
theorem holds1.tw7137353815019030102:True:=trivial
theorem holds1.tw6455720279934854775:True:=trivial
theorem holds1.tw1996472242379401449:True:=trivial
theorem holds1.tw9966118461687634828:True:=trivial
theorem holds1.tw9759633447304406446:True:=trivial
theorem holds1.tw9471448090455002566:True:=trivial
theorem holds1.tw7998340696372350992:True:=trivial
theorem holds1.tw7995055315064712316:True:=trivial
theorem holds1.tw7056031304250682805:True:=trivial
theorem holds1.tw5169538630843646882:True:=trivial
theorem holds1.tw494486357818669597:True:=trivial
theorem holds1.tw4728285608797437251:True:=trivial
theorem holds1.tw4261220921461409709:True:=trivial
theorem holds1.tw3742053264918958037:True:=trivial
theorem holds1.tw3010816645429568940:True:=trivial
theorem holds1.tw2041227889435913545:True:=trivial
theorem holds1.tw1957421038283373499:True:=trivial
theorem holds1.tw18394502262225197996:True:=trivial
theorem holds1.tw18174486464321398222:True:=trivial
theorem holds1.tw16860262329023004717:True:=trivial
theorem holds1.tw15579743865879788093:True:=trivial
theorem holds1.tw1430282879786726388:True:=trivial
theorem holds1.tw13987262527688199454:True:=trivial
theorem holds1.tw13894370270840479141:True:=trivial
theorem holds1.tw13841422078383715639:True:=trivial
theorem holds1.tw12968018099755438700:True:=trivial
theorem holds1.tw1270436964338782522:True:=trivial
theorem holds1.tw12178545199107728442:True:=trivial
theorem holds1.tw12068279867252642371:True:=trivial
theorem holds1.tw1173524532325438719:True:=trivial
theorem holds1.tw10932391174348782939:True:=trivial
theorem holds1.tw13592335845994600705:True:=trivial
theorem holds1.tw4268573042754435179:True:=trivial
set_option Elab.async true in
theorem holds1:PySem.Challenge.rw_oy0180_01.Holds:=by
 w_on;o_law;o_head (kmHook hk.1 hk.2.1 (λ _=>by kernel_rfl) [16,178])
 case hw=>w_witness2
 case hc=>exact jB _ _ _ _ _ (by kernel_rfl) (by kernel_rfl)
end Mine.Internal
theorem PySem.Challenge.cw_oy0180_01_holds : PySem.Challenge.rw_oy0180_01.Holds :=
  Mine.Internal.holds1
