import PyProof.Rows.All
import Wide.All
import OpenK.AllK
import Wide.FinOn
import KE.KSortTup
import KE.KEqDict
import PyProof.IsiHeapPairs
import Lean
import PySem.Challenge.RW_oy0180_01
set_option Elab.async false
set_option linter.unusedVariables false
set_option maxRecDepth 1000000
set_option maxHeartbeats 8000000
open PySem PySem.W PyProof.Rows
open_top hd for PySem.Challenge.rw_oy0180_01
namespace Mine
local macro_rules |`(⋯)=>`(by kernel_rfl)
local macro_rules |`(∅)=>`(by omega)
local macro_rules |`({_})=>`(by decide+kernel)
local macro_rules |`((_))=>`(by simp)
local macro_rules |`(#[$s:ident,$h])=>`({$s with heap:=$h})
local macro_rules |`(#[$s:ident,$h,$t])=>`({$s with heap:=$h,toks:=$t})
abbrev Aa:= @PySem.wpAny_bind
abbrev Ab:= @Nat.le_trans
abbrev Ac:= @List.mem_cons_self
abbrev Ad:= @List.mem_cons_of_mem
abbrev Ae:= @Option.bind_eq_some_iff
abbrev Af:= @PySem.wpAny_pure
abbrev Ag:= @List.mem_cons
abbrev Ah:= @Bool.and_eq_true
abbrev Ai:= @PySem.Heap.get?_push_of_some
abbrev Ak:= @if_neg
abbrev Al:= @PySem.wpAny_execs_cons
abbrev Am:= @Nat.le_refl
abbrev Ao:= @List.length_map
abbrev Ap:= @if_pos
abbrev Aq:= @Bool.false_eq_true
abbrev Ar:= @PySem.Heap.get?_push_size
abbrev As:= @Option.map_eq_some_iff
abbrev At:= @List.mem_map
abbrev Au:= @List.mem_append
abbrev Av:= @PySem.Calls.spliced_cons
abbrev Ax:= @List.mem_append_right
abbrev Az:= @List.getD_eq_getElem?_getD
abbrev AA:= @PySem.wpAny_of_eq
abbrev AD:= @List.mem_range
abbrev AE:= @List.getElem?_map
abbrev AF:= @PySem.wpAny_holding
abbrev AG:= @List.map_map
abbrev AI:= @PySem.wpAny_standAt
abbrev AJ:= @List.all_eq_true
abbrev AK:= @decide_eq_true_eq
abbrev AL:= @List.map_cons
abbrev AO:= @PySem.Heap.lt_size
abbrev AS:= @if_false
abbrev AT:= @List.mem_append_left
abbrev AU:= @List.mem_filter
abbrev AV:= @PySem.Calls.spliced_nil
abbrev AX:= @Option.bind_some
abbrev AY:= @PySem.builtinLookup_eq_fast
abbrev AZ:= @PySem.wpAny_execs_nil
abbrev A0:= @if_true
abbrev A1:= @PySem.Calls.evalArgs_plain
abbrev A4:= @PySem.W.Looks.of_pure
abbrev A6:= @Nat.le_succ
abbrev A7:= @List.map_congr_left
abbrev Bb:= @List.getElem?_eq_getElem
abbrev Bc:= @PySem.Heap.get?_update_self
abbrev Bh:= @PySem.Heap.size_push
abbrev Bj:= @PySem.wpAny_newObj_type
abbrev Bo:= @LawfulBEq.eq_of_beq
abbrev Br:= @List.append_assoc
abbrev Bs:= @decide_eq_false
abbrev Bt:= @List.forIn_cons
abbrev Bv:= @decide_eq_true
abbrev Bw:= @PySem.wpAny_with_toks
abbrev Bx:= @PySem.typeLookup_type
abbrev BA:= @PySem.Heap.SameBut.update
abbrev BC:= @Option.some.inj
abbrev BD:= @Nat.le_succ_of_le
abbrev BE:= @Bool.eq_iff_iff
abbrev BG:= @PySem.wpAny_Call_NameR
abbrev BI:= @PySem.wpAny_ite_false
abbrev BN:= @Bool.or_eq_true
abbrev BP:= @PySem.wpAny_mono
abbrev BQ:= @decide_eq_true_iff
abbrev BS:= @Option.isSome_iff_exists
abbrev BT:= @Nat.zero_le
abbrev BU:= @Nat.ne_of_lt
abbrev BV:= @List.map_append
abbrev BZ:= @List.length_append
abbrev B4:= @PySem.wpAny_nsGet
abbrev B5:= @PySem.wpAny_field
abbrev B7:= @PySem.wpAny_call
abbrev Ca:= @PySem.Heap.get?_update_other
abbrev Cb:= @congrArg
abbrev Cf:= @PySem.W.Looks.ld
abbrev Ch:= @Array.getElem?_eq_some_iff
abbrev Cj:= @List.append_nil
abbrev Cm:= @PySem.Calls.callWith_function
abbrev Cq:= @List.take_of_length_le
abbrev Cr:= @List.length_cons
abbrev Ct:= @PySem.codeAny_call_builtin
abbrev Cu:= @List.flatMap_cons
abbrev Cy:= @Nat.ne_of_gt
abbrev Cz:= @List.mem_singleton
abbrev CD:= @List.filter_cons_of_neg
abbrev CG:= @PySem.sizeLine_eq
abbrev CH:= @Option.some.injEq
abbrev CI:= @List.filter_congr
abbrev CN:= @List.nodup_cons
abbrev CU:= @List.getElem?_eq_some_iff
abbrev CV:= @PySem.wpAny_truthy_bool
abbrev CW:= @PySem.wpAny_Return_some
abbrev CX:= @PyProof.Rows.tail_any
abbrev C3:= @Nat.lt_of_lt_of_le
abbrev C4:= @Nat.lt_of_le_of_lt
abbrev C5:= @List.zip_cons_cons
abbrev C6:= @PySem.pushCells_keeps
abbrev Dd:= @List.all_cons
abbrev Dj:= @PySem.Obj.isFreed_of_fields
abbrev Dl:= @PySem.Obj.data_mapFields
abbrev Dm:= @List.length_eq_zero_iff
abbrev Dn:= @List.filter_cons_of_pos
abbrev Du:= @List.find?_cons
abbrev Dv:= @List.filter_map
abbrev Dz:= @List.getElem?_range
abbrev DC:= @List.drop_eq_nil_of_le
abbrev DD:= @PySem.wpAny_assign_Name
abbrev DG:= @beq_self_eq_true
abbrev DH:= @List.any_eq_true
abbrev DI:= @List.pairwise_cons
abbrev DM:= @List.length_filter_le
abbrev DR:= @PySem.W.Looks.at
abbrev DU:= @List.drop_eq_getElem_cons
abbrev DX:= @List.nil_append
abbrev D3:= @PySem.F.slot_tuple_iterator_next
abbrev D4:= @PySem.Code.quiet_builtin
abbrev D9:= @Nat.lt_irrefl
abbrev Ea:= @List.length_erase_of_mem
abbrev Ek:= @PySem.wpAny_loadName_local
abbrev Eu:= @Nat.lt_succ_self
abbrev Ev:= @List.not_mem_nil
abbrev EB:= @PySem.W.looks_field
abbrev EM:= @Nat.not_lt
abbrev E0:= @List.foldl_cons
abbrev E9:= @of_decide_eq_true
abbrev Fa:= @PySem.F.slot_enumerate_next
abbrev Fb:= @List.size_toArray
abbrev Fr:= @PySem.Calls.callWith_builtin
abbrev Fs:= @PySem.wpAny_loadPart'
abbrev Fu:= @PySem.codeAny_builtin
abbrev Fv:= @List.forIn_nil
abbrev FN:= @List.mem_flatMap
abbrev FO:= @List.length_take
abbrev FP:= @List.isEmpty_nil
abbrev FQ:= @List.filter_cons
abbrev FR:= @List.cons_append
abbrev FT:= @Int.le_max_right
abbrev F7:= @List.filter_eq_self
abbrev F8:= @Array.any_eq_false'
abbrev Gl:= @Int.le_max_left
abbrev GA:= @Nat.sub_le
abbrev GO:= @PySem.codeAny_forLoop_any
abbrev GV:= @Nat.lt_succ_of_lt
abbrev GX:= @Nat.lt_of_succ_lt_succ
abbrev GY:= @List.map_nil
abbrev GZ:= @List.mapM_cons
abbrev G5:= @Array.all_eq_true_iff_forall_mem
abbrev Hc:= @PySem.wpAny_setField_rec
abbrev Hd:= @PySem.wpAny_load
abbrev He:= @PySem.wpAny_Constant_str
abbrev Hl:= @PySem.call_meets
abbrev Ho:= @PySem.wpAny_getItem_str_slice
abbrev Hq:= @PySem.wpAny_callSpecial?_slot
abbrev Hr:= @List.contains_iff_mem
abbrev Ht:= @Array.getElem?_modify
abbrev HK:= @Bool.not_true
abbrev HM:= @Bool.and_true
abbrev HN:= @PySem.wpAny_setField
abbrev HO:= @PySem.wpAny_mkText
abbrev HP:= @PySem.wpAny_loadPart_at
abbrev HT:= @PySem.wpAny_ite_true
abbrev II:= @List.idxOf_cons
abbrev IM:= @List.mergeSort_perm
abbrev IN:= @List.length_reverse
abbrev IO:= @List.filterMap_cons
abbrev IP:= @Array.length_toList
abbrev IQ:= @PySem.wpAny_call_entry
abbrev IR:= @PySem.wpAny_Try_except
abbrev IT:= @PySem.typeIs_str
abbrev Jd:= @PySem.entryFor_of_tree
abbrev Jj:= @PySem.callWith_excType
abbrev Jl:= @Nat.le_of_lt
abbrev Jm:= @PySem.wpAny_attempt
abbrev Jz:= @PySem.wpAny_If
abbrev JB:= @beq_iff_eq
abbrev JF:= @Nat.mod_two_eq_zero_or_one
abbrev JG:= @Bool.false_and
abbrev JU:= @PySem.W.Looks.andThen
abbrev Kb:= @PySem.codeAny_of_tree
abbrev Ki:= @PySem.wpAny_loadName_cell
abbrev Kj:= @List.isEmpty_cons
abbrev Kk:= @Int.le_refl
abbrev Kl:= @PySem.wpAny_runOwn
abbrev KZ:= @List.Perm.eq_of_pairwise
abbrev K5:= @PySem.wpAny_pyIter_tuple
abbrev K6:= @PySem.wpAny_loadPart
abbrev Ls:= @PySem.isSubtype_type
abbrev Lx:= @PySem.arm_eval_Tuple
abbrev LA:= @PySem.Obj.putName_eq
abbrev LC:= @List.pairwise_mergeSort
abbrev LD:= @List.map_reverse
abbrev LF:= @List.lookup_cons
abbrev LH:= @List.length_drop
abbrev MC:= @Nat.zero_add
abbrev MD:= @List.filter_eq_nil_iff
abbrev MG:= @PySem.wpAny_alloc
abbrev MH:= @PySem.wpAny_BinOp
abbrev MY:= @Option.map_some
abbrev MZ:= @PySem.Obj.cls_mapFields
abbrev Ol:= @PySem.arm_eval_List
abbrev Om:= @PySem.arm_evalThenUse_ListComp
abbrev Oo:= @List.take_append_drop
abbrev OE:= @or_false
abbrev OQ:= @Nat.testBit_or
abbrev OR:= @List.map_id
abbrev OS:= @List.drop_zero
abbrev OU:= @PySem.F.slot_str_split
abbrev PK:= @PySem.wpAny_Name
abbrev QI:= @PySem.arm_exec_For
abbrev QM:= @PySem.Heap.size_after_update
abbrev QN:= @PySem.post_val_or_str
abbrev QO:= @PySem.arm_exec_Assign
abbrev QR:= @PySem.F.slot_int_rmul
abbrev QT:= @PySem.wpAny_isTrue_Compare1
abbrev Sg:= @PySem.codeAny_call_function
abbrev JD:=Value->Shared->Prop
inductive PV where
 |none
 |bool (b:Bool)
 |int (i:Int)
 |str (s:Str)
 |list (xs:List PV)
 |ay (xs:List PV)
 |dict (es:List (Str×PV))
 |obj (v:Value)
 deriving Inhabited
def Bi:Nat:=1048576
theorem Gz:5000<=Bi:={_}
theorem Ei:Bi<=sizeLine:={_}
structure BH where
 prog:Program
 w:World
 h0:Heap
 TB:List Addr
 dc:Heap->Prop
 bz:∀h h',(∀b o vs,h.get? b=some o->o.data=.fields vs->(o.cls=.none\/o.cls=.type "code")->h'.get? b=some o)->dc h->dc h'
abbrev BH.M (W:BH):Model:=model W.prog W.w
abbrev BH.K (W:BH):KeyKind W.prog W.w Str:=_root_.PySem.strKind W.prog W.w
abbrev Fz (a:Array Value)(n:Nat):Obj:={cls:=.type "list",data:=.seq a n}
abbrev JI (a:Array Value)(n:Nat):Obj:={cls:=.type "tuple",data:=.seq a n}
mutual
inductive Rp (W:BH)(X:List Addr)(h:Heap):Value->PV->Prop
 |none:Rp W X h .none .none
 |bool (b):Rp W X h (.bool b) (.bool b)
 |int (i t):Rp W X h (.int i t) (.int i)
 |str (x t):PyData.strOk x=true->x.length<=Bi->Rp W X h (.str x t) (.str x)
 |obj (v):Rp W X h v (.obj v)
 |list {a vs n xs}:h.get? a=some (Fz vs n)->a∉X->vs.size<=Bi->RpL W X h vs.toList xs->Rp W X h (.ref a) (.list xs)
 |ay {a vs n xs}:h.get? a=some (JI vs n)->a∉X->vs.size<=Bi->RpL W X h vs.toList xs->Rp W X h (.ref a) (.ay xs)
 |dict {a kvs es}:h.DictOf W.K a kvs->a∉X->(a==sysModules)=false->kvs.length<=Bi->kvs.map (·.1)=es.map (·.1)->RpL W X h (kvs.map (·.2)) (es.map (·.2))->Rp W X h (.ref a) (.dict es)
inductive RpL (W:BH)(X:List Addr)(h:Heap):List Value->List PV->Prop
 |nil:RpL W X h [] []
 |cons {v vs d ds}:Rp W X h v d->RpL W X h vs ds->RpL W X h (v::vs) (d::ds)
end
def A8 (W:BH)(h c:Heap):Prop:=
 (∀b o,h.get? b=some o->c.get? b=some o\/(W.h0.get? b=Option.none/\o.cls=.type "frame"/\∃e,c.get? b=some {o with slots:=e})\/
  (b∈W.TB/\∃d a,o=tabObj d/\c.get? b=some (tabObj (d++a))))/\(W.dc h->W.dc c)
section
variable {W:BH}{X:List Addr}{h H:Heap}
theorem A8.ad (k:∀b o,h.get? b=some o->H.get? b=some o):A8 W h H:=
 ⟨λ b o e=>.inl (k b o e),W.bz _ _ λ b o _ e _ _=>k b o e⟩
theorem A8.refl (h:Heap):A8 W h h:=.ad λ _ _ e=>e
theorem A8.push (h:Heap)(o:Obj):A8 W h (h.push o):=.ad λ _ _ e=>Ai _ e
theorem A8.keep (c:A8 W h H)(e:h.get? b=some o)(d:o.cls≠.type "frame")(f:o.cls≠.none):H.get? b=some o:=by
 rcases c.1 b o e with k |⟨_,k,_⟩ |⟨_,g,a,k,_⟩
 ·exact k
 ·exact absurd k d
 ·subst k;exact absurd rfl f
theorem A8.trans (p:A8 W h H)(G:A8 W H a):A8 W h a:=by
 refine⟨λ b o e=>?_,λ t=>G.2 (p.2 t)⟩;rcases p.1 b o e with k |⟨n,k,q,j⟩ |⟨n,f,c,k,j⟩
 ·exact G.1 b o k
 ·rcases G.1 b _ j with g |⟨_,g,l,i⟩ |⟨_,f,c,g,i⟩
  ·exact .inr (.inl ⟨n,k,q,g⟩)
  ·exact .inr (.inl ⟨n,k,l,i⟩)
  ·have:({o with slots:=q}:Obj).cls=.none:=by rw[g]
   have:o.cls=.none:=this;rw[k] at this;cases this
 ·subst k;rcases G.1 b _ j with g |⟨_,g,_⟩ |⟨_,m,d,g,i⟩
  ·exact .inr (.inr ⟨n,f,c,rfl,g⟩)
  ·cases g
  ·have r:f++c=m:=by injection g with _ _ g;injection g
   subst r;exact .inr (.inr ⟨n,f,c++d,rfl,by rw[<-Array.append_assoc];exact i⟩)
theorem A8.az (g:A8 W h H)(l:h.get? a=none)(i:∀o j,H.get? a=some o->o.data=.fields j->o.cls≠.none/\o.cls≠.type "code")(k:Heap.SameBut a H c):A8 W h c:=by
 refine⟨λ b o e=>?_,λ t=>W.bz _ _ (λ b o j e hd d=>?_) (g.2 t)⟩
 ·have f:b≠a:=by rintro rfl;rw[l] at e;cases e
  rw[k.2 b f];exact g.1 b o e
 ·have f:b≠a:=by
   rintro rfl;rcases d with d |d
   ·exact(i _ _ e hd).1 d
   ·exact(i _ _ e hd).2 d
  rw[k.2 b f];exact e
theorem Jf (hd:h.DictOf W.K a b)(d:∀o,h.get? a=some o->o.cls=.type "dict"->H.get? a=some o):H.DictOf W.K a b:=
 let⟨o,e,f,g,c,r⟩:=hd;⟨o,e,f,d o g c.1,c,r⟩
variable {Y:List Addr} in
mutual
theorem Rp.bc (hk:∀b o,h.get? b=some o->b∉X->(o.cls=.type "list"\/o.cls=.type "tuple"\/o.cls=.type "dict")->H.get? b=some o/\b∉Y):∀{v:Value}{d:PV},Rp W X h v d->Rp W Y H v d
 |_,_,.none=>.none
 |_,_,.bool b=>.bool b
 |_,_,.int i t=>.int i t
 |_,_,.str x t a b=>.str x t a b
 |_,_,.obj v=>.obj v
 |_,_,.list e n z l=>.list (hk _ _ e n (.inl rfl)).1 (hk _ _ e n (.inl rfl)).2 z (RpL.bc hk l)
 |_,_,.ay e n z l=>.ay (hk _ _ e n (.inr (.inl rfl))).1 (hk _ _ e n (.inr (.inl rfl))).2 z (RpL.bc hk l)
 |_,_,.dict e n y z q l=>.dict (Jf e λ o ho hc=>(hk _ o ho n (.inr (.inr hc))).1) (by obtain⟨o,_,_,ho,hx,_⟩:=e;exact(hk _ o ho n (.inr (.inr hx.1))).2) y z q (RpL.bc hk l)
theorem RpL.bc (hk:∀b o,h.get? b=some o->b∉X->(o.cls=.type "list"\/o.cls=.type "tuple"\/o.cls=.type "dict")->H.get? b=some o/\b∉Y):∀{vs:List Value}{ds:List PV},RpL W X h vs ds->RpL W Y H vs ds
 |_,_,.nil=>.nil
 |_,_,.cons a b=>.cons (Rp.bc hk a) (RpL.bc hk b)
end
theorem Ce (a:A8 W h H)(e:h.get? b=some o)(c:o.cls=.type "list"\/o.cls=.type "tuple"\/o.cls=.type "dict"):H.get? b=some o:=by
 refine a.keep e ?_ ?_<;>(rcases c with c |c |c<;>rw[c]<;>simp)
theorem Rp.ac (a:A8 W h H)(r:Rp W X h v d):Rp W X H v d:=r.bc λ _ _ e n c=>⟨Ce a e c,n⟩
theorem RpL.ac (d:A8 W h H)(r:RpL W X h a b):RpL W X H a b:=r.bc λ _ _ e n c=>⟨Ce d e c,n⟩
theorem Rp.az (c:Heap.SameBut a h H)(f:a∈X)(r:Rp W X h v d):Rp W X H v d:=
 r.bc λ b _ e n _=>⟨by rw[c.2 b λ q=>n (q▸f)];exact e,n⟩
theorem RpL.az (f:Heap.SameBut a h H)(g:a∈X)(r:RpL W X h c d):RpL W X H c d:=
 r.bc λ b _ e n _=>⟨by rw[f.2 b λ q=>n (q▸g)];exact e,n⟩
theorem Rp.au (H:h.get? a=Option.none)(r:Rp W X h v d):Rp W (a::X) h v d:=
 r.bc λ b _ e n _=>⟨e,λ q=>by
  rcases Ag.mp q with q |q
  ·subst q;rw[H] at e;cases e
  ·exact n q⟩
theorem RpL.au (H:h.get? a=Option.none)(r:RpL W X h c d):RpL W (a::X) h c d:=
 r.bc λ b _ e n _=>⟨e,λ q=>by
  rcases Ag.mp q with q |q
  ·subst q;rw[H] at e;cases e
  ·exact n q⟩
theorem Rp.ag (H:∀a∈Y,a∈X)(r:Rp W X h v d):Rp W Y h v d:=r.bc λ _ _ e n _=>⟨e,λ q=>n (H _ q)⟩
theorem RpL.ag (H:∀a∈Y,a∈X)(r:RpL W X h b c):RpL W Y h b c:=r.bc λ _ _ e n _=>⟨e,λ q=>n (H _ q)⟩
theorem RpL.length:∀{H:List Value}{a:List PV},RpL W X h H a->H.length=a.length
 |_,_,.nil=>rfl
  |_,_,.cons _ r=>by simp[RpL.length r]
theorem RpL.append:∀{H c:List Value}{d e:List PV},RpL W X h H d->RpL W X h c e->RpL W X h (H++c) (d++e)
 |_,_,_,_,.nil,r=>r
  |_,_,_,_,.cons a b,r=>.cons a (RpL.append b r)
theorem RpL.bt (r:Rp W X h v d):RpL W X h [v] [d]:=.cons r .nil
theorem RpL.get:∀{H:List Value}{c:List PV},RpL W X h H c->∀{k:Nat}{d:PV},c[k]? =some d->∃v,H[k]? =some v/\Rp W X h v d
 |_,_,.nil,k,d,e=>by simp at e
  |_,_,.cons (v:=v) a b,0,d,e=>by
   simp only[List.getElem?_cons_zero,CH] at e;subst e;exact⟨v,rfl,a⟩
  |_,_,.cons a b,k+1,d,e=>by
   simp only[List.getElem?_cons_succ] at e ⊢;exact RpL.get b e
end
def BR {b:Type}(W:BH)(A:Around)(t:Sem b)(s:Shared)(P:b->Heap->Prop):Prop:=
 ∀(Q:b->Shared->Prop)(E:JD),(∀a c d,A8 W s.heap c->s.toks<=d->P a c->Q a #[s,c,d])->wpAny W.M A t Q E s
section
variable {α β:Type}{W:BH}{A:Around}{s:Shared}
theorem BR.ac (h:BR W A t s P)(c:∀a b,A8 W s.heap b->P a b->R a b):BR W A t s R:=λ Q E d=>h Q E λ a b tk k l p=>d a b tk k l (c a b k p)
end
variable {A:Around}{E Q:JD}{W:BH}{X Z:List Addr}{k:Nat}{z:Env}{fd:FuncData}{h H N:Heap}{mb mg:Str->Option Value}{o:Obj}{s:Shared}{V:Scope}{w:World}
theorem Rb (name:Str)(o:Int)(h v:Value)(k:Obj)(hd:k.data=.dict a b):(Obj.putName name o h v k).cls=k.cls/\(Obj.putName name o h v k).isFreed=false/\∃s w,(Obj.putName name o h v k).data=.dict s w:=by
 obtain⟨c,d,z,A⟩:=k;simp only at hd;subst hd;simp only[LA,Obj.putNameByArray];split<;>exact⟨rfl,rfl,_,_,rfl⟩
def Ex (w z:Heap):Prop:=∀b o A E,w.get? b=some o->o.data=.dict A E->∃h k s,z.get? b=some h/\h.cls=o.cls/\h.data=.dict k s
theorem PI (i:s.heap.Ns a m)
 (Q:∀h,h.Ns a (λ x=>if x=name then some v else m x)->Heap.SameBut a s.heap h->Ex s.heap h->c () #[s,h,s.toks+1]):
 wpAny M A (nsSet a name v) c E s:=by
 have V:=wpAny_nsSet (M:=M) (A:=A) (E:=E) (name:=name) (v:=v) i (Q:=λ _ j=>Ex s.heap j.heap->c () j) λ h u y B=>Q h u y B;intro C p W;have k:=V C p W;obtain⟨o,D,R,Z,hd,G,S⟩:=i;have w:D.any (·.refKey)=false:=by
  rw[F8];intro e I;obtain⟨n,t,Q⟩:=G e I;simp[DictEntry.refKey,Q]
 simp only[nsSet,strHash,Sem.wp_bind',Sem.wp_cmd_ask,Sem.wp_pure',Sem.wp_cmd_mkText] at k ⊢;rw[Sem.wp_loadPart_of _ _ _ _ {s with toks:=s.toks+1} (o:=o) _ Z] at k ⊢;simp only[hd,aRefKeyMayBeTheName_eq,aRefKeyMayBeTheNameByArray,w,Bool.and_false,Aq,AS,Sem.wp_cmd_updatePart] at k ⊢;refine⟨k.1,k.2 λ b l d f r g=>?_⟩;by_cases q:b=a
 ·subst q;have z:s.heap.get? b=some l:=r;rw[Z] at z;cases z;obtain⟨J,L,H,N,O⟩:=Rb name _ _ v o hd;exact⟨_,H,N,Bc _ Z L,J,O⟩
 ·exact⟨l,d,f,by rw[Ca _ _ (Ne.symm q)];exact r,rfl,g⟩
theorem B6 (k:z.kindOf name=some .local)(o:s.heap.Ns z.locals m)
 (w:∀h,h.Ns z.locals (λ x=>if x=name then some v else m x)->Heap.SameBut z.locals s.heap h->Ex s.heap h->a () #[s,h,s.toks+1])
 (H:(z.scope.kind== .class||(z.scope.kind== .module&&z.locals !=z.globals))=false:=by rfl):wpAny M A (storeName z name v) a E s:=by
 rw[storeName_local k H];exact PI o w
theorem Ex.ad (k:∀b o,h.get? b=some o->H.get? b=some o):Ex h H:=λ b o s w e hd=>⟨o,s,w,k b o e,rfl,hd⟩
theorem Ex.trans (a:Ex h H)(b:Ex H d):Ex h d:=λ c o w z e hd=>
 let⟨_,_,_,A,E,N⟩:=a c o w z e hd
 let⟨Q,k,s,V,W,Z⟩:=b c _ _ _ A N
 ⟨Q,k,s,V,W.trans E,Z⟩
variable {v:Value}{d:PV} in
inductive BL where
 |aa (d:PV)
 |own (d:PV)
 |al (v:Value)
 |bl (v:Value) (d:PV)
abbrev AC:=List (Str×BL)
variable {O:AC}
def CC (x:Str):Bool:=!(x==("__debug__":Str))&&!(x==("__classdict__":Str))
structure Cg (k:Nat)(A:Around):Prop where
 handled:A.handled=none
 depth:A.depth+10*k<900
 units:A.units+100*k<9000
variable {c:List PV}{b:List (Str×PV)} in
def BX (o:BH)(X:List Addr)(k:Heap)(a:Addr):PV->Prop
 | .list c=>∃s n,k.get? a=some (Fz s n)/\s.size<=Bi/\RpL o X k s.toList c
 | .dict b=>∃h,k.DictOf o.K a h/\(a==sysModules)=false/\h.length<=Bi/\h.map (·.1)=b.map (·.1)/\RpL o X k (h.map (·.2)) (b.map (·.2))
 |_=>False
variable {d:PV} in
def Bg (h:BH)(o X:List Addr)(k:Heap)(v:Value):BL->Prop
 | .aa d=>Rp h X k v d
 | .own d=>∃a,v=.ref a/\a∈X/\a∉o/\BX h X k a d
 | .al u=>v=u
 | .bl u d=>v=u/\Rp h X k v d
def Ay (h:Env):List Addr:=h.locals::h.cells.map (·.2)
def aH (h:Scope)(x:Str):Prop:=h.names.lookup x=some .local\/h.names.lookup x=some .cell\/h.names.lookup x=some .free
structure FI (W:BH)(sc:Scope)(env:Env)(Z X:List Addr)(h:Heap)(ρ:AC):Prop where
 aw:∀a∈Ay env,a∈Z
 zx:∀a∈Z,a∈X
 kind:env.scope.kind=.function
 br:env.globals=mainGlobals
 bx:env.builtins=builtinsNs
 dy:∀x,sc.names.lookup x=some .local->env.kindOf x=some .local
 cu:∀x,sc.names.lookup x=some .cell->env.kindOf x=some .cell
 di:∀x,sc.names.lookup x=some .free->env.kindOf x=some .free\/env.kindOf x=some .cell
 dr:∀x,sc.names.lookup x=some .globalImplicit->env.kindOf x=some .globalImplicit
 ns:∃m,h.Ns env.locals m/\∀x sl,sc.names.lookup x=some .local->ρ.lookup x=some sl->∃v,m x=some v/\Bg W Z X h v sl
 cell:∀x,(sc.names.lookup x=some .cell\/sc.names.lookup x=some .free)->∃c ov,env.cells.lookup x=some c/\h.IsCell c ov/\∀sl,ρ.lookup x=some sl->∃v,ov=some v/\Bg W Z X h v sl
 inj:∀x y c,env.cells.lookup x=some c->env.cells.lookup y=some c->x=y
 dk:∀x sl,ρ.lookup x=some sl->aH sc x/\CC x=true
 alive:∀a∈X,W.h0.get? a=Option.none/\∃o,h.get? a=some o
 bu:∀x y d e,ρ.lookup x=some (.own d)->ρ.lookup y=some (.own e)->x=y
theorem BX.ac (k:A8 W h H):∀{d:PV},BX W X h a d->BX W X H a d
 | .list _,⟨A,n,e,z,r⟩=>⟨A,n,k.keep e (_) (_),z,r.ac k⟩
  | .dict _,⟨s,e,y,z,q,r⟩=>⟨s,Jf e λ o E w=>k.keep E (by rw[w];simp) (by rw[w];simp),y,z,q,r.ac k⟩
theorem Bg.ac (k:A8 W h H):∀{o:BL},Bg W Z X h v o->Bg W Z X H v o
 | .aa _,r=>Rp.ac k r
  | .own _,⟨a,e,m,z,r⟩=>⟨a,e,m,z,r.ac k⟩
  | .al _,r=>r
  | .bl _ _,r=>⟨r.1,Rp.ac k r.2⟩
theorem BX.az (o:Heap.SameBut b h H)(w:b∈X)(k:a≠b):∀{d:PV},BX W X h a d->BX W X H a d
 | .list _,⟨A,n,e,z,r⟩=>⟨A,n,by rw[o.2 _ k];exact e,z,r.az o w⟩
  | .dict _,⟨s,e,y,z,q,r⟩=>⟨s,e.sameBut o k,y,z,q,r.az o w⟩
theorem YO (E:A8 W h H)(n:h.Ns a m)(O:∀o,h.get? a=some o->∀s,o.data≠.fields s):H.Ns a m:=by
 obtain⟨o,w,z,N,hd,r⟩:=n;rcases E.1 a o N with k |⟨_,_,Q,k⟩ |⟨_,s,A,k,V⟩
 ·exact⟨o,w,z,k,hd,r⟩
 ·exact⟨_,w,z,k,hd,r⟩
 ·subst k;cases hd
theorem B2 (w:A8 W h H)(n:h.Ns a m):H.Ns a m:=
 YO w n λ o z A s=>by obtain⟨E,N,O,k,hd,_⟩:=n;rw[z] at k;cases k;rw[hd] at s;cases s
theorem E6 (w:A8 W h H)(n:h.IsCell c a):H.IsCell c a:=by
 obtain⟨o,z,hd⟩:=n;rcases w.1 c o z with k |⟨_,_,A,k⟩ |⟨_,E,s,k,N⟩
 ·exact⟨o,k,hd⟩
 ·exact⟨_,k,hd⟩
 ·subst k;cases hd
theorem AP (w:A8 W h H)(n:∃o,h.get? a=some o):∃o,H.get? a=some o:=by
 obtain⟨o,z⟩:=n;rcases w.1 a o z with k |⟨_,_,A,k⟩ |⟨_,E,s,_,k⟩<;>exact⟨_,k⟩
theorem FI.ac (F:FI W V z Z X h O)(k:A8 W h H):FI W V z Z X H O:=
 {F with
  ns:=by
   obtain⟨m,A,o⟩:=F.ns;exact⟨m,B2 k A,λ x s a b=>let⟨v,e,r⟩:=o x s a b;⟨v,e,r.ac k⟩⟩
  cell:=λ x E=>let⟨c,N,e,i,o⟩:=F.cell x E;⟨c,N,e,E6 k i,λ s q=>let⟨v,e,r⟩:=o s q;⟨v,e,r.ac k⟩⟩
  alive:=λ a w=>⟨(F.alive a w).1,AP k (F.alive a w).2⟩}
theorem FI.ap (F:FI W V z Z X h O)(o:∀x k,f.lookup x=some k->O.lookup x=some k):FI W V z Z X h f:=
 {F with
  ns:=by
   obtain⟨m,w,s⟩:=F.ns;exact⟨m,w,λ x k a b=>s x k a (o x k b)⟩
  cell:=λ x A=>let⟨c,E,e,i,s⟩:=F.cell x A;⟨c,E,e,i,λ k q=>s k (o x k q)⟩
  dk:=λ x k e=>F.dk x k (o x k e)
  bu:=λ x y d e a b=>F.bu x y d e (o _ _ a) (o _ _ b)}
theorem F4 (h:CC x=true):(x==("__debug__":Str))=false/\(x==("__classdict__":Str))=false:=by
 unfold CC at h;cases k:x==("__debug__":Str)<;>cases o:x==("__classdict__":Str)<;>simp_all
theorem FI.load (F:FI W V z Z X s.heap O)(w:O.lookup x=some a)(o:∀v,Bg W Z X s.heap v a->Q v s):
 wpAny W.M A (loadName z x) Q E s:=by
 obtain⟨hd,H⟩:=F.dk x a w;rcases hd with h |h
 ·obtain⟨m,b,N⟩:=F.ns;obtain⟨v,e,r⟩:=N x a h w;exact Ek F.kind (F.dy x h) b e (o v r)
 ·obtain⟨c,d,e,i,N⟩:=F.cell x h;obtain⟨v,rfl,r⟩:=N a w;rcases h with h |h
  ·exact Ki F.kind (F.cu x h) e i (o v r)
  ·rcases F.di x h with k |k
   ·exact wpAny_loadName_free F.kind k e i (o v r) (F4 H).2
   ·exact Ki F.kind k e i (o v r)
theorem FI.name (F:FI W V z Z X s.heap O)(h:O.lookup x=some sl)(k:∀v,Bg W Z X s.heap v sl->Q v s):
 wpAny W.M A (eval (.Name x a) z) Q E s:=
 PK (F.load h k) (F4 (F.dk x sl h).2).1
def Ck (k:Scope)(h:Env)(a:Addr):Prop:=a=h.locals\/∃x,k.names.lookup x=some .cell/\h.cells.lookup x=some a
def dT (k:BH)(P:Addr->Prop)(o s:Heap):Prop:=∀h,(∀a,P a->h.get? a=Option.none)->A8 k h o->A8 k h s
structure Kg (W:BH)(P:Addr->Prop)(h h':Heap):Prop where
 keep:∀b o,¬P b->h.get? b=some o->h'.get? b=some o
 ik:dT W P h h'
 cls:Ex h h'
theorem dT.fq (o:A8 W h H):dT W P h H:=λ _ _ k=>k.trans o
theorem dT.trans (a:dT W P h H)(b:dT W P H c):dT W P h c:=λ o s k=>b o s (a o s k)
theorem Kg.ad (k:∀b o,h.get? b=some o->H.get? b=some o):Kg W P h H:=⟨λ b o _ e=>k b o e,.fq (.ad k),.ad k⟩
theorem Kg.refl:Kg W P h h:=.ad λ _ _ e=>e
theorem Kg.trans (a:Kg W P h H)(b:Kg W P H d):Kg W P h d:=⟨λ c o k e=>b.keep c o k (a.keep c o k e),a.ik.trans b.ik,a.cls.trans b.cls⟩
theorem Rp.bf (k:∀a,P a->a∈X)(S:Kg W P h H)(r:Rp W X h v d):Rp W X H v d:=r.bc λ b o e n _=>⟨S.keep b o (λ q=>n (k b q)) e,n⟩
theorem RpL.bf (k:∀a,P a->a∈X)(S:Kg W P h H)(r:RpL W X h c d):RpL W X H c d:=r.bc λ b o e n _=>⟨S.keep b o (λ q=>n (k b q)) e,n⟩
theorem Aj {a:Type}{v:a}{l:List (Str×a)}(h:y≠x):List.lookup y ((x,v)::l)=List.lookup y l:=by
 rw[LF];have:(y==x)=false:=by simpa using h
 rw[this]
theorem An {a:Type}{v:a}{l:List (Str×a)}:List.lookup x ((x,v)::l)=some v:=by
 rw[LF];simp
theorem Bg.az (k:Heap.SameBut b h H)(o:b∈X)(w:b∈Z):∀{s:BL},Bg W Z X h v s->Bg W Z X H v s
 | .aa _,r=>Rp.az k o r
  | .own _,⟨a,e,m,z,r⟩=>⟨a,e,m,z,r.az k o (by rintro rfl;exact z w)⟩
  | .al _,r=>r
  | .bl _ _,r=>⟨r.1,Rp.az k o r.2⟩
theorem Kc (i:h.IsCell c a)(n:h.Ns L m):c≠L:=by
 rintro rfl;obtain⟨o,w,hd⟩:=i;obtain⟨z,A,E,k,s,_⟩:=n;rw[w] at k;cases k;rw[hd] at s;cases s
theorem Bq (e:z.cells.lookup x=some c):c∈Ay z:=
 Ad _ (At.mpr ⟨(x,c),mem_of_lookup e,rfl⟩)
theorem EH (k:Heap.SameBut b h H)(s:∃o,H.get? b=some o)(w:∃o,h.get? a=some o):∃o,H.get? a=some o:=by
 by_cases q:a=b
 ·subst q;exact s
 ·rw[k.2 a q];exact w
theorem FI.cq (F:FI W V z Z X s.heap O)(hx:V.names.lookup x=some .local\/V.names.lookup x=some .cell)(a0:CC x=true)
 (I:Bg W Z X s.heap v sl) (j:∀d,sl=.own d->∀y e,O.lookup y=some (.own e)->y=x)
 (a4:∀C tk,FI W V z Z X C ((x,sl)::O)->Kg W (Ck V z) s.heap C->s.toks<=tk->f () #[s,C,tk]):
 wpAny W.M A (storeName z x v) f E s:=by
 have l:∀y w,List.lookup y ((x,sl)::O)=some w->aH V y/\CC y=true:=by
  intro y w e;by_cases q:y=x
  ·subst q;exact⟨hx.elim .inl λ k=>.inr (.inl k),a0⟩
  ·rw[Aj q] at e;exact F.dk y w e
 have n:∀y Q d e,List.lookup y ((x,sl)::O)=some (.own d)->List.lookup Q ((x,sl)::O)=some (.own e)->y=Q:=by
  intro y Q d e J G;by_cases q:y=x
  ·subst q;rw[An] at J;by_cases r:Q=y
   ·exact r.symm
   ·rw[Aj r] at G;exact(j d (by injection J) Q e G).symm
  ·rw[Aj q] at J;by_cases r:Q=x
   ·subst r;rw[An] at G;exact j e (by injection G) y d J
   ·rw[Aj r] at G;exact F.bu y Q d e J G
 obtain⟨m,L,hv⟩:=F.ns;rcases hx with p |p
 ·have g:z.locals∈Z:=F.aw _ Ac;have hX:=F.zx _ g;refine B6 (F.dy x p) L (λ C M h a1=>a4 C _ {F with ns:=?_,cell:=?_,dk:=l,bu:=n,alive:=?_} ⟨λ b o R e=>by rw[h.2 b λ q=>R (.inl q)];exact e,λ R hf k=>k.az (hf _ (.inl rfl)) (λ o vs D hd=>?_) h,a1⟩ (A6 _)) (by rw[F.kind];rfl)
  ·refine⟨_,M,λ y w a b=>?_⟩;by_cases q:y=x
   ·subst q;rw[An] at b;injection b with b;subst b;exact⟨v,(_),I.az h hX g⟩
   ·rw[Aj q] at b;obtain⟨u,e,r⟩:=hv y w a b;exact⟨u,by simpa[q] using e,r.az h hX g⟩
  ·intro y t;obtain⟨c,ov,e,i,k⟩:=F.cell y t;refine⟨c,ov,e,i.sameBut h (Kc i L),λ w b=>?_⟩;have q:y≠x:=by rintro rfl;rcases t with t |t<;>(rw[p] at t;cases t)
   rw[Aj q] at b;obtain⟨u,B,r⟩:=k w b;exact⟨u,B,r.az h hX g⟩
  ·intro a S;refine⟨(F.alive a S).1,EH h ?_ (F.alive a S).2⟩;obtain⟨o,_,_,D,_⟩:=M;exact⟨o,D⟩
  ·exfalso;obtain⟨o',es,ep,H,N,_⟩:=L;rw[D] at H;cases H;rw[hd] at N;cases N
 ·obtain⟨c,ov,e,i,k⟩:=F.cell x (.inl p);have g:c∈Z:=F.aw _ (Bq e);have mx:=F.zx _ g;refine wpAny_storeName_cell F.kind (F.cu x p) e i λ C T h=>a4 C _ {F with ns:=?_,cell:=?_,dk:=l,bu:=n,alive:=?_} ⟨λ b o R B=>by rw[h.2 b λ q=>R (.inr ⟨x,p,q▸e⟩)];exact B,λ R hf k=>k.az (hf _ (.inr ⟨x,p,e⟩)) (λ o vs D hd=>?_) h,λ b o es ep U Y=>⟨o,es,ep,by rw[h.2 b λ q=>by subst q;obtain⟨o',H,N⟩:=i;rw[U] at H;cases H;rw[Y] at N;cases N];exact U,rfl,Y⟩⟩ (Am _)
  ·refine⟨m,L.sameBut h (Ne.symm (Kc i L)),λ y w a b=>?_⟩;have q:y≠x:=by rintro rfl;rw[p] at a;cases a
   rw[Aj q] at b;obtain⟨u,B,r⟩:=hv y w a b;exact⟨u,B,r.az h mx g⟩
  ·intro y t;by_cases q:y=x
   ·subst q;refine⟨c,some v,e,T,λ w b=>?_⟩;rw[An] at b;injection b with b;subst b;exact⟨v,rfl,I.az h mx g⟩
   ·obtain⟨c',a2,B,i',k'⟩:=F.cell y t;refine⟨c',a2,B,i'.sameBut h (λ Q=>q (F.inj y x c (Q▸B) e)),λ w b=>?_⟩;rw[Aj q] at b;obtain⟨u,a3,r⟩:=k' w b;exact⟨u,a3,r.az h mx g⟩
  ·intro a S;refine⟨(F.alive a S).1,EH h ?_ (F.alive a S).2⟩;obtain⟨o,D,_⟩:=T;exact⟨o,D⟩
  ·exfalso;obtain⟨o',H,N⟩:=i;rw[D] at H;cases H;rw[hd] at N;cases N
theorem FI.wr (F:FI W V z Z X h O)(k:Ck V z a):a∈Z:=by
 rcases k with rfl |⟨x,_,e⟩
 ·exact F.aw _ Ac
 ·exact F.aw _ (Bq e)
theorem FI.bo (F:FI W V z Z X h O)(k:Ck V z a):a∈X:=F.zx _ (F.wr k)
theorem A8.ext (O:A8 W c h)(V:c.get? a=Option.none)(Q:∀o A,h.get? a=some o->o.data=.fields A->o.cls≠.none/\o.cls≠.type "code")(E:Heap.ExtBut a h H):A8 W c H:=by
 refine⟨λ b o e=>?_,λ t=>W.bz _ _ (λ b o A e hd s=>?_) (O.2 t)⟩
 ·have w:b≠a:=by rintro rfl;rw[V] at e;cases e
  rcases O.1 b o e with k |⟨n,k,Z,N⟩ |⟨n,A,z,k,N⟩
  ·exact .inl (E b o w k)
  ·exact .inr (.inl ⟨n,k,Z,E b _ w N⟩)
  ·exact .inr (.inr ⟨n,A,z,k,E b _ w N⟩)
 ·have w:b≠a:=by
   rintro rfl;rcases s with s |s
   ·exact(Q _ _ e hd).1 s
   ·exact(Q _ _ e hd).2 s
  exact E b o w e
theorem Rp.ext (k:Heap.ExtBut a h H)(s:a∈X)(r:Rp W X h v d):Rp W X H v d:=
 r.bc λ b o e n _=>⟨k b o (λ q=>n (q▸s)) e,n⟩
theorem RpL.ext (k:Heap.ExtBut a h H)(s:a∈X)(r:RpL W X h c d):RpL W X H c d:=
 r.bc λ b o e n _=>⟨k b o (λ q=>n (q▸s)) e,n⟩
theorem BX.ext (o:Heap.ExtBut b h H)(w:b∈X)(k:a≠b):∀{d:PV},BX W X h a d->BX W X H a d
 | .list _,⟨A,n,e,z,r⟩=>⟨A,n,o _ _ k e,z,r.ext o w⟩
  | .dict _,⟨s,e,y,z,q,r⟩=>⟨s,e.extBut o k,y,z,q,r.ext o w⟩
theorem Bg.ext (k:Heap.ExtBut b h H)(o:b∈X)(w:b∈Z):∀{s:BL},Bg W Z X h v s->Bg W Z X H v s
 | .aa _,r=>Rp.ext k o r
  | .own _,⟨a,e,m,z,r⟩=>⟨a,e,m,z,r.ext k o (by rintro rfl;exact z w)⟩
  | .al _,r=>r
  | .bl _ _,r=>⟨r.1,Rp.ext k o r.2⟩
theorem FI.ext (F:FI W V z Z X h O)(k:Heap.ExtBut a h H)(s:a∈Z)(N:a∉Ay z)(d:∃o,H.get? a=some o):FI W V z Z X H O:=
 {F with
  ns:=by
   obtain⟨m,f,w⟩:=F.ns;exact⟨m,f.extBut k (λ q=>N (q▸Ac)),λ x A a b=>let⟨v,e,r⟩:=w x A a b;⟨v,e,r.ext k (F.zx _ s) s⟩⟩
  cell:=λ x g=>let⟨c,j,e,i,w⟩:=F.cell x g
   ⟨c,j,e,(let⟨o,E,hd⟩:=i;⟨o,k c o (λ q=>N (q▸Bq e)) E,hd⟩),λ A q=>let⟨v,e,r⟩:=w A q;⟨v,e,r.ext k (F.zx _ s) s⟩⟩
  alive:=λ b Q=>⟨(F.alive b Q).1,by
   by_cases q:b=a
   ·subst q;exact d
   ·obtain⟨o,E⟩:=(F.alive b Q).2;exact⟨o,k b o q E⟩⟩}
theorem BX.au (o:h.get? b=Option.none):∀{d:PV},BX W X h a d->BX W (b::X) h a d
 | .list _,⟨s,n,e,z,r⟩=>⟨s,n,e,z,r.au o⟩
  | .dict _,⟨k,e,y,z,q,r⟩=>⟨k,e,y,z,q,r.au o⟩
theorem BX.alive:∀{d:PV},BX W X h a d->∃o,h.get? a=some o
 | .list _,⟨w,n,e,z,r⟩=>⟨_,e⟩
  | .dict _,⟨k,e,y,z,q,r⟩=>let⟨o,_,_,s,_⟩:=e;⟨o,s⟩
theorem Bg.au (k:h.get? b=Option.none):∀{s:BL},Bg W Z X h v s->Bg W (b::Z) (b::X) h v s
 | .aa _,r=>Rp.au k r
  | .own _,⟨a,e,m,z,r⟩=>⟨a,e,Ad _ m,λ q=>by
   rcases Ag.mp q with q |q
   ·subst q;obtain⟨o,w⟩:=r.alive;rw[k] at w;cases w
   ·exact z q,r.au k⟩
  | .al _,r=>r
  | .bl _ _,r=>⟨r.1,Rp.au k r.2⟩
theorem Dx (s:A8 W W.h0 h)(w:h.get? a=Option.none):W.h0.get? a=Option.none:=by
 cases e:W.h0.get? a with
 |none=>rfl
 |some o=>
  obtain⟨z,k⟩:=AP s ⟨o,e⟩;rw[w] at k;cases k
theorem FI.fresh (F:FI W V z Z X h O)(R:A8 W W.h0 h)(k:A8 W h H)(w:h.get? a=Option.none)(N:∃o,H.get? a=some o):FI W V z (a::Z) (a::X) H O:=
 {F with
  aw:=λ b s=>Ad _ (F.aw b s)
  zx:=λ b s=>by
   rcases Ag.mp s with q |q
   ·subst q;exact Ac
   ·exact Ad _ (F.zx b q)
  ns:=by
   obtain⟨m,Q,A⟩:=F.ns;exact⟨m,B2 k Q,λ x E a b=>let⟨v,e,r⟩:=A x E a b;⟨v,e,(r.au w).ac k⟩⟩
  cell:=λ x d=>let⟨c,f,e,i,A⟩:=F.cell x d;⟨c,f,e,E6 k i,λ E q=>let⟨v,e,r⟩:=A E q;⟨v,e,(r.au w).ac k⟩⟩
  alive:=λ b s=>by
   rcases Ag.mp s with q |q
   ·subst q;exact⟨Dx R w,N⟩
   ·exact⟨(F.alive b q).1,AP k (F.alive b q).2⟩}
variable {b:PV}{i:Nat}{xs:List PV}{x:Str} in
mutual
def ER:PV->PyData
 | .none=>.none
 | .bool b=>.bool b
 | .int i=>.int i
 | .str s=>.str s
 | .list xs=>.list (toPyL xs)
 | .ay xs=>.tuple (toPyL xs)
 | .dict _=>.none
 | .obj _=>.none
def toPyL:List PV->List PyData
 |[]=>[]
 |x::xs=>ER x::toPyL xs
end
variable {n:Nat}{xs:List PV}{x:Str} in
mutual
def Pf:Nat->PV->Bool
 |_,.none=>true
 |_,.bool _=>true
 |_,.int _=>true
 |_,.str _=>true
 |0,.list _=>false
 |n+1,.list xs=>lvlL n xs
 |0,.ay _=>false
 |n+1,.ay xs=>lvlL n xs
 |_,.dict _=>false
 |_,.obj _=>false
def lvlL:Nat->List PV->Bool
 |_,[]=>true
 |n,x::xs=>Pf n x&&lvlL n xs
end
variable {a:Addr}{b d:PV}{r:List Stmt}{c i n:Nat}{q:Pos}{ds xs:List PV}{t:Expr}{l:List Env}{x:Str} in
mutual
theorem Rp.reads:∀{d:PV}{n:Nat}{v:Value},Rp W X h v d->Pf n d=true->(∃as,Reads h v (ER d) as)/\(ER d).canLay0=true/\(ER d).depth<=n
 | .none,n,_,.none,_=>by simp only[ER];exact⟨⟨_,.none⟩,by simp[PyData.canLay0],by simp[PyData.depth]⟩
 | .bool _,n,_,.bool b,_=>by simp only[ER];exact⟨⟨_,.bool b⟩,by simp[PyData.canLay0],by simp[PyData.depth]⟩
 | .int _,n,_,.int i t,_=>by simp only[ER];exact⟨⟨_,.int i t⟩,by simp[PyData.canLay0],by simp[PyData.depth]⟩
 | .str _,n,_,.str x t a b,_=>by simp only[ER];exact⟨⟨_,.str x t⟩,by simpa[PyData.canLay0] using a,by simp[PyData.depth]⟩
 | .list xs,0,_,.list e _ z l,q=>by simp[Pf] at q
 | .list xs,n+1,_,.list e _ z l,q=>by
   obtain⟨⟨as,r⟩,c,dp⟩:=RpL.reads l (n:=n) (by simpa[Pf] using q);simp only[ER];exact⟨⟨_,.list e rfl rfl r⟩,by simpa[PyData.canLay0] using c,by simp only[PyData.depth];omega⟩
 | .ay xs,0,_,.ay e _ z l,q=>by simp[Pf] at q
 | .ay xs,n+1,_,.ay e _ z l,q=>by
   obtain⟨⟨as,r⟩,c,dp⟩:=RpL.reads l (n:=n) (by simpa[Pf] using q);simp only[ER];exact⟨⟨_,.tuple e rfl rfl r⟩,by simpa[PyData.canLay0] using c,by simp only[PyData.depth];omega⟩
 | .dict _,n,_,_,q=>by simp[Pf] at q
theorem RpL.reads:∀{ds:List PV}{n:Nat}{vs:List Value},RpL W X h vs ds->lvlL n ds=true->(∃as,ReadsAll h vs (toPyL ds) as)/\PyData.canLayAll0 (toPyL ds)=true/\PyData.depthAll (toPyL ds)<=n
 |[],n,_,.nil,_=>by simp only[toPyL];exact⟨⟨_,.nil⟩,by simp[PyData.canLayAll0],by simp[PyData.depthAll]⟩
 |d::ds,n,_,.cons a b,q=>by
  have q':Pf n d=true/\lvlL n ds=true:=by simpa[lvlL] using q
  obtain⟨⟨as,r⟩,c,dp⟩:=Rp.reads a q'.1;obtain⟨⟨as',r'⟩,c',dp'⟩:=RpL.reads b q'.2;simp only[toPyL];exact⟨⟨_,.cons r r'⟩,by simp[PyData.canLayAll0,c,c'],by simp only[PyData.depthAll];omega⟩
end
def iN (b:Bool):Int:=if b then 1 else 0
variable {n:Nat}{x y:Str} in
def EY (h:Operator)(a b:PV):Option PV:=match h,a,b with
 | .Add,.int x,.int y=>some (.int (x+y))
 | .Add,.str x,.str y=>if x.length+y.length<=Bi then some (.str (x++y)) else none
 | .Add,.list x,.list y=>if x.length+y.length<=Bi then some (.list (x++y)) else none
 | .Sub,.int x,.int y=>some (.int (x-y))
 | .Sub,.bool x,.bool y=>some (.int (iN x-iN y))
 | .Mult,.int x,.int y=>if x.natAbs<4294967296 then some (.int (x*y)) else none
 | .Mult,.str x,.int n=>if 0<=n/\n<=100/\x.length<=100/\PyData.strOk (Txt.mul x n)=true/\(Txt.mul x n).length<=Bi then some (.str (Txt.mul x n)) else none
 | .Mult,.list [x],.int n=>if 0<=n/\n<=1000 then some (.list (List.replicate n.toNat x)) else none
 | .FloorDiv,.int x,.int y=>if y≠0/\y.natAbs<1073741824 then some (.int (x.fdiv y)) else none
 | .Mod,.int x,.int y=>if y≠0 then some (.int (x.fmod y)) else none
 | .Pow,.int x,.int n=>if 0<=n/\n<=64/\x.natAbs<1048576 then some (.int (x^n.toNat)) else none
 | .BitAnd,.int x,.int y=>some (.int (Builtin.bitAnd x y))
 | .BitOr,.int x,.int y=>some (.int (Builtin.bitOr x y))
 |_,_,_=>none
theorem BR.of {b:Type}{t:Sem b}{P:b->Heap->Prop}
 (w:∀(Q:b->Shared->Prop)(E:JD),(∀a h o,A8 W s.heap h->P a h->Q a #[s,h,o])->wpAny W.M A t Q E s):BR W A t s P:=λ Q E z=>
 Bw (n:=s.toks) (Am _) (w _ _ λ a h o k p l=>z a h o k l p)
theorem PP (h:PyData.strOk x=true)(k:PyData.strOk y=true):PyData.strOk (x++y)=true:=by
 unfold PyData.strOk at*;rw[Str.cps_append,Array.all_append,h,k];rfl
theorem BR.newList (h:∀a∈X,∃o,s.heap.get? a=some o)(r:RpL W X s.heap b c)(N:c.length<=Bi):BR W A (PySem.newList b) s (λ v k=>Rp W X k v (.list c)):=.of λ Q E w=>by
 have O:=r.length;have V:=Ei;refine Bj (w _ _ _ (.push _ _) ?_) (by show b.toArray.size<=sizeLine;simp;omega);refine .list (Ar _ rfl) (λ z=>?_) (by simp;omega) (r.ac (.push _ _));obtain⟨o,H⟩:=h _ z;exact D9 _ (AO H)
theorem BR.newTuple (h:∀a∈X,∃o,s.heap.get? a=some o)(r:RpL W X s.heap b c)(N:c.length<=Bi):BR W A (PySem.newTuple b) s (λ v k=>Rp W X k v (.ay c)):=.of λ Q E w=>by
 have O:=r.length;have V:=Ei;refine Bj (w _ _ _ (.push _ _) ?_) (by show b.toArray.size<=sizeLine;simp;omega);refine .ay (Ar _ rfl) (λ z=>?_) (by simp;omega) (r.ac (.push _ _));obtain⟨o,H⟩:=h _ z;exact D9 _ (AO H)
theorem HC (k:∀a∈X,∃o,h.get? a=some o):h.objs.size∉X:=λ s=>by
 obtain⟨o,w⟩:=k _ s;exact D9 _ (AO w)
theorem EC (x:Value):∀n(h:Array Value),List.foldl (λ a b=>a++b) h (List.replicate n #[x])=h++(List.replicate n x).toArray
 |0,h=>(_)
  |n+1,h=>by
   rw[List.replicate_succ,E0,EC x n,List.replicate_succ];apply Array.ext';simp
theorem RpL.replicate (r:Rp W X a v d):∀n,RpL W X a (List.replicate n v) (List.replicate n d)
 |0=>.nil
  |n+1=>.cons r (RpL.replicate r n)
theorem JM (h:x.natAbs<4294967296):Builtin.Int.intBits x<=64:=by
 unfold Builtin.Int.intBits;split
 ·omega
 ·have:Nat.log2 x.natAbs<64:=(Nat.log2_lt (by simp_all)).mpr ∅;omega
theorem Ke (p:∀a∈X,∃o,s.heap.get? a=some o)(w:Rp W X s.heap f a)(z:Rp W X s.heap g b)(e:EY c a b=some d):
 BR W A (binaryOp c f g) s (λ v C=>Rp W X C v d):=.of λ Q E H=>by
 have hb:=Ei;unfold EY at e;split at e
 ·cases w;cases z;cases e
  exact PyProof.Rows.add_int (H _ _ _ (.refl _) (.int _ _))
 ·cases w with |str x t q i=>cases z with |str y u D G=>
  split at e<;>cases e;rename_i h;exact PyProof.Rows.add_str (λ I tk=>H _ _ _ (.refl _) (.str _ _ (PP q D) (by rw[Str.length_append];exact h))) ∅
 ·cases w with |@list l O n J N L i V=>cases z with |@list m r k ys Z n2 G B=>
  split at e<;>cases e;rename_i h;have M:=V.length;have R:=B.length;simp at M R;refine concat_meets (T:="list") ⟨_,N,rfl⟩ ⟨_,Z,rfl⟩ noFill_list_add seq_list_add PySem.F.slot_list_add PySem.F.entry_list_add (PySem.F.args_list_add_2 _ _)
   (PyProof.Rows.list_addW l m O r n k Option.none Option.none #[] #[] ∅) ⟨N,Z,?_⟩
  refine H _ _ _ (.push _ _) (.list (Ar _ rfl) (HC p) (by simp;omega) ?_);have:=(V.append B).ac (A8.push (W:=W) s.heap (Fz (O++r) 0));simpa using this
 ·cases w;cases z;cases e
  exact PyProof.Rows.sub_int (H _ _ _ (.refl _) (.int _ _))
 ·cases w;cases z;cases e
  exact PyProof.Rows.sub_bool (H _ _ _ (.refl _) (.int _ _))
 ·cases w;cases z
  split at e<;>cases e;rename_i h;refine PyProof.Rows.mul_int (H _ _ _ (.refl _) (.int _ _)) ?_;have:=JM h;unfold IntMulOk;simp only[Ah,AK,not_and];intro j;have:shortFactorBits=64:=rfl;omega
 ·rename_i x n;cases z with |int _ u=>cases w with |str _ t q i=>
  split at e<;>cases e;rename_i h;obtain⟨S,j,T,U,Y⟩:=h;refine SB.mul ⟨by simp;omega,λ k1 k2=>?_,λ k1 k2=>?_⟩ λ I k=>H _ _ _ (.refl _) (.str _ _ U Y)
  ·have Z:((2:Int)^63-1)=9223372036854775807:={_}
   rw[Z];have:(x.length:Int)<=9223372036854775807/n:=by
    rw[Int.le_ediv_iff_mul_le ∅];have:(x.length:Int)*n<=100*100:=Int.mul_le_mul ∅ j S ∅;omega
   omega
  ·unfold Builtin.Str.tooLong;have:x.length*n.toNat<=100*100:=Nat.mul_le_mul T ∅;simp[sizeLine];omega
 ·rename_i x k;cases z with |int _ u=>cases w with |@list l O n J N L i V=>
  split at e<;>cases e;rename_i h;obtain⟨v,hv⟩:∃v,O= #[v]:=by
   have hl:=V.length;obtain⟨vl⟩:=O
   match vl,hl with
   |[v],_=>exact⟨v,rfl⟩
  subst hv;refine wpAny_binaryOp_repeat_ref (T:="list") (U:="int") {_} ⟨_,N,rfl⟩ (λ s'=>typeIs_int s' k u) noFill_list_mul F.fills_int_mul QR repeat_list F.slot_int_index.lookup
   (Hl QR (typeIs_int s k u) F.entry_int_rmul (F.args_int_rmul_2 _ _) (int___rmul___int_list k u l #[v] n)
    ⟨N,rfl,⟨_,N,rfl⟩,Hl F.slot_list_mul ⟨_,N,rfl⟩ F.entry_list_mul (F.args_list_mul_2 _ _)
      (AutoListH.list___mul___list_int_3 l #[v] n k u (by simp[Builtin.List.listFitsIndex];omega) (by simp;omega) (by simp[Builtin.List.listTooLong,sizeLine];omega))
      ⟨N,?_⟩⟩)
  have ez:(if(#[v]:Array Value).isEmpty=true then 0 else k.toNat)=k.toNat:=(_)
  have hr:Rp W X s.heap v x:=by
   have:=V;simp at this;cases this;assumption
  rw[ez,EC];refine H _ _ _ (.push _ _) (.list (Ar _ rfl) (HC p) ?_ ?_)
  ·simp[Bi];omega
  ·have:=(RpL.replicate hr k.toNat).ac (A8.push (W:=W) s.heap (Fz (#[]++(List.replicate k.toNat v).toArray) 0));simpa using this
 ·cases w;cases z
  split at e<;>cases e;rename_i h;exact PyProof.Rows.floordiv_int h.1 (H _ _ _ (.refl _) (.int _ _)) (.inl (PyProof.noPylong_small h.2))
 ·cases w;cases z
  split at e<;>cases e;rename_i h;exact PyProof.Rows.mod_int h (H _ _ _ (.refl _) (.int _ _))
 ·cases w;cases z
  split at e<;>cases e;rename_i h;refine PyProof.Rows.pow_int h.1 ?_ (H _ _ _ (.refl _) (.int _ _));rename_i x n _ _;have:=JM (by omega:Int.natAbs x<4294967296);have j:((Builtin.Int.intBits x:Nat):Int)*n<=64*64:=Int.mul_le_mul ∅ h.2.1 h.1 ∅;omega
 ·cases w;cases z;cases e
  exact PyProof.Rows.and_int (H _ _ _ (.refl _) (.int _ _))
 ·cases w;cases z;cases e
  exact PyProof.Rows.or_int (H _ _ _ (.refl _) (.int _ _))
 ·cases e
def J8 (a b:PV):Option Bool:=if Pf 6 a&&Pf 6 b then some (PyData.eqv (ER a) (ER b)) else none
variable {c:List PV}{d:List (Str×PV)} in
def Ua (a b:PV):Option Bool:=match b with
 | .list c=>if Pf 6 a&&lvlL 6 c then some ((toPyL c).any λ y=>PyData.eqv y (ER a)) else none
 | .dict d=>match a with
   | .str k=>some (d.any λ e=>e.1=k)
   |_=>none
 |_=>none
variable {x y:Str} in
def IG (h:CmpOp)(a b:PV):Option Bool:=match h with
 | .Eq=>J8 a b
 | .NotEq=>(J8 a b).map (!·)
 | .Lt=>match a,b with | .int x,.int y=>some (decide (x<y)) |_,_=>none
 | .LtE=>match a,b with | .int x,.int y=>some (decide (x<=y)) |_,_=>none
 | .Gt=>match a,b with | .int x,.int y=>some (decide (y<x)) |_,_=>none
 | .GtE=>match a,b with | .int x,.int y=>some (decide (y<=x)) |_,_=>none
 | .In=>Ua a b
 | .NotIn=>(Ua a b).map (!·)
 | .Is=>match b with | .none=>(match a with | .none=>some true | .obj _=>none |_=>some false) |_=>none
 | .IsNot=>match b with | .none=>(match a with | .none=>some false | .obj _=>none |_=>some true) |_=>none
variable {b:PV}{i:Nat}{a:List PV} in
def IU:PV->Option Bool
 | .bool b=>some b
 | .list a=>some (!a.isEmpty)
 | .int i=>some (i !=0)
 |_=>none
def Lu (h:Int):Bool:=decide (-9223372036854775808<=h)&&decide (h<9223372036854775808)
variable {b:List PV}{d:List (Str×PV)}{x:Str} in
def DS (a h:PV):Option PV:=match a,h with
 | .list b,.int h=>if Lu h then(seqIndex? h b.length).bind (b[·]?) else none
 | .ay b,.int h=>if Lu h then(seqIndex? h b.length).bind (b[·]?) else none
 | .str x,.int h=>if Lu h then((seqIndex? h x.length).bind (x.cps[·]?)).map λ c=>.str ⟨#[c]⟩ else none
 | .dict d,.str h=>(d.find? λ e=>e.1=h).map (·.2)
 |_,_=>none
variable {i:Nat} in
def WM:PV->Option (Option Int)
 | .none=>some none
 | .int i=>some (some i)
 |_=>none
def Iw (h:List PV)(lo k st:Option Int):List PV:=
 (sliceRange (sliceBounds lo k st h.length).1 (sliceBounds lo k st h.length).2.1 (sliceBounds lo k st h.length).2.2).filterMap (h[·]?)
variable {b:List PV}{x:Str} in
def CA (a:PV)(lo h st:Option Int):Option PV:=match a with
 | .list b=>if st≠some 0/\(Iw b lo h st).length<=Bi then some (.list (Iw b lo h st)) else none
 | .str x=>if st=none then some (.str (Txt.slice x lo h)) else none
 |_=>none
def Kh (h:BH)(X:List Addr)(k:Heap)(v:Value)(d:PV):Prop:=Rp h X k v d\/∃a,v=.ref a/\BX h X k a d
theorem Kh.list (r:Kh W X h v (.list b)):∃a vs n,v=.ref a/\h.get? a=some (Fz vs n)/\vs.size<=Bi/\RpL W X h vs.toList b:=by
 rcases r with r |⟨a,rfl,vs,n,e,z,l⟩
 ·cases r with |@list a vs n _ e _ z l=>exact⟨a,vs,n,rfl,e,z,l⟩
 ·exact⟨a,vs,n,rfl,e,z,l⟩
theorem Kh.dict (r:Kh W X h v (.dict b)):
 ∃a k,v=.ref a/\h.DictOf W.K a k/\(a==sysModules)=false/\k.length<=Bi/\k.map (·.1)=b.map (·.1)/\RpL W X h (k.map (·.2)) (b.map (·.2)):=by
 rcases r with r |⟨a,rfl,k,e,y,z,q,l⟩
 ·cases r with |@dict a k _ e _ y z q l=>exact⟨a,k,rfl,e,y,z,q,l⟩
 ·exact⟨a,k,rfl,e,y,z,q,l⟩
theorem VP (V:A.units<9000)(k:Rp W X s.heap c a)(o:Rp W X s.heap d b)(e:J8 a b=some r)(w:Q (.bool r) s):
 wpAny W.M A (compareOp .Eq c d) Q E s:=by
 unfold J8 at e;split at e<;>cases e;rename_i h;rw[Ah] at h;obtain⟨⟨Z,z⟩,H,f⟩:=k.reads h.1;obtain⟨⟨g,N⟩,O,i⟩:=o.reads h.2;exact SeqAt.compareEq_reads z N H O (by have:cLine=9900:=rfl;omega) w
theorem Va (V:A.units<9000)(k:Rp W X s.heap c a)(o:Rp W X s.heap d b)(e:J8 a b=some r)(w:Q (.bool (!r)) s):
 wpAny W.M A (compareOp .NotEq c d) Q E s:=by
 unfold J8 at e;split at e<;>cases e;rename_i h;rw[Ah] at h;obtain⟨⟨Z,z⟩,H,f⟩:=k.reads h.1;obtain⟨⟨g,N⟩,O,i⟩:=o.reads h.2;exact SeqAt.compareNe_reads z N H O (by have:cLine=9900:=rfl;omega) w
theorem HE {b:List (Str×PV)}{a:List (Str×Value)}(k:Str):a.map (·.1)=b.map (·.1)->RpL W X h (a.map (·.2)) (b.map (·.2))->
 ((a.find? λ o=>o.1=k).isSome=(b.any λ e=>e.1=k))/\∀d,(b.find? λ e=>e.1=k).map (·.2)=some d->∃v,(a.find? λ o=>o.1=k).map (·.2)=some v/\Rp W X h v d:=by
 induction a generalizing b with
 |nil=>
  intro e r;cases b with
  |nil=>exact⟨rfl,λ d q=>by simp at q⟩
  |cons _ _=>simp at e
 |cons o a w=>
  intro e r;cases b with
  |nil=>simp at e
  |cons x b=>
   simp only[AL,List.cons.injEq] at e;simp only[AL] at r;cases r with
   |cons A E=>
    obtain⟨H,N⟩:=w e.2 E;by_cases q:x.1=k
    ·have s:o.1=k:=e.1.trans q;refine⟨by simp[q,s],λ d z=>⟨o.2,by simp[s],?_⟩⟩;simp[q] at z;exact z▸A
    ·have s:¬o.1=k:=λ z=>q (e.1.symm.trans z);refine⟨by simpa[Du,q,s] using H,λ d z=>?_⟩;have O:(b.find? λ e=>e.1=k).map (·.2)=some d:=by simpa[Du,q] using z
     obtain⟨v,Q,r⟩:=N d O;exact⟨v,by simpa[Du,s] using Q,r⟩
theorem Vv (p:A.units<9000)(N:Rp W X s.heap c a)(O:Kh W X s.heap d b)(e:Ua a b=some r)(V:∀Z,Q (.bool r) {s with toks:=Z}):
 wpAny W.M A (compareOp .In c d) Q E s:=by
 unfold Ua at e;split at e
 ·split at e<;>cases e;rename_i w;rw[Ah] at w;obtain⟨l,u,n,rfl,H,v,h⟩:=O.list;obtain⟨⟨x,h⟩,f,B⟩:=h.reads w.2;obtain⟨⟨C,g⟩,i,D⟩:=N.reads w.1;exact SeqAt.in_list_reads (.list H rfl rfl h) g f i (by have:cLine=9900:=rfl;omega) (V _)
 ·split at e<;>cases e;rename_i k;cases N with |str _ t _ _=>
  obtain⟨l,o,rfl,H,y,z,q,h⟩:=O.dict;refine wpAny_in_of (knd:=W.K) (k:=k) (by simp[BH.K,_root_.PySem.strKind,Value.isStrOf]) y H.mapOf ?_;have:=(HE (W:=W) (X:=X) (h:=s.heap) k q h).1;have j:(valueAt o k).isSome=(o.find? λ m=>m.1=k).isSome:=by simp[valueAt]
  rw[j,this];exact V _
 ·cases e
theorem P7 (p:A.units<9000)(N:Rp W X s.heap c a)(O:Kh W X s.heap d b)(e:Ua a b=some r)(V:∀Z,Q (.bool (!r)) {s with toks:=Z}):
 wpAny W.M A (compareOp .NotIn c d) Q E s:=by
 unfold Ua at e;split at e
 ·split at e<;>cases e;rename_i w;rw[Ah] at w;obtain⟨l,u,n,rfl,H,v,h⟩:=O.list;obtain⟨⟨x,h⟩,f,B⟩:=h.reads w.2;obtain⟨⟨C,g⟩,i,D⟩:=N.reads w.1;exact SeqAt.notIn_list_reads (.list H rfl rfl h) g f i (by have:cLine=9900:=rfl;omega) (V _)
 ·split at e<;>cases e;rename_i k;cases N with |str _ t _ _=>
  obtain⟨l,o,rfl,H,y,z,q,h⟩:=O.dict;refine wpAny_notIn_of (knd:=W.K) (k:=k) (by simp[BH.K,_root_.PySem.strKind,Value.isStrOf]) y H.mapOf ?_;have:=(HE (W:=W) (X:=X) (h:=s.heap) k q h).1;have j:(valueAt o k).isSome=(o.find? λ m=>m.1=k).isSome:=by simp[valueAt]
  rw[j,this];exact V _
 ·cases e
theorem Ii (N:A.units<9000)(w:Rp W X s.heap f a)(o:Rp W X s.heap d b\/((c=.In\/c=.NotIn)/\Kh W X s.heap d b))(e:IG c a b=some r)
 (O:∀V,Q (.bool r) {s with toks:=V}):wpAny W.M A (compareOp c f d) Q E s:=by
 have z:Q (.bool r) s:=O s.toks;have h:c≠.In->c≠.NotIn->Rp W X s.heap d b:=λ Z g=>by
  rcases o with r |⟨k |k,_⟩
  ·exact r
  ·exact absurd k Z
  ·exact absurd k g
 have H:Kh W X s.heap d b:=o.elim .inl And.right;unfold IG at e;split at e
 ·exact VP N w (h (_) (_)) e z
 ·cases q:J8 a b with
  |none=>rw[q] at e;cases e
  |some i=>rw[q] at e;cases e;exact Va N w (h (_) (_)) q z
 ·have o:=h (_) (_);split at e<;>cases e;cases w;cases o;exact PyProof.Rows.lt_int z
 ·have o:=h (_) (_);split at e<;>cases e;cases w;cases o;exact PyProof.Rows.le_int z
 ·have o:=h (_) (_);split at e<;>cases e;cases w;cases o;exact PyProof.Rows.gt_int z
 ·have o:=h (_) (_);split at e<;>cases e;cases w;cases o;exact PyProof.Rows.ge_int z
 ·exact Vv N w H e O
 ·cases q:Ua a b with
  |none=>rw[q] at e;cases e
  |some i=>rw[q] at e;cases e;exact P7 N w H q O
 ·have o:=h (_) (_);split at e
  ·cases o
   cases w with
   |none=>cases e;exact wpAny_is_self rfl z
   |obj=>cases e
   |_=>cases e;exact wpAny_is_other rfl (_) z
  ·cases e
 ·have o:=h (_) (_);split at e
  ·cases o
   cases w with
   |none=>cases e;exact wpAny_isNot_self rfl z
   |obj=>cases e
   |_=>cases e;exact wpAny_isNot_other rfl (_) z
  ·cases e
theorem PM (h:Rp W X s.heap c a)(e:IU a=some r)(k:∀z,b r {s with toks:=z}):wpAny W.M A (truthy c) b E s:=by
 unfold IU at e;split at e<;>cases e
 ·cases h;exact CV (k s.toks)
 ·rename_i o;cases h with |@list a w n _ H Q V N=>
  have Z:=N.length;have d:Bi=1048576:=rfl;refine wpAny_truthy_list ⟨_,H,rfl,_,rfl⟩ ∅ ?_;have:w.isEmpty=o.isEmpty:=by
   obtain⟨O⟩:=w;cases O<;>cases o<;>simp_all
  rw[this];exact k _
 ·cases h;exact PyProof.Rows.truthy_int (k s.toks)
theorem Qy (h:Lu a=true):-9223372036854775808<=a/\a<9223372036854775808:=by
 unfold Lu at h;simpa using h
theorem OB (h:seqIndex? a n=some j):(0<=a/\a.toNat=j/\j<n)\/(a<0/\-(n:Int)<=a/\(a+n).toNat=j/\j<n):=by
 unfold seqIndex? at h;by_cases z:a<0
 ·simp only[z,A0] at h;split at h
  ·rename_i q;simp only[Ah,AK] at q;injection h with h;right;omega
  ·cases h
 ·simp only[z,AS] at h;split at h
  ·rename_i q;simp only[Ah,AK] at q;injection h with h;left;omega
  ·cases h
theorem SG (o:Kh W X s.heap g a)(B:Rp W X s.heap f b)(e:DS a b=some d)(O h:Expr)(C:∀l u p,h≠.Slice l u none p):
 BR W A (PyProof.Rows.subscriptTail O h g f) s (λ v T=>Rp W X T v d):=.of λ Q E i=>by
 have k:subscripted h false g f=operate [g,f] (getItem g f):=by
  unfold subscripted;split
  ·exact absurd rfl (C _ _ _)
  ·contradiction
  ·rfl
 unfold DS at e;split at e
 ·split at e
  ·rename_i U b H;cases B with |int _ u=>
   obtain⟨l,Y,n,rfl,w,J,V⟩:=o.list;obtain⟨j,m,D⟩:=Ae.mp e;obtain⟨v,N,Z⟩:=V.get D;have H:=Qy H;have r:=V.length;simp at r N;refine CX (T:="list") ⟨_,w,rfl⟩ slot_list_getitem.lookup ?_ k;rcases OB m with⟨G,L,M⟩ |⟨G,L,M,h3⟩
   ·exact wpAny_getItem_list ⟨_,w,rfl,_,rfl⟩ G ∅ (x:=v) (by rw[L];simpa using N) (i _ _ _ (.refl _) Z)
   ·exact wpAny_getItem_list_neg ⟨_,w,rfl,_,rfl⟩ G ∅ ∅ (x:=v) (by rw[r,M];simpa using N) (i _ _ _ (.refl _) Z)
  ·cases e
 ·split at e
  ·rename_i U b H;cases B with |int _ u=>
   rcases o with o |⟨a,rfl,o⟩
   ·cases o with |@ay l Y n _ w n1 J V=>
    obtain⟨j,m,D⟩:=Ae.mp e;obtain⟨v,N,Z⟩:=V.get D;have H:=Qy H;have r:=V.length;simp at r N;refine CX (T:="tuple") ⟨_,w,rfl⟩ F.slot_tuple_getitem.lookup ?_ k;exact PyProof.Rows.getItem_tuple ⟨_,w,rfl,_,rfl⟩ ∅ ∅ (by rw[r];exact m) (by simpa using N) (i _ _ _ (.refl _) Z)
   ·exact o.elim
  ·cases e
 ·split at e
  ·rename_i x b H;cases B with |int _ u=>
   rcases o with o |⟨a,rfl,o⟩
   ·cases o with |str _ t R J=>
    obtain⟨c,S,rfl⟩:=As.mp e;have H:=Qy H;refine CX (T:="str") (IT _ _ _) F.slot_str_getitem.lookup ?_ k;refine PyProof.Rows.getItem_str (by simp;omega) S (i _ _ _ (.refl _) (.str _ _ ?_ (by show 1<=Bi;decide)));obtain⟨j,_,m⟩:=Ae.mp S;unfold PyData.strOk at R ⊢;obtain⟨I,rfl⟩:=Ch.mp m;have:=Array.all_eq_true.mp R j I;simpa using this
   ·exact o.elim
  ·cases e
 ·rename_i es b;cases B with |str _ t _ _=>
  obtain⟨l,a0,rfl,w,y,z,q,V⟩:=o.dict;obtain⟨v,N,Z⟩:=(HE (W:=W) (X:=X) (h:=s.heap) b q V).2 d e;refine CX (T:="dict") (w.typeIs (s:=s)) slot_dict_getitem.lookup ?_ k;exact wpAny_getItem_of (knd:=W.K) (k:=b) (by simp[BH.K,_root_.PySem.strKind,Value.isStrOf]) w.mapOf (v:=v) (by simpa[valueAt] using N) (i _ _ _ (.refl _) Z)
 ·cases e
theorem Q5 (k:PyData.strOk x=true)(l u:Option Int):PyData.strOk (Txt.slice x l u)=true:=by
 unfold Txt.slice;split
 ·exact k
 ·unfold PyData.strOk at*;simp only[List.all_toArray,AJ,List.mem_filterMap];rintro c ⟨i,_,o⟩;obtain⟨h,rfl⟩:=Ch.mp o;exact Array.all_eq_true.mp k i h
theorem RpL.eg (r:RpL W X c a b):∀h:List Nat,RpL W X c (h.filterMap (a[·]?)) (h.filterMap (b[·]?))
 |[]=>.nil
  |j::h=>by
   rw[IO,IO];cases k:b[j]? with
   |none=>
    have:a[j]? =Option.none:=by
     rw[List.getElem?_eq_none_iff] at k ⊢;rw[r.length];exact k
    rw[this];exact RpL.eg r h
   |some d=>
    obtain⟨v,o,s⟩:=r.get k;rw[o];exact .cons s (RpL.eg r h)
theorem PQ {lo st:Option Int}(O:Kh W X s.heap f a)(T:∀a∈X,∃o,s.heap.get? a=some o)(V:s.heap.IsSliceOf c m p q)(B:IsPart m lo)(r:IsPart p b)(C:IsPart q st)
 (e:CA a lo b st=some d) (N h:Expr) (H:subscripted h false f (.ref c)=operate g (getItem f (.ref c))):
 BR W A (PyProof.Rows.subscriptTail N h f (.ref c)) s (λ v U=>Rp W X U v d):=.of λ Q E D=>by
 unfold CA at e;split at e
 ·split at e<;>cases e;rename_i Z u;obtain⟨l,Y,n,rfl,G,I,J⟩:=O.list;have hb:=Ei;refine CX (T:="list") ⟨_,G,rfl⟩ slot_list_getitem.lookup ?_ H;refine wpAny_getItem_list_slice ⟨_,G,rfl,_,rfl⟩ V B r C u.1 (D _ _ _ (.push _ _) ?_) ∅;have L:=J.length;simp at L;have M:RpL W X s.heap (slicePick Y lo b st).toList (Iw Z lo b st):=by
   unfold slicePick Iw;rw[L];have:=J.eg (sliceRange (sliceBounds lo b st Z.length).1 (sliceBounds lo b st Z.length).2.1 (sliceBounds lo b st Z.length).2.2);simpa using this
  refine .list (Ar _ rfl) (HC T) ?_ (M.ac (.push _ _));have:=M.length;simp at this;omega
 ·split at e<;>cases e;rename_i x u;subst u;cases C;rcases O with O |⟨a,rfl,O⟩
  ·cases O with |str _ t o1 I=>
   have hb:=Ei;refine CX (T:="str") (IT _ _ _) F.slot_str_getitem.lookup ?_ H;have w:∀R k,Q (.str (Txt.slice x lo b) R) {s with toks:=k}:=λ R k=>D _ _ _ (.refl _) (.str _ _ (Q5 o1 _ _) (Ab (Txt.slice_le x _ _) I));have z:(Txt.slice x lo b).length<=sizeLine:=Ab (Txt.slice_le x _ _) ∅;cases B with
   |none=>cases r with
    |none=>exact Ho (l:=none) (u:=none) (st:=none) V rfl (QN ⟨z,w⟩)
    |int j y=>exact Ho (l:=none) (u:=some (j,y)) (st:=none) V rfl (QN ⟨z,w⟩)
   |int i S=>cases r with
    |none=>exact Ho (l:=some (i,S)) (u:=none) (st:=none) V rfl (QN ⟨z,w⟩)
    |int j y=>exact Ho (l:=some (i,S)) (u:=some (j,y)) (st:=none) V rfl (QN ⟨z,w⟩)
  ·exact O.elim
 ·cases e
def Db (h:Obj):Prop:=h.cls=.type "list"\/h.cls=.type "tuple"\/h.cls=.type "dict"
variable {a:Addr}{c:Nat} in
inductive IK (W:BH)(X:List Addr)(h:Heap)(I:Addr)(xs:List PV):Prop
 |list {ax vs0 n0}:h.IsListIter I ax 0->h.get? ax=some (Fz vs0 n0)->ax∉X->vs0.size<=Bi->RpL W X h vs0.toList xs->IK W X h I xs
 |ay {ax vs0 n0}:h.IsTupleIter I ax 0->h.get? ax=some (JI vs0 n0)->ax∉X->vs0.size<=Bi->RpL W X h vs0.toList xs->IK W X h I xs
 |range {a c:Int} {cn:Nat}:IsRangeIter h I a cn c->cn<=Bi->xs=(List.range cn).map (λ(i:Nat)=>.int (a+(i:Int)*c))->IK W X h I xs
variable {i:Nat}{x:Str} in
structure LJ (W:BH)(A:Around)(X:List Addr)(I:Addr)(xs:List PV)(St:Nat->Heap->Prop):Prop where
 small:xs.length<=Bi
 frame:∀i h h',St i h->(∀o,h.get? I=some o->h'.get? I=some o)->(∀b o,b∉X->h.get? b=some o->Db o->h'.get? b=some o)->St i h'
 bq:∀i h,St i h->∃o,h.get? I=some o/\o.cls≠.none/\o.cls≠.type "code"/\o.cls≠.type "frame"/\¬Db o
 item:∀i(s:Shared)(Q:Option Value->Shared->Prop)(E:JD) x,St i s.heap->xs[i]? =some x->
  (∀v h' tk,Rp W X h' v x->St (i+1) h'->Heap.ExtBut I s.heap h'->Q (some v) #[s,h',tk])->wpAny W.M A (pyNext (.ref I)) Q E s
 done:∀(s:Shared)(Q:Option Value->Shared->Prop)(E:JD),St xs.length s.heap->
  (∀h' tk,Heap.ExtBut I s.heap h'->Q none #[s,h',tk])->wpAny W.M A (pyNext (.ref I)) Q E s
 self:∀i(s:Shared)(Q:JD)(E:JD),St i s.heap->Q (.ref I) s->wpAny W.M A (pyIter (.ref I)) Q E s
 cr:∀i(s:Shared)(Q:Unit->Shared->Prop)(E:JD) target v,St i s.heap->Q () s->wpAny W.M A (letOwnedTupleGo target (.ref I) v) Q E s
section
theorem I6 (w:s.heap.get? I=some o)(z:o.cls=.type n)(hd:o.data=.fields d)
 (k:["enumerate","zip","dict_itemiterator","dict_reverseitemiterator","odict_iterator","itertools.zip_longest","itertools.pairwise"].contains n=false) (h:c () s):
 wpAny W.M A (letOwnedTupleGo b (.ref I) v) c E s:=by
 have H:(["enumerate","zip","dict_itemiterator","dict_reverseitemiterator","odict_iterator","itertools.zip_longest","itertools.pairwise"].contains n&&d[0]? ==some (rawInt (match v with | .ref a=>a |_=>0)))=false:=by rw[k];rfl
 unfold letOwnedTupleGo;cases b<;>(first |exact Af h |skip)
 all_goals
  cases v<;>(first |exact Af h |skip)
  rename_i a;refine Aa (Hd w ?_);rw[z,hd];simp only[k,JG,Aq,AS];exact Af h
theorem LJ.of (it:IK W X h I d)(C:I∈X)(T:A.handled=none):∃St,St 0 h/\LJ W A X I d St:=by
 cases it with
 |@list p N n J S y h4 L=>
  have O:p≠I:=λ q=>y (q▸C);have l:=L.length;simp at l;refine⟨λ i h=>h.IsListIter I p i/\h.get? p=some (Fz N n)/\RpL W X h N.toList d,⟨J,S,L⟩,?_⟩;have V:=Walks.list (prog:=W.prog) (w:=W.w) (A:=A) T I p O N;exact{
   small:=∅
   frame:=λ i h z st M D=>⟨let⟨o,a,b⟩:=st.1;⟨o,M o a,b⟩,D _ _ y st.2.1 (.inl rfl),st.2.2.bc λ b o e R c=>⟨D b o R e c,R⟩⟩
   bq:=λ i h st=>let⟨o,a,b,c⟩:=st.1;⟨o,a,by rw[b];simp,by rw[b];simp,by rw[b];simp,by unfold Db;rw[b];simp⟩
   item:=λ i s Q E x st m k=>by
    have G:i<N.size:=by rw[l];exact(CU.mp m).1
    refine V.item i s Q E G ⟨st.1,⟨_,st.2.1,rfl,_,rfl⟩⟩ λ v z Z B f g=>?_;have w:Heap.ExtBut I s.heap z:=λ b o j e=>g b o (by simpa using j) e;obtain⟨u,U,r⟩:=st.2.2.get m;have:u=v:=by
     have Y:N[i]? =some u:=by simpa using U
     rw[Y] at B;cases B;rfl
    subst this;exact k _ z Z (r.ext w C) ⟨f.1,w _ _ O st.2.1,st.2.2.ext w C⟩ w
   done:=λ s Q E st k=>by
    rw[<-l] at st;exact V.done s Q E ⟨st.1,⟨_,st.2.1,rfl,_,rfl⟩⟩ λ z Z g=>k z Z λ b o j e=>g b o (by simpa using j) e
   self:=λ i s Q E st k=>V.self i s Q E ⟨st.1,⟨_,st.2.1,rfl,_,rfl⟩⟩ k
   cr:=λ i s Q E H v st k=>let⟨o,a,b,c⟩:=st.1;I6 a b c {_} k}
 |@ay p N n J S y h4 L=>
  have O:p≠I:=λ q=>y (q▸C);have l:=L.length;simp at l;refine⟨λ i h=>h.IsTupleIter I p i/\h.get? p=some (JI N n)/\RpL W X h N.toList d,⟨J,S,L⟩,?_⟩;have V:=Walks.tuple (prog:=W.prog) (w:=W.w) (A:=A) T I p O N;exact{
   small:=∅
   frame:=λ i h z st M D=>⟨let⟨o,a,b⟩:=st.1;⟨o,M o a,b⟩,D _ _ y st.2.1 (.inr (.inl rfl)),st.2.2.bc λ b o e R c=>⟨D b o R e c,R⟩⟩
   bq:=λ i h st=>let⟨o,a,b,c⟩:=st.1;⟨o,a,by rw[b];simp,by rw[b];simp,by rw[b];simp,by unfold Db;rw[b];simp⟩
   item:=λ i s Q E x st m k=>by
    have G:i<N.size:=by rw[l];exact(CU.mp m).1
    refine V.item i s Q E G ⟨st.1,⟨_,st.2.1,rfl,_,rfl⟩⟩ λ v z Z B f g=>?_;have w:Heap.ExtBut I s.heap z:=λ b o j e=>g b o (by simpa using j) e;obtain⟨u,U,r⟩:=st.2.2.get m;have:u=v:=by
     have Y:N[i]? =some u:=by simpa using U
     rw[Y] at B;cases B;rfl
    subst this;exact k _ z Z (r.ext w C) ⟨f.1,w _ _ O st.2.1,st.2.2.ext w C⟩ w
   done:=λ s Q E st k=>by
    rw[<-l] at st;exact V.done s Q E ⟨st.1,⟨_,st.2.1,rfl,_,rfl⟩⟩ λ z Z g=>k z Z λ b o j e=>g b o (by simpa using j) e
   self:=λ i s Q E st k=>V.self i s Q E ⟨st.1,⟨_,st.2.1,rfl,_,rfl⟩⟩ k
   cr:=λ i s Q E H v st k=>let⟨o,a,b,c⟩:=st.1;I6 a b c {_} k}
 |@range a c n J S y=>
  have l:d.length=n:=by rw[y];simp
  refine⟨λ i h=>IsRangeIter h I (a+(i:Int)*c) ((n:Int)-i) c,by simpa using J,?_⟩;have V:=Walks.range (prog:=W.prog) (w:=W.w) (A:=A) T I a c n;exact{
   small:=∅
   frame:=λ i h z st M D=>M _ st
   bq:=λ i h st=>⟨_,st,(_),(_),(_),by unfold Db;simp⟩
   item:=λ i s Q E x st m k=>by
    have G:i<n:=by rw[<-l];exact(CU.mp m).1
    refine V.item i s Q E G st λ v z Z B f g=>?_;have w:Heap.ExtBut I s.heap z:=λ b o j e=>g b o (by simpa using j) e;obtain⟨t,rfl⟩:=B;have e2:x=.int (a+(i:Int)*c):=by
     rw[y] at m;simp[G] at m;exact m.symm
    subst e2;exact k _ z Z (.int _ _) f w
   done:=λ s Q E st k=>by
    rw[l] at st;exact V.done s Q E st λ z Z g=>k z Z λ b o j e=>g b o (by simpa using j) e
   self:=λ i s Q E st k=>V.self i s Q E st k
   cr:=λ i s Q E H v st k=>I6 st rfl rfl {_} k}
theorem IK.ac (k:A8 W h H)(N:IK W X h I d):IK W X H I d:=by
 cases N with
 |@list O Q n s w z A E=>exact .list (let⟨o,a,b,c⟩:=s;⟨o,k.keep a (by rw[b];simp) (by rw[b];simp),b,c⟩) (k.keep w (_) (_)) z A (E.ac k)
 |@ay O Q n s w z A E=>exact .ay (let⟨o,a,b,c⟩:=s;⟨o,k.keep a (by rw[b];simp) (by rw[b];simp),b,c⟩) (k.keep w (_) (_)) z A (E.ac k)
 |@range a c n s w z=>exact .range (k.keep s (_) (_)) w z
theorem IK.au (A:h.get? a=none)(O:IK W X h I b):IK W (a::X) h I b:=by
 have N:∀{s:Addr}{o:Obj},h.get? s=some o->s∉X->s∉a::X:=λ e n q=>by
  rcases Ag.mp q with q |q
  ·subst q;rw[A] at e;cases e
  ·exact n q
 cases O with
 |@list s Q n w k z E H=>exact .list w k (N k z) E (H.au A)
 |@ay s Q n w k z E H=>exact .ay w k (N k z) E (H.au A)
 |@range a c n w k z=>exact .range w k z
variable {a0:Value} in
inductive V4 (W:BH)(X:List Addr)(h:Heap):Value->List PV->Prop
 |list {v0 xs0}:Rp W X h v0 (.list xs0)->V4 W X h v0 xs0
 |ay {v0 xs0}:Rp W X h v0 (.ay xs0)->V4 W X h v0 xs0
 |range {r0 a0 b0 t0 u v0}:IsRange h r0 a0 b0 1 t0 u v0->a0<=b0->b0-a0<=100000->-1000000<=a0->b0<=1000000->V4 W X h (.ref r0) ((List.range (b0-a0).toNat).map (λ(i:Nat)=>.int (a0+(i:Int)*1)))
theorem Eo (d:V4 W X s.heap v c)
 (z:∀I w,s.heap.get? I=none->(∃o,w.get? I=some o)->(∀b o,s.heap.get? b=some o->w.get? b=some o)->(I∉X->IK W (I::X) w I c)->Q (.ref I) #[s,w]):wpAny W.M A (pyIter v) Q E s:=by
 have k:s.heap.get? s.heap.objs.size=none:=by
  cases e:s.heap.get? s.heap.objs.size with
  |none=>rfl
  |some o=>exact absurd (AO e) (D9 _)
 cases d with
 |list r=>
  cases r with
  |@list a f n _ h H N O=>
   refine wpAny_pyIter_list ⟨_,h,rfl,_,rfl⟩ (z _ _ k ⟨_,Ar _ rfl⟩ (λ b o e=>Ai _ e) λ V=>?_);refine .list ⟨_,Ar _ rfl,rfl,rfl⟩ (Ai _ h) (λ q=>?_) N ((O.au k).ac (.push _ _));rcases Ag.mp q with q |q
   ·subst q;rw[k] at h;cases h
   ·exact H q
 |ay r=>
  cases r with
  |@ay a f n _ h H N O=>
   refine K5 ⟨_,h,rfl,_,rfl⟩ (z _ _ k ⟨_,Ar _ rfl⟩ (λ b o e=>Ai _ e) λ V=>?_);refine .ay ⟨_,Ar _ rfl,rfl,rfl⟩ (Ai _ h) (λ q=>?_) N ((O.au k).ac (.push _ _));rcases Ag.mp q with q |q
   ·subst q;rw[k] at h;cases h
   ·exact H q
 |@range r a b t u v g i j l m=>
  have Z:Builtin.Range.rangeSize a b 1=((b-a).toNat:Int):=by
   unfold Builtin.Range.rangeSize;simp only[show(1:Int)>0 by decide,A0,Int.ediv_one];split<;>omega
  refine wpAny_pyIter_range g (by
   unfold Builtin.Range.small;rw[Z];simp only[Builtin.Range.rangeFitsLong,Ah,BN,AK,show(1:Int)>0 by decide,A0];omega) (z _ _ k ⟨_,Ar _ rfl⟩ (λ b o e=>Ai _ e) λ V=>?_)
  refine .range (cn:=(b-a).toNat) ?_ (by show _<=1048576;omega) rfl;rw[Z];exact Ar _ rfl
end
def AR (h:Scope)(x:Str):Bool:=CC x&&(h.names.lookup x==some .local||h.names.lookup x==some .cell)
variable {x:Str} in
def Rq:Expr->Option Str
 | .Name x _=>some x
 |_=>none
variable {d:PV}{b:List PV}{a:List (Str×PV)}{x:Str} in
def Cw (h:Scope):List Expr->List PV->AC->Option AC
 |[],[],O=>some O
 |e::a,d::b,O=>match Rq e with
  |some x=>if AR h x then Cw h a b ((x,.aa d)::O) else none
  |none=>none
 |_,_,_=>none
theorem Gq (h:Rq e=some x):∃p,e=.Name x p:=by
 cases e<;>simp[Rq] at h
 subst h;exact⟨_,rfl⟩
variable {b:List PV}{a:List (Str×PV)}{x:Str} in
def Dc (h:Scope)(t:Expr)(d:PV)(k:AC):Option AC:=match t,d with
 | .Name x _,d=>if AR h x then some ((x,.aa d)::k) else none
 | .Tuple a _ _,.ay b=>Cw h a b k
 |_,_=>none
theorem DJ (h:AR V x=true):CC x=true/\(V.names.lookup x=some .local\/V.names.lookup x=some .cell):=by
 unfold AR at h;rw[Ah,BN] at h;exact⟨h.1,h.2.imp (λ q=>by simpa using q) λ q=>by simpa using q⟩
theorem Mq (F:FI W V z Z X s.heap O)(o:AR V x=true)(r:Rp W X s.heap v d)
 (w:∀h k,FI W V z Z X h ((x,.aa d)::O)->Kg W (Ck V z) s.heap h->a () #[s,h,k]):wpAny W.M A (assign (.Name x b) z v) a E s:=
 DD (F.cq (sl:=.aa d) (DJ o).2 (DJ o).1 r (λ _ q=>nomatch q) λ h k f c _=>w h k f c)
theorem My:∀(w:List Expr)(k:List PV)(o:List Value)(H:AC)(s:Shared)(Q:Unit->Shared->Prop),FI W V z Z X s.heap H->Cw V w k H=some b->RpL W X s.heap o k->
 (∀N j,FI W V z Z X N b->Kg W (Ck V z) s.heap N->Q () #[s,N,j])->wpAny W.M A (assignInOrder (List.map (λ x=>x.2) (assignEach w z)) o) Q E s:=by
 intro w;induction w with
 |nil=>
  intro k o H s Q F e r h;cases k with
  |nil=>
   cases r;cases e
   exact wpAny_assignInOrder_none (h s.heap s.toks F .refl)
  |cons _ _=>simp[Cw] at e
 |cons y w l=>
  intro k o H s Q F e r h;cases k with
  |nil=>simp[Cw] at e
  |cons d k=>
   cases r with
   |@cons v o _ _ r m=>
    simp only[Cw] at e;split at e
    ·rename_i x n;obtain⟨p,rfl⟩:=Gq n;split at e
     ·rename_i O;refine wpAny_assignInOrder_more (Mq F O r λ N j f c=>?_);exact l k o _ _ Q f e (m.bf (λ a q=>F.bo q) c) λ g i t u=>h g i t (c.trans u)
     ·cases e
    ·cases e
theorem Mz:∀(h:List Expr)(k:List PV)(o:AC),Cw V h k o=some a->(assignEach h z).length=k.length/\List.findIdx? (λ x=>x.1) (assignEach h z)=none:=by
 intro h;induction h with
 |nil=>
  intro k o e;cases k with
  |nil=>exact⟨rfl,rfl⟩
  |cons _ _=>simp[Cw] at e
 |cons N h s=>
  intro k o e;cases k with
  |nil=>simp[Cw] at e
  |cons d k=>
   simp only[Cw] at e;split at e
   ·rename_i x w;obtain⟨A,rfl⟩:=Gq w;split at e
    ·obtain⟨E,H⟩:=s k _ e;exact⟨by show(assignEach h z).length+1=_;rw[E];rfl,by show List.findIdx? _ ((false,_)::assignEach h z)=none;rw[List.findIdx?_cons,H];rfl⟩
    ·cases e
   ·cases e
theorem KY (F:FI W V z Z X s.heap O)(u:A.handled=none)(e:Dc V t d O=some g)(r:Rp W X s.heap v d)
 (Q:∀h w,FI W V z Z X h g->Kg W (Ck V z) s.heap h->i () #[s,h,w]):wpAny W.M A (assign t z v) i E s:=by
 unfold Dc at e;split at e
 ·split at e
  ·rename_i H;cases e;exact Mq F H r Q
  ·cases e
 ·rename_i j _ _ l;obtain⟨x,y⟩:=Mz (z:=z) j l O e;cases r with
  |@ay a B n _ C D G m=>
   have p:=m.length;simp at p;refine wpAny_assign_Tuple u ⟨_,C,rfl,_,rfl⟩ (by rw[x,p]) y λ h H=>?_;have k:∀b o,s.heap.get? b=some o->h.get? b=some o:=λ b o q=>H b o (BU (AO q)) q;exact My j l B.toList O _ i (F.ac (.ad k)) e (m.ac (.ad k)) λ N w f c=>Q N w f ((Kg.ad k).trans c)
 ·cases e
variable {a:List (Str×PV)}{x:Str} in
def DY:Expr->List Str
 | .Name x _=>[x]
 | .Tuple a _ _=>a.filterMap Rq
 |_=>[]
variable {c:Nat} in
def F9 (h:AC->Expr->Option Bool)(k:AC):List Expr->Option Bool
 |[]=>some true
 |c::o=>match h k c with
  |some true=>F9 h k o
  |some false=>some false
  |none=>none
variable {c:List PV}{g:Array GenState}{b:List Comprehension} in
def Cc {a:Type}(w:Scope)(o:AC->Expr->Option Bool)(s:AC->Expr->Option (List PV))(k:AC->Option a):List Comprehension->AC->List PV->Option (List a)
 |[],_,_=>none
 |g::b,O,c=>
  if g.is_async=0/\(DY g.target).all (λ x=>(O.lookup x).isNone)=true then
   (c.mapM λ x=>(Dc w g.target x O).bind λ h=>(F9 o h g.ifs).bind λ z=>
     if z then
      match b with
      |[]=>(k h).map λ d=>[d]
      |A::_=>(s h A.iter).bind λ E=>Cc w o s k b h E
     else some []).map List.flatten
  else none
theorem RB {c d:Type}{f:c->Option d}:∀{o:List c}{k:List d},o.mapM f=some k->k.length=o.length/\∀(i:Nat)(x:c),o[i]? =some x->∃y,f x=some y/\k[i]? =some y
 |[],k,h=>by
   simp at h;subst h;exact⟨rfl,λ i x e=>by simp at e⟩
  |a::o,k,h=>by
   rw[GZ] at h;obtain⟨b,w,h⟩:=Ae.mp h;obtain⟨E,s,h⟩:=Ae.mp h;cases h;obtain⟨z,A⟩:=RB s;refine⟨by simp[z],λ i x e=>?_⟩;cases i with
   |zero=>simp at e;subst e;exact⟨b,w,rfl⟩
   |succ i=>simp at e ⊢;exact A i x e
theorem Og:∀(o:List Expr)(k:List PV)(w:AC),Cw V o k w=some a->∀y s,y∉o.filterMap Rq->w.lookup y=some s->a.lookup y=some s:=by
 intro o;induction o with
 |nil=>
  intro k w e y s _ h;cases k with
  |nil=>cases e;exact h
  |cons _ _=>simp[Cw] at e
 |cons H o A=>
  intro k w e y s z h;cases k with
  |nil=>simp[Cw] at e
  |cons d k=>
   simp only[Cw] at e;split at e
   ·rename_i x E;rw[IO,E] at z;simp only[Ag,not_or] at z;split at e
    ·exact A k _ e y s z.2 (by rw[Aj z.1];exact h)
    ·cases e
   ·cases e
theorem Ts (e:Dc V t d O=some a)(s:(DY t).all (λ x=>(O.lookup x).isNone)=true):∀y k,O.lookup y=some k->a.lookup y=some k:=by
 intro y k h;have o:y∉DY t:=λ q=>by
  have:=AJ.mp s y q;rw[h] at this;simp at this
 unfold Dc at e;split at e
 ·split at e
  ·cases e
   rw[Aj (by simpa[DY] using o)];exact h
  ·cases e
 ·exact Og _ _ _ e y k o h
 ·cases e
structure Gd (W:BH)(s:Shared):Prop where
 am:A8 W W.h0 s.heap
 ea:W.dc s.heap
 toks:1<=s.toks
structure Yo (W:BH)(A:Around)(sc:Scope)(env:Env)(pev:AC->Expr->Option PV)(ptst:AC->Expr->Option Bool)(pitr:AC->Expr->Option (List PV)):Prop where
 ev:∀ρ x d,pev ρ x=some d->∀Z X(s:Shared),FI W sc env Z X s.heap ρ->Gd W s->BR W A (eval x env) s (λ v h'=>Rp W X h' v d)
 tst:∀ρ x b,ptst ρ x=some b->∀Z X(s:Shared),FI W sc env Z X s.heap ρ->Gd W s->BR W A (isTrue x env (eval x env)) s (λ b' _=>b'=b)
 itr:∀ρ x ys,pitr ρ x=some ys->(∀v,foldedSetIterable x env v=pure v)/\∀Z X(s:Shared),FI W sc env Z X s.heap ρ->Gd W s->BR W A (eval x env) s (λ v h'=>V4 W X h' v ys)
theorem Gd.step (G:Gd W s)(h:A8 W s.heap H)(k:s.toks<=tk):Gd W #[s,H,tk]:=⟨G.am.trans h,h.2 G.ea,Ab G.toks k⟩
theorem FI.be (F:FI W V z (I::Z) (I::X) h O)(w:Heap.ExtBut I h H)(Q:I∉Ay z)(C:I∉X)(f:∀a∈Z,a∈X):FI W V z Z X H O:=by
 have t:∀{v d},Rp W (I::X) h v d->Rp W X H v d:=λ r=>r.bc λ b o e n _=>⟨w b o (λ q=>n (q▸Ac)) e,λ q=>n (Ad _ q)⟩;have N:∀{v d},RpL W (I::X) h v d->RpL W X H v d:=λ r=>r.bc λ b o e n _=>⟨w b o (λ q=>n (q▸Ac)) e,λ q=>n (Ad _ q)⟩;have k:∀{v s},Bg W (I::Z) (I::X) h v s->Bg W Z X H v s:=λ{v s} r=>by
  cases s with
  |al u=>exact r
  |bl u d=>exact⟨r.1,t r.2⟩
  |aa d=>exact t r
  |own d=>
   obtain⟨a,e,m,E,r⟩:=r;have A:a≠I:=λ q=>E (q▸Ac);refine⟨a,e,(Ag.mp m).resolve_left A,λ q=>E (Ad _ q),?_⟩;cases d with
   |list M=>obtain⟨D,n,e,E,r⟩:=r;exact⟨D,n,w _ _ A e,E,N r⟩
   |dict R=>obtain⟨g,e,y,E,q,r⟩:=r;exact⟨g,e.extBut w A,y,E,q,N r⟩
   |_=>exact r.elim
 exact{F with
  aw:=λ a B=>(Ag.mp (F.aw a B)).resolve_left (λ q=>Q (q▸B))
  zx:=f
  ns:=by
   obtain⟨m,G,j⟩:=F.ns;exact⟨m,G.extBut w (λ q=>Q (q▸Ac)),λ x s a b=>let⟨v,e,r⟩:=j x s a b;⟨v,e,k r⟩⟩
  cell:=λ x J=>let⟨c,L,e,i,j⟩:=F.cell x J
   ⟨c,L,e,(let⟨o,l,hd⟩:=i;⟨o,w c o (λ q=>Q (q▸Bq e)) l,hd⟩),λ s q=>let⟨v,e,r⟩:=j s q;⟨v,e,k r⟩⟩
  alive:=λ b p=>⟨(F.alive b (Ad _ p)).1,by
   obtain⟨o,l⟩:=(F.alive b (Ad _ p)).2;exact⟨o,w b o (λ q=>C (q▸p)) l⟩⟩}
theorem LP:∀(k:List Expr)(s:Shared)(Q:Bool->Shared->Prop),Q false s->
 wpAny W.M A (forIn k false λ c r=>if r=true then do let o <-isTrue c z (eval c z);pure (ForInStep.yield o) else pure (ForInStep.yield r)) Q E s
 |[],s,Q,h=>Af h
  |c::w,s,Q,h=>by
   rw[Bt];simp only[Aq,AS];exact Aa (Af (LP w s Q h))
theorem LN (N:Yo W A V z f a d):
 ∀(o:List Expr)(b:Bool)(s:Shared)(Q:Bool->Shared->Prop),F9 a O o=some b->FI W V z Z X s.heap O->Gd W s->
  (∀w H,A8 W s.heap w->s.toks<=H->Q b #[s,w,H])->
  wpAny W.M A (forIn o true λ c r=>if r=true then do let m <-isTrue c z (eval c z);pure (ForInStep.yield m) else pure (ForInStep.yield r)) Q E s
 |[],b,s,Q,e,F,G,h=>by cases e;exact Af (h s.heap s.toks (.refl _) (Am _))
  |c::j,b,s,Q,e,F,G,h=>by
   rw[Bt];simp only[A0];unfold F9 at e;split at e
   ·rename_i q;refine Aa (Aa (N.tst O c true q Z X s F G _ _ λ n w H k l p=>?_));subst p;exact Af (LN N j b _ Q e (F.ac k) (G.step k l) λ g i t u=>h g i (k.trans t) (Ab l u))
   ·rename_i q;cases e;refine Aa (Aa (N.tst O c false q Z X s F G _ _ λ n w H k l p=>?_));subst p;exact Af (LP j _ Q (h _ _ k l))
   ·cases e
variable {x:Str} in
def Ql (e:Expr)(s:Sem Unit)(w:List Comprehension)(h:Nat)(z:Value)(k:Env)(K:Sem PySem.Fin):Sem PySem.Fin:=
 match w[h+1]? with
 |some o=>do
  let x <-eval o.iter k
  standAt o.iter.pos
  if o.is_async !=0 then do
   let x <-foldedIterable o.iter x
   let _ <-runOwn (.compStart e (h+1) (<-holding [x] (if o.is_async !=0 then asyncIter x else pyIter x)) z k) k
   K
  else do
   let x <-foldedSetIterable o.iter k x
   let _ <-runOwn (.compStart e (h+1) (<-holding [x] (if o.is_async !=0 then asyncIter x else pyIter x)) z k) k
   K
 |none=>do
  s
  K
variable {v:Value} in
structure PG (e:Expr)(gens:List Comprehension)(emit:Value->Env->Sem Unit):Prop where
 db:clausesOf e=gens
 loop:∀depth it acc env,(Code.compLoop e depth it acc env).isFrame=false
 start:∀depth it acc env,(Code.compStart e depth it acc env).isFrame=false
 fe:∀(A:Around) depth it acc env,A.under (.compLoop e depth it acc env)=A
 fb:∀(A:Around) depth it acc env,A.under (.compStart e depth it acc env)=A
 de:∀depth it acc env target iter ifs,gens[depth]? =some ⟨target,iter,ifs,0⟩->compTurn e depth it acc env=(do
  standAt iter.pos
  match <-pyNext it with
  |none=>pure (.done .next)
  |some v=>
   letOwnedTupleGo target it v
   assign target env v
   let ok <-(forIn ifs true λ c r=>if r=true then do let ok <-isTrue c env (eval c env);pure (ForInStep.yield ok) else pure (ForInStep.yield r))
   if ok=true then Ql e (emit acc env) gens depth acc env (again (.compLoop e depth it acc env))
   else again (.compLoop e depth it acc env))
def NP (h:Expr)(k:Value)(o:Env):Sem Unit:=do let _ <-call (.builtin "list.append") [k,<-eval h o]
variable {d:PV} in
def Sd (s v:Expr)(k:Value)(h:Env):Sem Unit:=do
 let o <-eval s h
 let w <-holding [o] (eval v h)
 match k with
 | .ref d=>do
   standAt {s.pos with endLine:=v.pos.endLine,endCol:=v.pos.endCol}
   holding [o,w] (dictSet d o w)
 |_=>unsupported "internal:dictcomp"
theorem N2 (o:Expr)(h:List Comprehension)(k:Scope)(w:Pos):PG (.ListComp o h k w) h (NP o) where
 db:=rfl
 loop:=λ _ _ _ _=>rfl
 start:=λ _ _ _ _=>rfl
 fe:=λ _ _ _ _ _=>rfl
 fb:=λ _ _ _ _ _=>rfl
 de:=λ z O A E s iter H N=>by
  unfold compTurn;simp only[N];rfl
theorem Tn (z v:Expr)(h:List Comprehension)(k:Scope)(s:Pos):PG (.DictComp z v h k s) h (Sd z v) where
 db:=rfl
 loop:=λ _ _ _ _=>rfl
 start:=λ _ _ _ _=>rfl
 fe:=λ _ _ _ _ _=>rfl
 fb:=λ _ _ _ _ _=>rfl
 de:=λ w O A E o iter H N=>by
  unfold compTurn;simp only[N];rfl
structure V2 {β:Type}(D:Addr)(Acc:List Addr->Heap->List β->Prop):Prop where
 bc:∀{X Y:List Addr}{h h':Heap}{l:List β},Acc X h l->(∀b o,h.get? b=some o->b∉X->Db o->h'.get? b=some o/\b∉Y)->(∀o,h.get? D=some o->h'.get? D=some o)->Acc Y h' l
 obj:∀{X:List Addr}{h:Heap}{l:List β},Acc X h l->∃o,h.get? D=some o/\Db o
theorem JQ (E:PG e f d)(V:f[a]? =some g)(Z:g.is_async=0)
 (Q:codeAny W.M A (.compLoop e a c b z) R s)
 (i:wpAny W.M A (pyIter c) (λ h w=>codeAny W.M A (.compLoop e a h b z) R w) (notedBy W.M A z λ x w=>R (.error x) w) s):
 codeAny W.M A (.compStart e a c b z) R s:=by
 have k:(clausesOf e)[a]? =some g:=by rw[E.db];exact V
 have H:((clausesOf e)[a]?.elim false λ x=>x.is_async !=0)=false:=by
  rw[k];simp[Z]
 refine Kb ?_;have N:=E.start a c b z;have o:(W.M.den (.compStart e a c b z))=((compStart e a c b z).onRaise λ x=>do noteFrame x z;standAt theWindowsPlace):=by
  show(if(Code.compStart e a c b z).isFrame=true then _ else _)=_;rw[N];rfl
 have O:=E.fb A a c b z;rw[o,O];refine wpAny_notedAt ?_;unfold compStart;rw[H,k];simp only[Aq,AS];refine Aa (wpAny_askSetting ?_);refine wpAny_ite ?_;split
 ·first
   |exact Aa (Af (Af (And.intro rfl Q)))
   |exact Af (And.intro rfl Q)
 ·exact Aa (wpAny_rule (Aa (AI (Aa (BP i (λ h w j=>Af (And.intro rfl j)) λ _ _ x=>x)))))
theorem HW {a:Type}{l:List (List a)}{r:List a}(h:l[i]? =some r):(l.take (i+1)).flatten=(l.take i).flatten++r:=by
 rw[List.take_add_one,h];simp
theorem Mw {a:Type}(l:List (List a))(i:Nat):((l.take i).flatten).length<=l.flatten.length:=by
 have:l.flatten=(l.take i).flatten++(l.drop i).flatten:=by rw[<-List.flatten_append,Oo]
 rw[this,BZ];omega
theorem GC (h:Around):h.mark none=h:=rfl
def Dw (P:Addr->Prop)(h k:Heap):Prop:=∀b o,¬P b->h.get? b=some o->o.cls≠.type "frame"->o.cls≠.none->k.get? b=some o
theorem Dw.trans (a:Dw P h H)(b:Dw P H d):Dw P h d:=λ c o k e s w=>b c o k (a c o k e s w) s w
theorem Dw.weak (k:∀a,P a->b a)(a:Dw P h H):Dw b h H:=λ c o s e w z=>a c o (λ q=>s (k c q)) e w z
theorem A8.ei (k:A8 W h H):Dw P h H:=λ _ _ _ e o s=>k.keep e o s
theorem Dw.refl:Dw P h h:=λ _ _ _ e _ _=>e
theorem JR (h4:Yo W A V z G t C)(hh:A.handled=none)(ce:PG e p n)
 {u:Type} {Acc:List Addr->Heap->List u->Prop} (ak:V2 D Acc) (d0:A8 W W.h0 N) (d1:W.dc N) (f7:∀a,Ck V z a->N.get? a=none) (f8:D∉Ay z)
  (hg:p[d]? =some ⟨g,iter,B,0⟩) {j:List (List u)} (b0:AC->Option (List u)) (c1:(DY g).all (λ x=>(f.lookup x).isNone)=true)
 (hm:(m.mapM λ x=>(Dc V g x f).bind λ L=>(F9 t L B).bind λ ok=>if ok then b0 L else some [])=some j)
  {St:Nat->Heap->Prop} (f9:D∈Z) (d2:∀a∈Z,a∈X) (g0:I∉X) (d3:I∉Ay z) (e3:I≠D) (e4:N.get? I=none) (J:LJ W A (I::X) I m St)
 (g1:∀L r,b0 L=some r->∀(s:Shared)(l:List u)(Q:PySem.Fin->Shared->Prop)(E:JD)(K:Sem PySem.Fin),FI W V z (I::Z) (I::X) s.heap L->A8 W N s.heap->1<=s.toks->
  Acc (I::X) s.heap l->l.length+r.length<=Bi->
  (∀h' tk,FI W V z (I::Z) (I::X) h' L->A8 W N h'->s.toks<=tk->Acc (I::X) h' (l++r)->Dw (λ b=>b=D\/Ck V z b) s.heap h'->wpAny W.M A K Q E #[s,h',tk])->
  wpAny W.M A (Ql e (n (.ref D) z) p d (.ref D) z K) Q E s)
  {l:List u} (a9:St 0 s.heap) (F:FI W V z (I::Z) (I::X) s.heap f) (c2:A8 W N s.heap) (e5:1<=s.toks)
 (hr:Acc X s.heap l) (h5:l.length+j.flatten.length<=Bi)
 (hR:∀h' tk,FI W V z Z X h' f->A8 W N h'->s.toks<=tk->Acc X h' (l++j.flatten)->Dw (λ b=>b=I\/b=D\/Ck V z b) s.heap h'->R (.ok .next) #[s,h',tk]):
 codeAny W.M A (.compLoop e d (.ref I) (.ref D) z) R s:=by
 obtain⟨h3,e6⟩:=RB hm;have b1:∀a,Ck V z a->a∈Ay z:=λ a ha=>by
  rcases ha with rfl |⟨x,_,e⟩
  ·exact Ac
  ·exact Bq e
 have d4:¬Ck V z I:=λ q=>d3 (b1 I q);have g2:¬Ck V z D:=λ q=>f8 (b1 D q);have g3:D∈X:=d2 D f9;have e7:D≠I:=λ q=>e3 q.symm;have g4:Acc (I::X) s.heap l:=by
  obtain⟨oI,b2,_,_,_,d5⟩:=J.bq 0 s.heap a9;exact ak.bc hr (λ b o e M c=>⟨e,λ q=>by
   rcases Ag.mp q with q |q
   ·subst q;rw[b2] at e;cases e;exact d5 c
   ·exact M q⟩) λ _ e=>e
 have g5:=ce.fe A d (.ref I) (.ref D) z;refine codeAny_loop rfl (λ k s'=>∃i h tk,s'=#[s,h,tk]/\FI W V z (I::Z) (I::X) h f/\St i h/\A8 W N h/\s.toks<=tk/\
  Acc (I::X) h (l++(j.take i).flatten)/\i<=m.length/\k=m.length+1-i/\Dw (λ b=>b=I\/b=D\/Ck V z b) s.heap h) ?_ (m.length+1)
  ⟨0,s.heap,s.toks,rfl,F,a9,c2,Am _,by simpa using g4,BT _,rfl,.refl⟩
 rintro k s' ⟨i,h,tk,rfl,F,a9,c2,c4,hr,hi,rfl,e8⟩;have e9:(W.M.den (.compLoop e d (.ref I) (.ref D) z))=((compTurn e d (.ref I) (.ref D) z).onRaise λ x=>do noteFrame x z;theTreesLotGoes x):=by
  show(if(Code.compLoop e d (.ref I) (.ref D) z).isFrame=true then _ else _)=_;rw[ce.loop];rfl
 rw[e9,g5];refine wpAny_noted ?_;rw[ce.de _ _ _ _ _ _ _ hg];refine Aa (AI (Aa ?_));obtain⟨oI,b2,f0,f1,h6,d5⟩:=J.bq i h a9;have c5:∀{b o},h.get? b=some o->(o.cls=.type "list"\/o.cls=.type "tuple"\/o.cls=.type "dict")->b≠I:=λ e c q=>by
  subst q;rw[b2] at e;cases e;exact d5 c
 by_cases f2:i<m.length
 ·obtain⟨y,hy,d6⟩:=e6 i m[i] (by simp[f2]);refine Bw (n:=s.toks) c4 (J.item i _ _ _ m[i] a9 (by simp[f2]) λ v a0 b3 rv a2 w S=>?_);have T:A8 W N a0:=c2.ext e4 (λ o vs ho hd=>by rw[b2] at ho;cases ho;exact⟨f0,f1⟩) w;obtain⟨b4,a5,g6,h7,g7,h8⟩:=J.bq _ _ a2;have f3:FI W V z (I::Z) (I::X) a0 f:=F.ext w Ac d3 ⟨b4,a5⟩;refine Aa (J.cr (i+1) _ _ _ g v a2 ?_);obtain⟨L,c6,hy⟩:=Ae.mp hy;obtain⟨ok,g8,hy⟩:=Ae.mp hy;refine Aa (Bw (n:=s.toks) S (KY f3 hh c6 rv λ a1 g9 c7 H a6=>?_));have U:A8 W N a1:=H.ik N f7 T;have b5:Acc (I::X) a1 (l++(j.take i).flatten):=
   ak.bc hr (λ b o e M c=>⟨H.keep b o (λ q=>M (F.zx b (F.aw b (b1 b q)))) (w b o (c5 e c) e),M⟩) λ o e=>H.keep D _ g2 (w D _ e7 e)
  have d7:St (i+1) a1:=J.frame _ _ _ a2 (λ o ho=>H.keep I o d4 ho) λ b o M e _=>H.keep b o (λ q=>M (F.zx b (F.aw b (b1 b q)))) e;have d8:Dw (λ b=>b=I\/b=D\/Ck V z b) s.heap a1:=e8.trans (λ b o M e _ _=>H.keep b o (λ q=>M (.inr (.inr q))) (w b o (λ q=>M (.inl q)) e));have b6:∀y sl,f.lookup y=some sl->L.lookup y=some sl:=Ts c6 c1;refine Aa (LN h4 B ok _ _ g8 c7 ⟨d0.trans U,U.2 d1,Ab e5 a6⟩ λ b7 b8 O f4=>?_);have a7:=U.trans O;have c8:=c7.ac O;have b9:Acc (I::X) b7 (l++(j.take i).flatten):=ak.bc b5 (λ b o e M c=>⟨Ce O e c,M⟩) λ o e=>by
   obtain⟨o',e',c⟩:=ak.obj b5;rw[e] at e';cases e';exact Ce O e c
  have a3:St (i+1) b7:=J.frame _ _ _ d7 (λ o ho=>by
   have:a1.get? I=some b4:=H.keep I _ d4 a5;rw[this] at ho;cases ho;exact O.keep this g7 g6) λ b o M e c=>Ce O e c
  have c0:=d8.trans (O.ei (P:=λ b=>b=I\/b=D\/Ck V z b));have Y:s.toks<=b8:=Ab a6 f4;cases ok with
  |false=>
   simp only[Aq,AS] at hy ⊢;cases hy;refine Af ⟨rfl,m.length+1-(i+1),∅,i+1,b7,b8,rfl,c8.ap b6,a3,a7,Y,?_,∅,rfl,c0⟩;rw[HW d6];simpa using b9
  |true=>
   simp only[A0] at hy ⊢;have d9:(j.take (i+1)).flatten.length<=j.flatten.length:=Mw j (i+1);rw[HW d6,BZ] at d9;refine g1 L y hy _ (l++(j.take i).flatten) _ _ _ c8 a7 (Ab e5 Y) b9 (by rw[BZ];omega) λ c9 e0 f5 c3 f6 e1 a4=>?_;obtain⟨h0,a8,h1,h9,h2,i0⟩:=J.bq _ _ a3;have e2:St (i+1) c9:=J.frame _ _ _ a3 (λ o ho=>by
    rw[a8] at ho;cases ho;exact a4 I _ (λ q=>q.elim e3 d4) a8 h2 h1) λ b o M e c=>a4 b o (λ q=>M (Ad _ (q.elim (λ q=>q▸g3) λ q=>by
     refine d2 b ((Ag.mp (F.aw b (b1 b q))).resolve_left λ i1=>?_);exact M (i1▸Ac)))) e (by rcases c with c |c |c<;>rw[c]<;>simp) (by rcases c with c |c |c<;>rw[c]<;>simp)
   refine Af ⟨rfl,m.length+1-(i+1),∅,i+1,c9,e0,rfl,f5.ap b6,e2,c3,Ab Y f6,?_,∅,rfl,c0.trans (a4.weak λ a q=>q.elim (λ q=>.inr (.inl q)) λ q=>.inr (.inr q))⟩;rw[HW d6,<-Br];exact e1
 ·have:i=m.length:=∅
  subst this;refine Bw (n:=s.toks) c4 (J.done _ _ _ a9 λ a0 b3 w S=>?_);refine Af ?_;have T:A8 W N a0:=c2.ext e4 (λ o vs ho hd=>by rw[b2] at ho;cases ho;exact⟨f0,f1⟩) w;refine hR a0 b3 (F.be w d3 g0 d2) T S ?_ (e8.trans λ b o M e _ _=>w b o (λ q=>M (.inl q)) e);rw[Cq ∅] at hr;exact ak.bc hr (λ b o e M c=>⟨w b o (c5 e c) e,λ q=>M (Ad _ q)⟩) λ o e=>w D _ e7 e
theorem NR {a:Type}{l:List a}{x:a}{r:List a}(h:l.drop k=x::r):l[k]? =some x/\l.drop (k+1)=r:=by
 constructor
 ·have:=List.getElem?_drop (xs:=l) (i:=k) (j:=0);rw[h] at this;simpa using this.symm
 ·rw[<-List.drop_drop,h];rfl
theorem Io (o:s.heap.get? D=some (Fz a n))(N:a.size<=Bi)
 (w:∀h k,h.get? D=some (Fz (a.push v) k)->Heap.SameBut D s.heap h->Q .none #[s,h]):wpAny W.M A (call (.builtin "list.append") [.ref D,v]) Q E s:=by
 have O:=Ei;refine wpAny_list_append_plain ⟨n,o⟩ (λ h z H=>?_) ∅;obtain⟨k,e⟩:=z;exact w h k e H
theorem QB (d6:Yo W A V z n i f)(hh:A.handled=none)
 (ce:PG e l j)
 {m:Type} {Acc:List Addr->Heap->List m->Prop} (ak:V2 D Acc) (B:AC->Option m)
  (O:A8 W W.h0 N) (C:W.dc N) (d7:N.get? D=none) (c7:∀a,Ck V z a->N.get? a=none) (b6:D∉Ay z)
 (b7:∀ρ b,B ρ=some b->∀(Z X:List Addr)(s:Shared)(ds:List m)(Q:Unit->Shared->Prop)(E:JD),FI W V z Z X s.heap ρ->Gd W s->D∈X->Acc X s.heap ds->ds.length+1<=Bi->
  (∀p h tk,A8 W s.heap p->Heap.SameBut D p h->(∃o,p.get? D=some o/\Db o)->(∃o,h.get? D=some o)->s.toks<=tk->Acc X h (ds++[b])->Q () #[s,h,tk])->wpAny W.M A (j (.ref D) z) Q E s):
 ∀(gs:List Comprehension)(g:Comprehension)(w:Nat),l.drop w=g::gs->∀(t:AC)(xs:List PV)(rs:List m),Cc V i f B (g::gs) t xs=some rs->
 ∀(Z X:List Addr)(s:Shared)(I:Addr)(St:Nat->Heap->Prop)(ds:List m)(R:Result->Shared->Prop),
  D∈Z->(∀a∈Z,a∈X)->I∉X->I∉Ay z->I≠D->N.get? I=none->LJ W A (I::X) I xs St->St 0 s.heap->FI W V z (I::Z) (I::X) s.heap t->A8 W N s.heap->1<=s.toks->
  Acc X s.heap ds->ds.length+rs.length<=Bi->
  (∀L tk,FI W V z Z X L t->A8 W N L->s.toks<=tk->Acc X L (ds++rs)->Dw (λ b=>b=I\/b=D\/Ck V z b) s.heap L->R (.ok .next) #[s,L,tk])->
  codeAny W.M A (.compLoop e w (.ref I) (.ref D) z) R s:=by
 have f4:∀a,Ck V z a->a∈Ay z:=λ a ha=>by
  rcases ha with rfl |⟨x,_,e⟩
  ·exact Ac
  ·exact Bq e
 intro gs;induction gs with
 |nil=>
  intro g w hd t xs rs he Z X s I St ds R T a4 b8 b9 c0 c1 c2 c3 F u U hr a1 hR;obtain⟨hg,a9⟩:=NR hd;obtain⟨b0,iter,d8,d9⟩:=g;rw[Cc] at he;split at he
  ·rename_i hc;obtain⟨Y,a5⟩:=hc;simp only at Y a5 he;subst Y;obtain⟨e0,hm,rfl⟩:=As.mp he;refine JR d6 hh ce ak O C c7 b6 hg (λ H=>(B H).map λ d=>[d]) a5 hm T a4 b8 b9 c0 c1 c2 ?_ c3 F u U hr a1 hR;intro H r a6 s ds Q E K F u U hr a1 hK;obtain⟨d,hd,rfl⟩:=As.mp a6;have c4:l[w+1]? =none:=by
    rw[List.getElem?_eq_none_iff];have:=Cb List.length a9;simp at this;omega
   unfold Ql;rw[c4];refine Aa (b7 H d hd (I::Z) (I::X) s ds _ _ F ⟨O.trans u,u.2 C,U⟩ (Ad _ (a4 D T)) hr a1 λ p h tk k a2 e1 e2 a3 c8=>?_);have f5:D∈X:=a4 D T;refine hK h tk ((F.ac k).ext a2.extBut (Ad _ T) b6 e2) ((u.trans k).ext d7 (λ o ws ho hd=>?_) a2.extBut) a3 c8 ?_
   ·obtain⟨o',a7,c⟩:=e1;rw[ho] at a7;cases a7;rcases c with c |c |c<;>rw[c]<;>simp
   ·intro b o nb e h1 h2;rw[a2.2 b λ q=>nb (.inl q)];exact k.keep e h1 h2
  ·cases he
 |cons g' gs ih=>
  intro g w hd t xs rs he Z X s I St ds R T a4 b8 b9 c0 c1 c2 c3 F u U hr a1 hR;obtain⟨hg,a9⟩:=NR hd;obtain⟨c9,f3⟩:=NR a9;obtain⟨b0,iter,d8,d9⟩:=g;rw[Cc] at he;split at he
  ·rename_i hc;obtain⟨Y,a5⟩:=hc;simp only at Y a5 he;subst Y;obtain⟨e0,hm,rfl⟩:=As.mp he;refine JR d6 hh ce ak O C c7 b6 hg (λ H=>(f H g'.iter).bind λ ys=>Cc V i f B (g'::gs) H ys) a5 hm T a4 b8 b9 c0 c1 c2 ?_ c3 F u U hr a1 hR;intro H r a6 s ds Q E K F u U hr a1 hK;obtain⟨ys,e3,b1⟩:=Ae.mp a6;have a8:g'.is_async=0:=by
    rw[Cc] at b1;split at b1
    ·rename_i hc;exact hc.1
    ·cases b1
   obtain⟨c5,d0⟩:=d6.itr H g'.iter ys e3;unfold Ql;rw[c9];have e4:(g'.is_async !=0)=false:=by simp[a8]
   simp only[e4,Aq,AS];have G:Gd W s:=⟨O.trans u,u.2 C,U⟩;refine Aa (d0 (I::Z) (I::X) s F G _ _ λ v p y k a3 e5=>Aa (AI (Aa (AA (c5 v) ?_))));refine Aa (AF (Eo (s:=#[s,p,y]) e5 λ J h hJ e6 M d1=>Aa ?_));have b3:A8 W p h:=.ad M;have a0:=F.ac k;have S:=u.trans k;have b2:J∉I::X:=λ q=>by
    obtain⟨o,ho⟩:=(a0.alive J q).2;rw[hJ] at ho;cases ho
   have d2:FI W V z (J::I::Z) (J::I::X) h H:=a0.fresh (O.trans S) b3 hJ e6;have e7:N.get? J=none:=by
    cases e:N.get? J with
    |none=>rfl
    |some o=>
     obtain⟨o',a7⟩:=AP S ⟨o,e⟩;rw[hJ] at a7;cases a7
   have e8:J∉Ay z:=λ q=>b2 (a0.zx _ (a0.aw _ q));have e9:J≠D:=λ q=>b2 (q▸Ad _ (a4 D T));have c6:Acc (I::X) h ds:=ak.bc hr (λ b o e nb c=>⟨M _ _ (Ce k e c),nb⟩) λ o e=>by
    obtain⟨o',e',c⟩:=ak.obj hr;rw[e] at e';cases e';exact M _ _ (Ce k e c)
   obtain⟨f0,d3,b4⟩:=LJ.of (A:=A) (d1 b2) Ac hh;have b5:∀R':Result->Shared->Prop,(∀L tk,FI W V z (I::Z) (I::X) L H->A8 W N L->y<=tk->Acc (I::X) L (ds++r)->Dw (λ b=>b=J\/b=D\/Ck V z b) h L->R' (.ok .next) #[s,L,tk])->
    codeAny W.M A (.compLoop e (w+1) (.ref J) (.ref D) z) R' #[s,h,y]:=λ R' f1=>
    ih g' (w+1) a9 H ys r b1 (I::Z) (I::X) #[s,h,y] J f0 ds R' (Ad _ T) a0.zx b2 e8 e9 e7 b4 d3 d2 (S.trans b3) (Ab U a3) c6 a1 f1
   refine Kl ?_;rw[GC];have d4:∀L tk,FI W V z (I::Z) (I::X) L H->A8 W N L->y<=tk->Acc (I::X) L (ds++r)->Dw (λ b=>b=J\/b=D\/Ck V z b) h L->
    wpAny W.M A K Q E #[s,L,tk]:=λ L tk F' d5 l' a6 f2=>by
    refine hK L tk F' d5 (Ab a3 l') a6 λ b o nb e h1 h2=>?_;refine f2 b o (λ q=>?_) (M _ _ (k.keep e h1 h2)) h1 h2;rcases q with q |q
    ·subst q;have:=k.keep e h1 h2;rw[hJ] at this;cases this
    ·exact nb q
   refine JQ ce c9 a8 (b5 _ d4) (b4.self 0 _ _ _ d3 (b5 _ d4))
  ·cases he
def A3 (h:Scope)(k:AC):AC:=k.filter λ p=>h.names.lookup p.1==some .free
def Cd (k h:Scope):Bool:=
 h.kind== .function&&decide ((h.names.map (·.1)).Nodup)&&h.names.all λ p=>p.2 != .free||(k.names.lookup p.1==some .cell||k.names.lookup p.1==some .free)
theorem Ee (h:Scope)(x:Str):∀(k:AC),(A3 h k).lookup x=if h.names.lookup x=some .free then k.lookup x else none:=by
 intro k;unfold A3;induction k with
 |nil=>simp
 |cons p k s=>
  obtain⟨y,w⟩:=p;rw[FQ];by_cases o:h.names.lookup y=some .free
  ·simp only[o,DG,A0];by_cases q:x=y
   ·subst q;rw[An,An,Ap o]
   ·rw[Aj q,Aj q];exact s
  ·have:(h.names.lookup y==some .free)=false:=by simpa using o
   simp only[this,Aq,AS];by_cases q:x=y
   ·subst q;rw[s,Ak o,Ak o]
   ·rw[Aj q];exact s
variable {r:List Stmt}{x:Str} in
def E7 (o:Env):List (Str×NameKind)->List (Str×Addr)->List (Str×Addr)
 |[],h=>h
 |(x,k)::r,h=>if k== .free then E7 o r ((x,(o.cells.lookup x).getD 0)::h) else E7 o r h
theorem Hk (w:∀p∈a.names,p.2=.free->(z.cells.lookup p.1).isSome=true):closureFor a z=pure (E7 z a.names []):=by
 unfold closureFor;have E:∀(h:List (Str×NameKind))(o:List (Str×Addr)),(∀p∈h,p.2=.free->(z.cells.lookup p.1).isSome=true)->
  (forIn h o λ(x:Str×NameKind) A=>match x with
   |(name,s)=>if(s==NameKind.free)=true then do
    let c <-cellOf z name
    pure (ForInStep.yield ((name,c)::A))
    else pure (ForInStep.yield A))=(pure (E7 z h o):Sem (List (Str×Addr))):=by
  intro h;induction h with
  |nil=>intro o _;rfl
  |cons p r H=>
   intro o w;obtain⟨x,k⟩:=p;rw[Bt];have N:∀p∈r,p.2=.free->(z.cells.lookup p.1).isSome=true:=λ p V=>w p (Ad _ V);unfold E7;by_cases O:k=.free
   ·subst O;obtain⟨c,Q⟩:=BS.mp (w (x,.free) Ac rfl);simp only[DG,A0];have e:cellOf z x=pure c:=by unfold cellOf;rw[Q]
    rw[e,Q];exact H _ N
   ·have:(k==NameKind.free)=false:=by simpa using O
    simp only[this,Aq,AS];exact H _ N
 have:=E a.names [] w;show(forIn a.names [] _ >>=λ A=>pure A)=_;rw[this];rfl
theorem Jh (x:Str):∀(o:List (Str×NameKind))(s:List (Str×Addr)),(o.map (·.1)).Nodup->(∀p∈o,p.2=.free->(z.cells.lookup p.1).isSome=true)->
 (E7 z o s).lookup x=if o.lookup x=some .free then z.cells.lookup x else s.lookup x:=by
 intro o;induction o with
 |nil=>intro s _ _;simp[E7]
 |cons p r A=>
  intro s w h;obtain⟨y,k⟩:=p;rw[AL,CN] at w;have E:∀p∈r,p.2=.free->(z.cells.lookup p.1).isSome=true:=λ p Q=>h p (Ad _ Q);have O:∀H,r.lookup y=some H->False:=λ H e=>w.1 (At.mpr ⟨(y,H),mem_of_lookup e,rfl⟩);unfold E7;by_cases q:x=y
  ·subst q;rw[An];by_cases N:k=.free
   ·subst N;obtain⟨c,V⟩:=BS.mp (h (x,.free) Ac rfl);simp only[DG,A0];rw[A _ w.2 E,Ak (λ e=>O _ e),An,V];rfl
   ·have:(k==NameKind.free)=false:=by simpa using N
    simp only[this,Aq,AS];rw[A _ w.2 E,Ak (λ e=>O _ e),Ak λ e=>N (by injection e)]
  ·rw[Aj q];split
   ·rw[A _ w.2 E,Aj q]
   ·rw[A _ w.2 E]
theorem Cp (x:Str):∀(h:List (Str×NameKind))(n:Nat)(o:List (Str×Addr)),(h.map (·.1)).Nodup->
 (h.lookup x≠some .cell->(cellsFrom n h o).lookup x=o.lookup x)/\(h.lookup x=some .cell->∃c,(cellsFrom n h o).lookup x=some c/\n<=c):=by
 intro h;induction h with
 |nil=>intro n o _;exact⟨λ _=>rfl,λ e=>by simp at e⟩
 |cons p r w=>
  intro n o s;obtain⟨y,k⟩:=p;rw[AL,CN] at s;have E:∀z,r.lookup y=some z->False:=λ z e=>s.1 (At.mpr ⟨(y,z),mem_of_lookup e,rfl⟩);unfold cellsFrom;by_cases q:x=y
  ·subst q;rw[An];by_cases A:k=.cell
   ·subst A;simp only[DG,A0];refine⟨λ e=>absurd rfl e,λ _=>?_⟩;rw[(w (n+1) ((x,n)::o) s.2).1 (λ e=>E _ e),An];exact⟨n,rfl,Am _⟩
   ·have:(k==NameKind.cell)=false:=by simpa using A
    simp only[this,Aq,AS];exact⟨λ _=>(w n o s.2).1 (λ e=>E _ e),λ e=>absurd (by injection e) A⟩
  ·rw[Aj q];split
   ·obtain⟨H,N⟩:=w (n+1) ((y,n)::o) s.2;exact⟨λ e=>by rw[H e,Aj q],λ e=>let⟨c,a,b⟩:=N e;⟨c,a,∅⟩⟩
   ·exact w n o s.2
theorem OL:∀(o:List (Str×NameKind))(h:Heap)(s:List (Str×Addr)),(∀p∈s,p.2<h.objs.size)->
 (∀p∈cellsFrom h.objs.size o s,p∈s\/(h.objs.size<=p.2/\(pushCells h o).IsCell p.2 none))/\(∀p∈cellsFrom h.objs.size o s,p.2<(pushCells h o).objs.size):=by
 intro o;induction o with
 |nil=>intro h s z;exact⟨λ p w=>.inl w,z⟩
 |cons p r E=>
  intro h s z;obtain⟨y,k⟩:=p;unfold cellsFrom pushCells;split
  ·have A:(h.push {cls:=.type "cell",data:=.cell none}).objs.size=h.objs.size+1:=Bh ..;obtain⟨H,N⟩:=E (h.push {cls:=.type "cell",data:=.cell none}) ((y,h.objs.size)::s) (λ p w=>by
    rcases Ag.mp w with q |q
    ·subst q;rw[A];exact Eu _
    ·rw[A];exact GV (z p q))
   rw[A] at H N;refine⟨λ p w=>?_,N⟩;rcases H p w with q |⟨Q,O⟩
   ·rcases Ag.mp q with q |q
    ·subst q;exact .inr ⟨Am _,⟨_,C6 _ _ _ _ (Ar _ rfl),rfl⟩⟩
    ·exact .inl q
   ·exact .inr ⟨∅,O⟩
  ·exact E h s z
theorem Rp.aq (k:∀a∈Y,h.get? a=Option.none)(r:Rp W X h v d):Rp W (Y++X) h v d:=
 r.bc λ b _ e n _=>⟨e,λ q=>by
  rcases Au.mp q with q |q
  ·rw[k b q] at e;cases e
  ·exact n q⟩
theorem RpL.aq (k:∀a∈Y,h.get? a=Option.none)(r:RpL W X h c d):RpL W (Y++X) h c d:=
 r.bc λ b _ e n _=>⟨e,λ q=>by
  rcases Au.mp q with q |q
  ·rw[k b q] at e;cases e
  ·exact n q⟩
theorem Bg.aq (k:∀a∈Y,h.get? a=Option.none):∀{w:BL},Bg W Z X h v w->Bg W (Y++Z) (Y++X) h v w
 | .aa _,r=>Rp.aq k r
  | .al _,r=>r
  | .bl _ _,r=>⟨r.1,Rp.aq k r.2⟩
  | .own d,⟨a,e,m,z,r⟩=>⟨a,e,Au.mpr (.inr m),λ q=>by
   rcases Au.mp q with q |q
   ·obtain⟨o,A⟩:=r.alive;rw[k a q] at A;cases A
   ·exact z q,by
   cases d with
   |list H=>obtain⟨E,n,e,z,r⟩:=r;exact⟨E,n,e,z,r.aq k⟩
   |dict N=>obtain⟨s,e,y,z,q,r⟩:=r;exact⟨s,e,y,z,q,r.aq k⟩
   |_=>exact r.elim⟩
theorem Ff:∀{h:List (Str×NameKind)},
 (h.lookup x=some .local->(h.map λ y=>match y with |(n,k)=>if(k==NameKind.free&&z.scope.kind==ScopeKind.function&&z.kindOf n==some NameKind.cell)=true then(n,NameKind.cell) else(n,k)).lookup x=some .local)/\
 (h.lookup x=some .cell->(h.map λ y=>match y with |(n,k)=>if(k==NameKind.free&&z.scope.kind==ScopeKind.function&&z.kindOf n==some NameKind.cell)=true then(n,NameKind.cell) else(n,k)).lookup x=some .cell)/\
 (h.lookup x=some .globalImplicit->(h.map λ y=>match y with |(n,k)=>if(k==NameKind.free&&z.scope.kind==ScopeKind.function&&z.kindOf n==some NameKind.cell)=true then(n,NameKind.cell) else(n,k)).lookup x=some .globalImplicit)/\
 (h.lookup x=some .free->(h.map λ y=>match y with |(n,k)=>if(k==NameKind.free&&z.scope.kind==ScopeKind.function&&z.kindOf n==some NameKind.cell)=true then(n,NameKind.cell) else(n,k)).lookup x=some .free\/
   (h.map λ y=>match y with |(n,k)=>if(k==NameKind.free&&z.scope.kind==ScopeKind.function&&z.kindOf n==some NameKind.cell)=true then(n,NameKind.cell) else(n,k)).lookup x=some .cell):=by
 intro h;induction h with
 |nil=>simp
 |cons p r w=>
  obtain⟨y,k⟩:=p;rw[AL];by_cases q:x=y
  ·subst q;simp only[An,CH];split
   ·rename_i s;simp only[Ah,JB] at s;refine⟨λ e=>?_,λ e=>?_,λ e=>?_,λ e=>.inr An⟩<;>(rw[s.1.1] at e;cases e)
   ·refine⟨λ e=>?_,λ e=>?_,λ e=>?_,λ e=>.inl ?_⟩<;>(subst e;exact An)
  ·rw[Aj q];have e:∀o,List.lookup x ((match(y,k) with |(n,k)=>if(k==NameKind.free&&z.scope.kind==ScopeKind.function&&z.kindOf n==some NameKind.cell)=true then(n,NameKind.cell) else(n,k))::o)=List.lookup x o:=by
    intro o;dsimp only;split<;>exact Aj q
   rw[e];exact w
def Jw:Obj:={cls:=.type "dict",data:=.dict #[]}
theorem N7:∀(o:List (Str×NameKind))(s:List (Str×Addr)),(∀p∈o,p.2=.free->(z.cells.lookup p.1).isSome=true)->(∀p∈s,z.cells.lookup p.1=some p.2)->∀p∈E7 z o s,z.cells.lookup p.1=some p.2:=by
 intro o;induction o with
 |nil=>intro s _ h;exact h
 |cons p r E=>
  intro s H h;obtain⟨y,k⟩:=p;have N:∀p∈r,p.2=.free->(z.cells.lookup p.1).isSome=true:=λ p w=>H p (Ad _ w);unfold E7;split
  ·rename_i A;have A:k=.free:=by simpa using A
   obtain⟨c,O⟩:=BS.mp (H (y,k) Ac A);refine E _ N λ p w=>?_;rcases Ag.mp w with q |q
   ·subst q;simp only at O ⊢;rw[O];rfl
   ·exact h p q
  ·exact E s N h
theorem OM:∀(h:List (Str×NameKind))(n:Nat)(o:List (Str×Addr)),cellsFrom n h o=cellsFrom n h []++o:=by
 intro h;induction h with
 |nil=>intro n o;rfl
 |cons p r s=>
  intro n o;obtain⟨y,k⟩:=p;unfold cellsFrom;split
  ·rw[s (n+1) ((y,n)::o),s (n+1) [(y,n)]];simp
  ·exact s n o
theorem Hi {c:Type}:∀{a b:List (Str×c)},(a++b).lookup x=(a.lookup x).or (b.lookup x)
 |[],b=>(_)
  |(y,v)::a,b=>by
   by_cases q:x=y
   ·subst q;rw[FR,An,An];rfl
   ·rw[FR,Aj q,Aj q];exact Hi
theorem Rr (F:FI W V z Z X s.heap O)(R:A8 W W.h0 s.heap)(M:Cd V f=true){Q:Env->Shared->Prop}
 (hQ:∀(n:Env)(h':Heap)(Y:List Addr),FI W f {n with scope:=relabel f z} (Y++Z) (Y++X) h' (A3 f O)->(∀b o,s.heap.get? b=some o->h'.get? b=some o)->(∀a∈Y,s.heap.get? a=none)->
  (∀a,Ck f {n with scope:=relabel f z} a->a∈Y)->(∀a∈Ay {n with scope:=relabel f z},a∈Y\/a∈Ay z)->Q n #[s,h']):
 ∃cl,closureFor f z=pure cl/\wpAny W.M A (newFunctionEnv f z.globals cl [] z.qual none .none (some z)) Q E s:=by
 unfold Cd at M;rw[Ah,Ah] at M;obtain⟨⟨j,w⟩,a0⟩:=M;have j:f.kind=.function:=by simpa using j
 have w:(f.names.map (·.1)).Nodup:=E9 w
 have C:∀x k,(x,k)∈f.names->k=.free->V.names.lookup x=some .cell\/V.names.lookup x=some .free:=λ x k hm hk=>by
  have:=AJ.mp a0 (x,k) hm;subst hk;simpa using this
 have H:∀p∈f.names,p.2=.free->(z.cells.lookup p.1).isSome=true:=λ p N hk=>by
  obtain⟨c,ov,e,_⟩:=F.cell p.1 (C p.1 p.2 N hk);rw[e];rfl
 refine⟨E7 z f.names [],Hk H,?_⟩;have fresh:∀a,s.heap.objs.size<=a->s.heap.get? a=none:=λ a B=>by
  cases e:s.heap.get? a with
  |none=>rfl
  |some o=>exact absurd (AO e) (EM.mpr B)
 have t:=N7 (z:=z) f.names [] H (λ p N=>nomatch N);have u:∀p∈E7 z f.names [],p.2∈Z:=λ p N=>F.aw _ (Bq (t p N));have l:∀p∈E7 z f.names [],p.2<s.heap.objs.size:=λ p N=>by
  obtain⟨o,S⟩:=(F.alive _ (F.zx _ (u p N))).2;exact AO S
 simp only[newFunctionEnv,Option.isSome_some,A0];refine Aa (MG ?_);refine Aa (wpAny_layCells _ (λ name a1 a2=>by cases a3:a1==NameKind.cell<;>simp[a3]) _ _ _ _ ?_);have U:(s.heap.push Jw).objs.size=s.heap.objs.size+1:=Bh ..;rw[show({s with heap:=s.heap.push {cls:=.type "dict",data:=.dict #[]}}:Shared).heap.objs.size=s.heap.objs.size+1 from Bh ..];refine Aa (Af (Af ?_));have G:cellsFrom (s.heap.objs.size+1) f.names (E7 z f.names [])=cellsFrom (s.heap.push Jw).objs.size f.names (E7 z f.names []):=by rw[U]
 obtain⟨g,a4⟩:=OL f.names (s.heap.push Jw) (E7 z f.names []) (λ p N=>by rw[U];exact GV (l p N));rw[<-G] at g a4;have kp:∀b o,s.heap.get? b=some o->(pushCells (s.heap.push Jw) f.names).get? b=some o:=λ b o e=>C6 _ _ _ _ (Ai _ e);have KP:A8 W s.heap (pushCells (s.heap.push Jw) f.names):=.ad kp;have hY:∀a∈s.heap.objs.size::((cellsFrom (s.heap.objs.size+1) f.names (E7 z f.names [])).map (·.2)).filter (λ a=>decide (s.heap.objs.size<=a)),s.heap.get? a=none:=λ a B=>by
  rcases Ag.mp B with q |q
  ·exact fresh a (by rw[q];exact Am _)
  ·exact fresh a (E9 (AU.mp q).2)
 have T:∀p∈cellsFrom (s.heap.objs.size+1) f.names (E7 z f.names []),s.heap.objs.size<=p.2->p.2∈s.heap.objs.size::((cellsFrom (s.heap.objs.size+1) f.names (E7 z f.names [])).map (·.2)).filter (λ a=>decide (s.heap.objs.size<=a)):=
  λ p N m=>Ad _ (AU.mpr ⟨At.mpr ⟨p,N,rfl⟩,Bv m⟩)
 have D:∀x c,(cellsFrom (s.heap.objs.size+1) f.names (E7 z f.names [])).lookup x=some c->(f.names.lookup x=some .cell/\s.heap.objs.size+1<=c)\/(f.names.lookup x=some .free/\z.cells.lookup x=some c):=λ x c e=>by
  obtain⟨i1,i2⟩:=Cp x f.names (s.heap.objs.size+1) (E7 z f.names []) w;by_cases hc:f.names.lookup x=some .cell
  ·obtain⟨c',e',m⟩:=i2 hc;rw[e] at e';cases e';exact .inl ⟨hc,m⟩
  ·rw[i1 hc,Jh x f.names [] w H] at e;split at e
   ·rename_i I;exact .inr ⟨I,e⟩
   ·cases e
 refine hQ _ _ _ ?_ kp hY ?_ ?_
 ·exact{
   aw:=λ a B=>by
    rcases Ag.mp B with q |q
    ·subst q;exact Au.mpr (.inl Ac)
    ·obtain⟨p,N,rfl⟩:=At.mp q;rcases g p N with q |⟨q,_⟩
     ·exact Au.mpr (.inr (u p q))
     ·exact Au.mpr (.inl (T p N (by rw[U] at q;omega)))
   zx:=λ a B=>by
    rcases Au.mp B with q |q
    ·exact Au.mpr (.inl q)
    ·exact Au.mpr (.inr (F.zx a q))
   kind:=j
   br:=F.br
   bx:=F.bx
   dy:=λ x h=>Ff.1 h
   cu:=λ x h=>Ff.2.1 h
   di:=λ x h=>Ff.2.2.2 h
   dr:=λ x h=>Ff.2.2.1 h
   ns:=⟨λ _=>none,(Heap.Ns.new s.heap (.type "dict")).keeps (C6 _ _),λ x sl hl e=>by
    rw[Ee] at e;split at e
    ·rename_i I;rw[hl] at I;cases I
    ·cases e⟩
   cell:=λ x h=>by
    rcases h with h |h
    ·obtain⟨c,e,m⟩:=(Cp x f.names (s.heap.objs.size+1) (E7 z f.names []) w).2 h;refine⟨c,none,e,?_,λ sl q=>?_⟩
     ·rcases g _ (mem_of_lookup e) with q |⟨_,q⟩
      ·exact absurd (l _ q) (EM.mpr (Ab (A6 _) m))
      ·exact q
     ·rw[Ee] at q;split at q
      ·rename_i I;rw[h] at I;cases I
      ·cases q
    ·obtain⟨c,ov,e,i,hv⟩:=F.cell x (C x _ (mem_of_lookup h) rfl);refine⟨c,ov,?_,i.keeps kp,λ sl q=>?_⟩
     ·show(cellsFrom (s.heap.objs.size+1) f.names (E7 z f.names [])).lookup x=some c;rw[(Cp x f.names (s.heap.objs.size+1) (E7 z f.names []) w).1 (by rw[h];simp),Jh x f.names [] w H,Ap h,e]
     ·rw[Ee,Ap h] at q;obtain⟨v,e',r⟩:=hv sl q;exact⟨v,e',(r.aq hY).ac KP⟩
   inj:=λ x y c h hy=>by
    rcases D x c h with⟨kx,lx⟩ |⟨kx,ex⟩<;>rcases D y c hy with⟨ky,ly⟩ |⟨ky,ey⟩
    ·have ok:=cellsFrom_ok f.names (s.heap.push Jw) (s.heap.objs.size+1) [] ⟨λ _ _ hm=>(nomatch hm),List.Pairwise.nil⟩ (by rw[U];exact Am _);rw[U] at ok;have J:(cellsFrom (s.heap.objs.size+1) f.names (E7 z f.names [])).lookup x=some c:=h;have L:(cellsFrom (s.heap.objs.size+1) f.names (E7 z f.names [])).lookup y=some c:=hy;rw[OM,Hi] at J L;obtain⟨c1,e1,_⟩:=(Cp x f.names (s.heap.objs.size+1) [] w).2 kx;obtain⟨c2,e2,_⟩:=(Cp y f.names (s.heap.objs.size+1) [] w).2 ky;rw[e1] at J;rw[e2] at L;simp at J L;subst J;subst L;exact name_of_addr ok.apart (mem_of_lookup e1) (mem_of_lookup e2)
    ·obtain⟨o,S⟩:=(F.alive _ (F.zx _ (F.aw _ (Bq ey)))).2;exact absurd (AO S) (EM.mpr (Ab (A6 _) lx))
    ·obtain⟨o,S⟩:=(F.alive _ (F.zx _ (F.aw _ (Bq ex)))).2;exact absurd (AO S) (EM.mpr (Ab (A6 _) ly))
    ·exact F.inj x y c ex ey
   dk:=λ x sl q=>by
    rw[Ee] at q;split at q
    ·rename_i I;exact⟨.inr (.inr I),(F.dk x sl q).2⟩
    ·cases q
   alive:=λ a B=>by
    rcases Au.mp B with q |q
    ·refine⟨Dx R (hY a q),?_⟩;rcases Ag.mp q with q |q
     ·subst q;exact⟨_,C6 _ _ _ _ (Ar _ rfl)⟩
     ·obtain⟨q1,q2⟩:=AU.mp q;obtain⟨p,N,rfl⟩:=At.mp q1;rcases g p N with q |⟨_,o,S,_⟩
      ·have:=l p q;have h3:=E9 q2;exact absurd this (EM.mpr h3)
      ·exact⟨o,S⟩
    ·exact⟨(F.alive a q).1,AP KP (F.alive a q).2⟩
   bu:=λ x y d e h1 h2=>by
    rw[Ee] at h1 h2;split at h1
    ·split at h2
     ·exact F.bu x y d e h1 h2
     ·cases h2
    ·cases h1}
 ·intro a B;rcases B with rfl |⟨x,h,e⟩
  ·exact Ac
  ·rcases D x a e with⟨_,m⟩ |⟨k,_⟩
   ·exact T (x,a) (mem_of_lookup e) (Ab (A6 _) m)
   ·rw[h] at k;cases k
 ·intro a B;rcases Ag.mp B with q |q
  ·subst q;exact .inl Ac
  ·obtain⟨p,N,rfl⟩:=At.mp q;rcases g p N with q |⟨q,_⟩
   ·exact .inr (Bq (t p q))
   ·exact .inl (T p N (by rw[U] at q;omega))
section
theorem IK.ag (w:∀a∈b,a∈X)(E:IK W X h I d):IK W b h I d:=by
 cases E with
 |@list H N n k o s z A=>exact .list k o (λ q=>s (w _ q)) z (A.ag w)
 |@ay H N n k o s z A=>exact .ay k o (λ q=>s (w _ q)) z (A.ag w)
 |@range a c n k o s=>exact .range k o s
theorem IK.aq (A:∀a∈Y,h.get? a=none)(O:IK W X h I b):IK W (Y++X) h I b:=by
 have N:∀{s:Addr}{o:Obj},h.get? s=some o->s∉X->s∉Y++X:=λ e n q=>by
  rcases Au.mp q with q |q
  ·rw[A _ q] at e;cases e
  ·exact n q
 cases O with
 |@list s Q n w k z E H=>exact .list w k (N k z) E (H.aq A)
 |@ay s Q n w k z E H=>exact .ay w k (N k z) E (H.aq A)
 |@range a c n w k z=>exact .range w k z
theorem FI.congr (F:FI W V z Z X h O)(H:∀a,a∈g↔a∈Z)(s:∀a,a∈f↔a∈X):FI W V z g f h O:=by
 have j:∀{v d},Rp W X h v d->Rp W f h v d:=λ r=>r.ag λ a w=>(s a).mp w;have A:∀{v d},RpL W X h v d->RpL W f h v d:=λ r=>r.ag λ a w=>(s a).mp w;have k:∀{v o},Bg W Z X h v o->Bg W g f h v o:=λ{v o} r=>by
  cases o with
  |al u=>exact r
  |bl u d=>exact⟨r.1,j r.2⟩
  |aa d=>exact j r
  |own d=>
   obtain⟨a,e,m,E,r⟩:=r;refine⟨a,e,(s a).mpr m,λ q=>E ((H a).mp q),?_⟩;cases d with
   |list C=>obtain⟨l,n,e,E,r⟩:=r;exact⟨l,n,e,E,A r⟩
   |dict D=>obtain⟨N,e,y,E,q,r⟩:=r;exact⟨N,e,y,E,q,A r⟩
   |_=>exact r.elim
 exact{F with
  aw:=λ a w=>(H a).mpr (F.aw a w)
  zx:=λ a w=>(s a).mpr (F.zx a ((H a).mp w))
  ns:=by
   obtain⟨m,p,Q⟩:=F.ns;exact⟨m,p,λ x o a b=>let⟨v,e,r⟩:=Q x o a b;⟨v,e,k r⟩⟩
  cell:=λ x s=>let⟨c,t,e,i,Q⟩:=F.cell x s;⟨c,t,e,i,λ o q=>let⟨v,e,r⟩:=Q o q;⟨v,e,k r⟩⟩
  alive:=λ b B=>F.alive b ((s b).mp B)}
theorem Ka (e9:∀a5,Yo W A c a5 J i j)(hh:A.handled=none)
 (ce:PG e (g::y) f)
 {n:Type} {Acc:Addr->List Addr->Heap->List n->Prop} (ak:∀D,V2 D (Acc D)) (a3:AC->Option n) (f0:oN.isFreed=false)
 (c6:∀(s:Shared)(Q:JD)(E:JD),Q (.ref s.heap.objs.size) #[s,s.heap.push oN]->wpAny W.M A newAcc Q E s) (b8:∀D X h,h.get? D=some oN->Acc D X h [])
 (b9:∀D a5 O b,a3 O=some b->∀(Z X:List Addr)(s:Shared)(ds:List n)(Q:Unit->Shared->Prop)(E:JD),FI W c a5 Z X s.heap O->Gd W s->D∈X->Acc D X s.heap ds->ds.length+1<=Bi->
  (∀L k tk,A8 W s.heap L->Heap.SameBut D L k->(∃o,L.get? D=some o/\Db o)->(∃o,k.get? D=some o)->s.toks<=tk->Acc D X k (ds++[b])->Q () #[s,k,tk])->wpAny W.M A (f (.ref D) a5) Q E s)
  {t:List n} (a1:Cd V c=true) (a9:Cc c i j a3 (g::y) (A3 c O) u=some t) (f1:t.length<=Bi)
 (F:FI W V z Z X s.heap O) (G:Gd W s) (c0:∀v,foldedSetIterable g.iter z v=pure v) (f2:BR W A (eval g.iter z) s λ v h'=>V4 W X h' v u)
 (hQ:∀(D C:Addr)(h':Heap)(tk:Nat)(m:Str->Option Value),s.heap.get? D=none->s.heap.get? C=none->D≠C->D∉X->A8 W s.heap h'->s.toks<=tk->h'.Ns C m->Acc D (C::X) h' t->
  compPost W.M A E d Q (.ref D) C (.ok .next) #[s,h',tk]):
 wpAny W.M A (comprehension e c z B newAcc false (eval g.iter z) d) Q E s:=by
 have c7:g.is_async=0:=by
  rw[Cc] at a9;split at a9
  ·rename_i hc;exact hc.1
  ·cases a9
 have c1:c.kind=.function:=by
  unfold Cd at a1;rw[Ah,Ah] at a1;simpa using a1.1.1
 have f3:(c.names.map (·.1)).Nodup:=by
  unfold Cd at a1;rw[Ah,Ah] at a1;exact E9 a1.1.2
 have b0:∀x∈c.names,x.2=.local->c.names.lookup x.1=some .local:=by
  intro x hx hl;have f4:∀(l:List (Str×NameKind)),(l.map (·.1)).Nodup->x∈l->l.lookup x.1=some x.2:=by
   intro l;induction l with
   |nil=>intro _ h;cases h
   |cons p r ih=>
    intro hn hm;rw[AL,CN] at hn;rcases Ag.mp hm with q |q
    ·subst q;exact An
    ·have:x.1≠p.1:=λ e=>hn.1 (e▸At.mpr ⟨x,q,rfl⟩);rw[Aj this];exact ih hn.2 q
  rw[f4 _ f3 hx,hl]
 obtain⟨cl,c8,_⟩:=Rr (A:=A) (E:=E) (Q:=λ _ _=>True) F G.am a1 (λ _ _ _ _ _ _ _ _=>trivial);refine wpAny_comprehension_free ce.db c0 c8 c1 b0 ?_;refine f2 _ _ λ x L N R b1 f5=>?_;refine Eo (s:=#[s,L,N]) f5 λ I k hI c2 a6 c9=>?_;have S:A8 W L k:=.ad a6;have T:=F.ac R;have b2:=G.am.trans R;have d0:I∉X:=λ q=>by
  obtain⟨o,ho⟩:=(T.alive I q).2;rw[hI] at ho;cases ho
 have d1:=T.fresh b2 S hI c2;have b3:=b2.trans S;have U:∀{a:Addr}{h':Heap},A8 W s.heap h'->h'.get? a=none->s.heap.get? a=none:=λ{a h'} e9 e=>by
  cases q:s.heap.get? a with
  |none=>rfl
  |some o=>
   obtain⟨o',d2⟩:=AP e9 ⟨o,q⟩;rw[e] at d2;cases d2
 refine c6 _ _ _ ?_;show wpAny W.M A (newFunctionEnv c z.globals cl [] z.qual none .none (some z)) _ E #[s,k.push oN,N];generalize a7:k.push oN=H;have hD:k.get? k.objs.size=none:=by
  cases e:k.get? k.objs.size with
  |none=>rfl
  |some o=>exact absurd (AO e) (D9 _)
 have a4:H.get? k.objs.size=some oN:=by rw[<-a7];exact Ar _ f0
 have a8:∀b o,k.get? b=some o->H.get? b=some o:=λ b o e=>by rw[<-a7];exact Ai _ e
 have a2:A8 W k H:=.ad a8;have d3:=d1.fresh b3 a2 hD ⟨_,a4⟩;have d4:=b3.trans a2;show wpAny W.M A (newFunctionEnv c z.globals cl [] z.qual none .none (some z)) _ E #[s,H,N]
 suffices f6:∀(w:Env)(h':Heap)(Y:List Addr),FI W c {w with scope:=relabel c z} (Y++k.objs.size::I::Z) (Y++k.objs.size::I::X) h' (A3 c O)->(∀b o,H.get? b=some o->h'.get? b=some o)->(∀a∈Y,H.get? a=none)->
  (∀a,Ck c {w with scope:=relabel c z} a->a∈Y)->(∀a∈Ay {w with scope:=relabel c z},a∈Y\/a∈Ay z)->
  codeAny W.M A (.compStart e 0 (.ref I) (.ref k.objs.size) {w with scope:=relabel c z}) (compPost W.M A E d Q (.ref k.objs.size) w.locals) #[s,h',N] by
  obtain⟨d5,d6,hw⟩:=Rr (A:=A) (E:=E) (s:=#[s,H,N])
   (Q:=λ w d7=>codeAny W.M A (.compStart e 0 (.ref I) (.ref k.objs.size) {w with scope:=relabel c z}) (compPost W.M A E d Q (.ref k.objs.size) w.locals) d7) d3 d4 a1 f6
  have:d5=cl:=by
   have e:(Sem.pure d5:Sem (List (Str×Addr)))=Sem.pure cl:=d6.symm.trans c8;exact Sem.pure.inj e
  rw[<-this];exact hw
 intro w M Y d8 a0 hY d9 e0;have a0:∀b o,H.get? b=some o->M.get? b=some o:=a0;have b4:A8 W H M:=.ad a0;have e1:A8 W s.heap M:=R.trans (S.trans (a2.trans b4));have k3:A8 W s.heap H:=R.trans (S.trans a2);have e2:k.objs.size≠I:=λ q=>by
  obtain⟨o,ho⟩:=c2;rw[<-q] at ho;rw[hD] at ho;cases ho
 have e3:I∉Y:=λ q=>by
  obtain⟨o,ho⟩:=c2;have:=hY I q;have h3:=a8 _ _ ho;rw[h3] at this;cases this
 have e4:k.objs.size∉Y:=λ q=>by
  have:=hY _ q;rw[a4] at this;cases this
 have f7:k.objs.size∉X:=λ q=>by
  obtain⟨o,ho⟩:=((T.ac S).alive _ q).2;rw[hD] at ho;cases ho
 have c3:FI W c {w with scope:=relabel c z} (I::(Y++k.objs.size::Z)) (I::(Y++k.objs.size::X)) M (A3 c O):=d8.congr (λ a=>by simp[Au,Ag];grind) (λ a=>by simp[Au,Ag];grind);have c4:IK W (I::(Y++k.objs.size::X)) M I u:=by
  have i1:=((c9 d0).au hD).ac a2;have i2:=(i1.aq (Y:=Y) hY).ac b4;exact i2.ag λ a ha=>by simp[Au,Ag] at ha ⊢;grind
 obtain⟨St,st,b5⟩:=LJ.of (A:=A) c4 Ac hh;have b6:∀a∈Ay z,∃o,L.get? a=some o:=λ a ha=>(T.alive a (T.zx a (T.aw a ha))).2;have f8:I∉Ay {w with scope:=relabel c z}:=λ q=>by
  rcases e0 I q with q |q
  ·exact e3 q
  ·obtain⟨o,ho⟩:=b6 I q;rw[hI] at ho;cases ho
 have f9:k.objs.size∉Ay {w with scope:=relabel c z}:=λ q=>by
  rcases e0 _ q with q |q
  ·exact e4 q
  ·obtain⟨o,ho⟩:=b6 _ q;rw[a6 _ _ ho] at hD;cases hD
 have e5:∀a∈Y,s.heap.get? a=none:=λ a ha=>U k3 (hY a ha);have e6:s.heap.get? k.objs.size=none:=U (R.trans S) hD;have g0:s.heap.get? I=none:=U R hI;have e7:I∉Y++k.objs.size::X:=λ q=>by
  rcases Au.mp q with q |q
  ·exact e3 q
  ·rcases Ag.mp q with q |q
   ·exact e2 q.symm
   ·exact d0 q
 have c5:w.locals∈Y:=d9 _ (.inl rfl);have b7:codeAny W.M A (.compLoop e 0 (.ref I) (.ref k.objs.size) {w with scope:=relabel c z}) (compPost W.M A E d Q (.ref k.objs.size) w.locals) #[s,M,N]:=by
  refine QB (e9 {w with scope:=relabel c z}) hh ce (ak k.objs.size) a3 G.am G.ea e6 (λ a ha=>e5 a (d9 a ha)) f9 (b9 _ _) y g 0 rfl (A3 c O) u t a9 (Y++k.objs.size::Z) (Y++k.objs.size::X) #[s,M,N] I St [] _
   (_) (λ a ha=>?_) e7 f8 (λ q=>e2 q.symm) g0 b5 st c3 e1 (Ab G.toks b1) (b8 _ _ _ (a0 _ _ a4)) (by simpa using f1) ?_
  ·rcases Au.mp ha with q |q
   ·exact Au.mpr (.inl q)
   ·rcases Ag.mp q with q |q
    ·subst q;simp
    ·exact Au.mpr (.inr (Ad _ (F.zx a q)))
  ·intro h' tk F' e8 l' g1 _;obtain⟨m,hn,_⟩:=F'.ns;refine hQ k.objs.size w.locals h' tk m e6 (e5 _ c5) (λ q=>e4 (q▸c5)) f7 e8 (Ab b1 l') hn ?_;refine(ak k.objs.size).bc (by simpa using g1) (λ b o e nb _=>⟨e,λ q=>nb ?_⟩) λ _ e=>e;rcases Ag.mp q with q |q
   ·subst q;exact Au.mpr (.inl c5)
   ·exact Au.mpr (.inr (Ad _ q))
 exact JQ ce rfl c7 b7 (b5.self 0 _ _ _ st b7)
end
def DZ (h:List (Str×PV))(k:Str)(d:PV):List (Str×PV):=
 if h.any (λ e=>e.1=k) then h.map (λ e=>if e.1=k then(e.1,d) else e) else h++[(k,d)]
def OJ (l:List (Str×PV)):List (Str×PV):=l.foldl (λ h p=>DZ h p.1 p.2) []
def fZ (o:BH)(D:Addr)(X:List Addr)(h:Heap)(l:List PV):Prop:=∃k n,h.get? D=some (Fz k n)/\RpL o X h k.toList l
def gA (k:BH)(D:Addr)(X:List Addr)(o:Heap)(l:List (Str×PV)):Prop:=
 ∃h,o.DictOf k.K D h/\h.map (·.1)=(OJ l).map (·.1)/\RpL k X o (h.map (·.2)) ((OJ l).map (·.2))
section
theorem hW (D:Addr):V2 D (fZ W D) where
 bc:=λ⟨h,n,e,r⟩ k hd=>⟨h,n,hd _ e,r.bc k⟩
 obj:=λ⟨h,n,e,r⟩=>⟨_,e,.inl rfl⟩
theorem iA (D:Addr):V2 D (gA W D) where
 bc:=λ⟨h,e,q,r⟩ z hd=>⟨h,let⟨o,s,w,k,x⟩:=e;⟨o,s,w,hd _ k,x⟩,q,r.bc z⟩
 obj:=λ⟨h,e,q,r⟩=>let⟨o,s,w,k,A,_⟩:=e;⟨o,k,.inr (.inr A.1)⟩
theorem Vp (h:List (Str×PV))(k:Str)(d:PV):(h.map λ e=>if e.1=k then(e.1,d) else e).map (·.1)=h.map (·.1):=by
 induction h with
 |nil=>rfl
 |cons e h o=>
  simp only[AL,o];by_cases q:e.1=k<;>simp[q]
theorem UJ (E:Rp W X h v d):∀(k:List (Str×Value))(o:List (Str×PV)),k.map (·.1)=o.map (·.1)->RpL W X h (k.map (·.2)) (o.map (·.2))->
 RpL W X h ((k.map λ w=>if w.1=a then(w.1,v) else w).map (·.2)) ((o.map λ e=>if e.1=a then(e.1,d) else e).map (·.2)):=by
 intro k;induction k with
 |nil=>
  intro o s r;cases o with
  |nil=>exact .nil
  |cons _ _=>simp at s
 |cons w k H=>
  intro o s r;cases o with
  |nil=>simp at s
  |cons e o=>
   simp only[AL,List.cons.injEq] at s r;cases r with
   |cons N O=>
    simp only[AL];refine .cons ?_ (H o s.2 O);by_cases q:e.1=a
    ·have A:w.1=a:=s.1.trans q;simpa[q,A] using E
    ·have A:¬w.1=a:=λ z=>q (s.1.symm.trans z);simpa[q,A] using N
theorem La {k:Str}(s:a.map (·.1)=b.map (·.1))(r:RpL W X h (a.map (·.2)) (b.map (·.2)))(w:Rp W X h v d):
 (stored a k v).map (·.1)=(DZ b k d).map (·.1)/\RpL W X h ((stored a k v).map (·.2)) ((DZ b k d).map (·.2)):=by
 have o:(a.any λ z=>decide (z.1=k))=(b.any λ e=>decide (e.1=k)):=by
  have:=HE (W:=W) (X:=X) (h:=h) k s r;rw[<-this.1];rw[BE];simp
 unfold stored DZ;rw[o];split
 ·exact⟨by rw[keys_map_store,Vp,s],UJ w a b s r⟩
 ·rw[BV,BV,BV,BV];exact⟨by rw[s];rfl,r.append (.bt w)⟩
theorem FW (h:List (Str×PV))(k:Str)(d:PV):(DZ h k d).length<=h.length+1:=by
 unfold DZ;split<;>simp
theorem NY (l:List (Str×PV))(p:Str×PV):OJ (l++[p])=DZ (OJ l) p.1 p.2:=by simp[OJ]
theorem NX (l:List (Str×PV)):(OJ l).length<=l.length:=by
 have k:∀(l h:List (Str×PV)),(l.foldl (λ h p=>DZ h p.1 p.2) h).length<=h.length+l.length:=by
  intro l;induction l with
  |nil=>intro h;simp
  |cons p l o=>intro h;have:=o (DZ h p.1 p.2);have:=FW h p.1 p.2;simp only[E0,Cr];omega
 have:=k l [];simpa[OJ] using this
def GE:PV->Option Str
 | .str s=>some s
 |_=>none
theorem Gu (a4:∀k,Yo W A a k d f i)(hh:A.handled=none)
 (a0:Cd V a=true) (a1:Cc a f i (λ O=>d O c) (g::t) (A3 a O) xs=some rs) (M:rs.length<=Bi)
 (F:FI W V z Z X s.heap O) (G:Gd W s) (B:∀v,foldedSetIterable g.iter z v=pure v) (a2:BR W A (eval g.iter z) s λ v x=>V4 W X x v xs)
 (hQ:∀(D C:Addr)(x:Heap)(tk:Nat)(m:Str->Option Value),s.heap.get? D=none->s.heap.get? C=none->D≠C->A8 W s.heap x->s.toks<=tk->x.Ns C m->Rp W (C::X) x (.ref D) (.list rs)->
  compPost W.M A E j Q (.ref D) C (.ok .next) #[s,x,tk]):
 wpAny W.M A (comprehension (.ListComp c (g::t) a p) a z u (newList []) false (eval g.iter z) j) Q E s:=by
 refine Ka a4 hh (N2 c (g::t) a p) (Acc:=fZ W) hW (λ O=>d O c) (newAcc:=newList []) (oN:=Fz #[] 0) rfl (λ s Q E hq=>Bj hq) (λ D X h e=>⟨#[],0,e,.nil⟩) ?_ a0 a1 M F G B a2 ?_
 ·intro D k O b hb Z X s ds Q E F G I R M hk;obtain⟨vs,n,hD,hr⟩:=R;unfold NP;refine Aa ((a4 k).ev O c b hb Z X s F G _ _ λ v y J o S rv=>?_);have w:y.get? D=some (Fz vs n):=o.keep hD (_) (_);have L:=hr.length;simp at L;refine Aa (Io w ∅ λ T U H N=>Af ?_);refine hk y T J o N ⟨_,w,.inl rfl⟩ ⟨_,H⟩ S ⟨_,U,H,?_⟩;have:=((hr.ac o).append (RpL.bt rv)).az N I;simpa using this
 ·intro D C x tk m hD hC Y I a3 l hn ⟨vs,n,e,r⟩;have L:=r.length;simp at L;refine hQ D C x tk m hD hC Y a3 l hn (.list e (λ q=>?_) ∅ r);rcases Ag.mp q with q |q
  ·exact Y q
  ·exact I q
theorem KR (a9:∀H,Yo W A c H d f i)(hh:A.handled=none)
 (b0:Cd V c=true)
 (b1:Cc c f i (λ O=>(d O j).bind λ k=>(GE k).bind λ k=>(d O n).map λ v=>(k,v)) (g::y) (A3 c O) I=some p) (a0:p.length<=Bi)
 (F:FI W V z Z X s.heap O) (G:Gd W s) (T:∀v,foldedSetIterable g.iter z v=pure v) (b2:BR W A (eval g.iter z) s λ v R=>V4 W X R v I)
 (a1:∀a,s.heap.get? a=none->(a==sysModules)=false)
 (hQ:∀(D C:Addr)(R:Heap)(tk:Nat)(m:Str->Option Value),s.heap.get? D=none->s.heap.get? C=none->D≠C->A8 W s.heap R->s.toks<=tk->R.Ns C m->Rp W (C::X) R (.ref D) (.dict (OJ p))->
  compPost W.M A E u Q (.ref D) C (.ok .next) #[s,R,tk]):
 wpAny W.M A (comprehension (.DictComp j n (g::y) c x) c z B newDict false (eval g.iter z) u) Q E s:=by
 refine Ka a9 hh (Tn j n (g::y) c x) (Acc:=gA W) iA (λ O=>(d O j).bind λ k=>(GE k).bind λ k=>(d O n).map λ v=>(k,v)) (newAcc:=newDict) (oN:={cls:=.type "dict",data:=.dict #[]}) rfl
  (λ s Q E hq=>Bj hq) (λ D X h e=>⟨[],⟨_,#[],0,e,⟨rfl,rfl,rfl⟩,rfl,λ _ he=>by simp at he,Pairs.nil,List.nodup_nil⟩,rfl,.nil⟩) ?_ b0 b1 a0 F G T b2 ?_
 ·intro D H O b hb Z X s ds Q E F G U a2 a0 hk;obtain⟨M,hD,hq,hr⟩:=a2;obtain⟨kd,b3,hb⟩:=Ae.mp hb;obtain⟨ks,a3,hb⟩:=Ae.mp hb;obtain⟨vd,b4,rfl⟩:=As.mp hb;have:kd=.str ks:=by cases kd<;>simp[GE] at a3;subst a3;rfl
  subst this;unfold Sd;refine Aa ((a9 H).ev O j _ b3 Z X s F G _ _ λ v a4 Y w S rk=>?_);refine Aa (AF ((a9 H).ev O n vd b4 Z X #[s,a4,Y] (F.ac w) (G.step w S) _ _ λ v2 N b5 J a5 rv=>?_));cases rk with
  |str _ t _ _=>
   have L:N.DictOf W.K D M:=Jf hD λ o ho hc=>(w.trans J).keep ho (by rw[hc];simp) (by rw[hc];simp);have b6:M.length=(OJ ds).length:=by simpa using Cb List.length hq
   have hb:=Ei;have b7:=NX ds;refine Aa (AI (AF (wpAny_dictSet_pairs (knd:=W.K) (k:=ks) (by simp[BH.K,_root_.PySem.strKind,Value.isStrOf]) L (λ a6 hm hs=>?_) ∅)));obtain⟨e1,e2⟩:=La (W:=W) (X:=X) (h:=N) (k:=ks) hq (hr.ac (w.trans J)) rv;obtain⟨o2,c4,c5,b8,b9,c0⟩:=id L;obtain⟨o3,c6,c7,c1,c8,c2⟩:=id hm;refine hk N a6 _ (w.trans J) hs ⟨o2,b8,.inr (.inr b9.1)⟩ ⟨o3,c1⟩ (BD (Ab S a5)) ⟨_,hm,?_,?_⟩
   ·rw[NY];exact e1
   ·rw[NY];exact e2.az hs U
 ·intro D C R tk m hD hC a7 U c3 l hn ⟨M,e,q,r⟩;have b6:M.length=(OJ p).length:=by simpa using Cb List.length q
  have b7:=NX p;refine hQ D C R tk m hD hC a7 c3 l hn (.dict e (λ a8=>?_) (a1 D hD) ∅ q r);rcases Ag.mp a8 with a8 |a8
  ·exact a7 a8
  ·exact U a8
theorem O7 (V:s.heap.get? C=none)(w:A8 W s.heap H)(l:s.toks<=b)(N:H.Ns C m)(r:Rp W (C::X) H (.ref D) d)
 (Z:∀v H b,A8 W s.heap H->s.toks<=b->Rp W X H v d->Q v #[s,H,b]):compPost W.M A E none Q (.ref D) C (.ok .next) #[s,H,b]:=by
 refine⟨m,N,λ z O=>Z _ z b (w.az V (λ o f c hd=>?_) O) l ((r.az O Ac).ag λ a e=>Ad _ e)⟩;obtain⟨g,i,j,h,k,_⟩:=N;rw[c] at h;cases h;rw[hd] at k;cases k
end
inductive BF where
 |len |sum |max |min |sorted |str |int |list
 deriving DecidableEq
def BF.name:BF->Str
 | .len=>"len" | .sum=>"sum" | .max=>"max" | .min=>"min" | .sorted=>"sorted" | .str=>"str" | .int=>"int" | .list=>"list"
def BF.val:BF->Value
 | .len=>.builtin "len" | .sum=>.builtin "sum" | .max=>.builtin "max" | .min=>.builtin "min" | .sorted=>.builtin "sorted" | .str=>.type "str" | .int=>.type "int" | .list=>.type "list"
variable {i:Nat} in
def aJ:PV->Option Int
 | .int i=>some i
 |_=>none
def Fi (l:List PV):Option (List Int):=l.mapM aJ
def DN (l:List PV):Option (List Str):=l.mapM GE
theorem RK (h:Fi (d::l)=some a):∃i r,d=.int i/\Fi l=some r/\a=i::r:=by
 unfold Fi at h;rw[GZ] at h;obtain⟨b,o,h⟩:=Ae.mp h;obtain⟨s,k,h⟩:=Ae.mp h;cases h;cases d<;>simp[aJ] at o;subst o;exact⟨_,_,rfl,k,rfl⟩
theorem LS (h:DN (d::l)=some a):∃i r,d=.str i/\DN l=some r/\a=i::r:=by
 unfold DN at h;rw[GZ] at h;obtain⟨b,o,h⟩:=Ae.mp h;obtain⟨s,k,h⟩:=Ae.mp h;cases h;cases d<;>simp[GE] at o;subst o;exact⟨_,_,rfl,k,rfl⟩
def Wq (l:List Int):List Int:=l.mergeSort (λ a b=>decide (a<=b))
variable {a:Addr}{r:List Stmt} in
def Mu:List Int->Option Int
 |[]=>none
 |a::r=>some (r.foldl max a)
theorem RpL.ek:∀{k:List PV}{s:List Value}{o:List Int},RpL W X h s k->Fi k=some o->IntsAre s o
 |[],_,_,.nil,e=>by cases e;exact .nil
  |d::k,_,o,.cons r w,e=>by
   obtain⟨i,A,rfl,z,rfl⟩:=RK e;cases r;exact .cons _ _ (RpL.ek w z)
theorem RpL.cy:∀{k:List Value}{o:List Int},IntsAre k o->RpL W X h k (o.map .int)
 |_,_,.nil=>.nil
  |_,_,.cons n t r=>.cons (.int n t) (RpL.cy r)
theorem RpL.ef:∀{k:List PV}{s:List Value}{o:List Str},RpL W X h s k->DN k=some o->StrsAre s o
 |[],_,_,.nil,e=>by cases e;exact .nil
  |d::k,_,o,.cons r w,e=>by
   obtain⟨i,A,rfl,z,rfl⟩:=LS e;cases r;exact .cons _ _ (RpL.ef w z)
theorem O0:∀{h:List PV}{k:List Str},DN h=some k->h=k.map .str
 |[],_,e=>by cases e;rfl
  |d::h,k,e=>by
   obtain⟨i,s,rfl,o,rfl⟩:=LS e;rw[O0 o];rfl
theorem RpL.du:∀{o:List Str}{s:List Value},RpL W X h s (o.map .str)->∀x∈o,PyData.strOk x=true/\x.length<=Bi
 |[],_,.nil,x,k=>by cases k
  |n::o,_,.cons r w,x,k=>by
   cases r with |str _ t a b=>
   rcases Ag.mp k with rfl |k
   ·exact⟨a,b⟩
   ·exact RpL.du w x k
theorem RpL.cx:∀{s:List Value}{k:List Str},StrsAre s k->(∀x∈k,PyData.strOk x=true/\x.length<=Bi)->RpL W X h s (k.map .str)
 |_,_,.nil,_=>.nil
  |_,_,.cons n t r,o=>.cons (.str n t (o n Ac).1 (o n Ac).2) (RpL.cx r λ x w=>o x (Ad _ w))
theorem IY:∀{h:List Value}{k:List Str},StrsAre h k->∃l:List (Str×Tok),h=strValues l/\l.map (·.1)=k
 |_,_,.nil=>⟨[],rfl,rfl⟩
  |_,_,.cons n t r=>let⟨l,o,s⟩:=IY r;⟨(n,t)::l,by rw[o];rfl,by rw[<-s];rfl⟩
theorem Rd (h:List Int):preSum (λ i=>h.getD i 0) h.length=h.sum:=by
 have o:∀k,k<=h.length->preSum (λ i=>h.getD i 0) k=(h.take k).sum:=by
  intro k;induction k with
  |zero=>intro _;simp[preSum]
  |succ k s=>
   intro w;rw[preSum,s ∅,take_sum_succ _ _ ∅]
 rw[o _ (Am _),List.take_length]
theorem T7:∀{k:List Value}{o:List Int},IntsAre k o->∀{i:Nat}{v:Value},k[i]? =some v->∃t,v=.int (o.getD i 0) t
 |_,_,.nil,i,v,h=>by simp at h
  |_,_,.cons n t r,0,v,h=>by simp at h;subst h;exact⟨t,(_)⟩
  |_,_,.cons n t r,i+1,v,h=>by simp at h;simpa using T7 r h
theorem UQ (q:A.handled=none)(V:s.heap.get? a=some (Fz c n))(Z:IntsAre c.toList d)
 (r:∀t H u,A8 W s.heap H->Q (.int d.sum t) #[s,H,u]):wpAny W.M A (call (.builtin "sum") [.ref a]) Q E s:=by
 have f:s.heap.IsList a c:=⟨_,V,rfl,n,rfl⟩;refine call_sum_walkAnyS (wpAny_pyIter_list f ?_);have h:a<s.heap.objs.size:=AO V;have N:a≠s.heap.objs.size:=BU h;have x:=(Walks.list (prog:=W.prog) (w:=W.w) (A:=A.in1) q s.heap.objs.size a N c);have k:=Z.length;refine⟨_,_,_,_,_,_,_,λ i=>d.getD i 0,rfl,x.toS,⟨⟨_,Ar _ rfl,rfl,rfl⟩,f.push _⟩,λ b w=>?_,λ i v y=>T7 Z (by simpa using y),λ z B g=>?_⟩
 ·show b<(s.heap.push _).objs.size;rw[Bh];rcases Ag.mp w with rfl |w
  ·exact Eu _
  ·rcases Ag.mp w with rfl |w
   ·exact GV h
   ·cases w
 ·have e:z=#[s,z.heap,z.toks]:=by
   obtain⟨H,J,L,C,D⟩:=z;obtain⟨_,j,l,m,_⟩:=g;simp only at j l m;subst j l m;rfl
  have G:c.size=d.length:=by simpa using k
  rw[G,Rd,e];refine r B _ _ (.ad λ b o p=>g.heap b o (λ O=>?_) (Ai _ p));rcases Ag.mp O with I |O
  ·exact absurd (I▸AO p) (D9 _)
  ·cases O
theorem Jb:∀(l:List Int)(a:Int),(l.foldl max a∈a::l)/\∀b∈a::l,b<=l.foldl max a
 |[],a=>⟨(_),λ b k=>by simp at k;subst k;exact Kk _⟩
  |x::l,a=>by
   obtain⟨s,o⟩:=Jb l (max a x);simp only[E0];have w:=o (max a x) Ac;refine⟨?_,λ b k=>?_⟩
   ·rcases Ag.mp s with h |h
    ·rw[h];rcases Int.le_total a x with q |q
     ·rw[Int.max_eq_right q];simp
     ·rw[Int.max_eq_left q];simp
    ·exact Ad _ (Ad _ h)
   ·rcases Ag.mp k with rfl |k
    ·have:b<=max b x:=Gl ..;omega
    ·rcases Ag.mp k with rfl |k
     ·have:b<=max a b:=FT ..;omega
     ·exact o b (Ad _ k)
theorem SV (g:A.handled=none)(o:s.heap.get? a=some (Fz d n))(V:IntsAre d.toList c)(z:Mu c=some M)
 (l:∀t w H,A8 W s.heap w->Q (.int M t) #[s,w,H]):wpAny W.M A (call (.builtin "max") [.ref a]) Q E s:=by
 have Z:s.heap.IsList a d:=⟨_,o,rfl,n,rfl⟩;obtain⟨h,e⟩:=V.allInts.items;have k:c=h.toList.map (·.1):=by rw[<-V.numsOf,<-nums_intItems,<-e]
 have N:0<c.length:=by
  cases c with
  |nil=>simp[Mu] at z
  |cons _ _=>simp
 have O:0<h.size:=by
  have f:=N;rw[k,Ao,IP] at f;exact f
 have m:d=intItems h:=by simpa using e
 rw[m] at Z;refine max_intList g Z O λ v w H p q=>?_;obtain⟨t,rfl⟩:=intItems_at p;obtain⟨G,u⟩:=argBest_gt (numAt h) (h.size-1);have x:numAt h (argBest (λ i j=>decide (numAt h i>numAt h j)) (h.size-1))∈c:=by
  rw[k,numAt_eq];exact getD_mem (by rw[Ao,IP];omega)
 have y:∀a∈c,a<=numAt h (argBest (λ i j=>decide (numAt h i>numAt h j)) (h.size-1)):=λ a o=>by
  rw[k] at o;obtain⟨j,B,rfl⟩:=mem_getD o;rw[Ao,IP] at B;rw[<-numAt_eq];exact u j ∅
 have:numAt h (argBest (λ i j=>decide (numAt h i>numAt h j)) (h.size-1))=M:=by
  cases c with
  |nil=>simp[Mu] at z
  |cons b r=>
   simp only[Mu,CH] at z;obtain⟨C,D⟩:=Jb r b;have:=y _ C;have:=D _ x;omega
 rw[this];exact l t w H (.ad q)
theorem Q3 (s:a.Perm b)(w:a.Pairwise (·<=·)):a=Wq b:=by
 refine KZ (le:=(·<=·)) (λ x y _ _ k o=>Int.le_antisymm k o) w ?_ (s.trans (IM b _).symm)
 have:=LC (le:=λ(a b:Int)=>decide (a<=b)) (λ a b c k o=>by simp at*;omega) (λ a b=>by simp;omega) b;exact this.imp λ h=>by simpa using h
def T3 (a b:Str):Bool:=decide (a.cps.toList<=b.cps.toList)
def Iv (l:List Str):List Str:=l.mergeSort T3
theorem Kx:∀(r:List Str)(p:Str),risingS p r=true->(p::r).Pairwise (λ a b=>T3 a b=true)
 |[],p,_=>(_)
  |x::r,p,h=>by
   unfold risingS at h;rw[Ah,Bool.not_eq_true',ltCps_eq,decide_eq_false_iff_not,List.not_lt] at h;have o:=Kx r x h.2;refine DI.mpr ⟨λ b k=>?_,o⟩;rcases Ag.mp k with rfl |k
   ·simpa[T3] using h.1
   ·have:=(DI.mp o).1 b k;simp only[T3,AK] at this ⊢;exact List.le_trans h.1 this
theorem Q2 (o:a.Perm b)(s:sortedS a=true):a=Iv b:=by
 have h:a.Pairwise (λ a b=>T3 a b=true):=by
  cases a with
  |nil=>simp
  |cons x r=>exact Kx r x s
 refine KZ (le:=λ a b=>T3 a b=true) (λ x y _ _ h k=>?_) h ?_ (o.trans (IM b _).symm)
 ·simp only[T3,AK] at h k;have:=List.le_antisymm h k;obtain⟨⟨x⟩⟩:=x;obtain⟨⟨y⟩⟩:=y;simp only at this;rw[this]
 ·exact LC (λ a b c h k=>by simp only[T3,AK] at*;exact List.le_trans h k) (λ a b=>by simp only[T3,BN,AK];exact List.le_total _ _) b
variable {a:Addr}{b:PV}{i:Nat}{c:List PV}{x:Str} in
def Of (f:BF)(args:List PV):Option PV:=match f,args with
 | .len,[.list c]=>some (.int c.length)
 | .len,[.str x]=>some (.int x.length)
 | .sum,[.list c]=>(Fi c).map λ h=>.int h.sum
 | .max,[.int a,.int b]=>some (.int (if b>a then b else a))
 | .max,[.list c]=>(Fi c).bind λ h=>(Mu h).map .int
 | .min,[.int a,.int b]=>some (.int (if b<a then b else a))
 | .sorted,[.list c]=>if c.length<64 then((Fi c).map λ h=>.list ((Wq h).map .int)).or ((DN c).map λ k=>.list ((Iv k).map .str)) else none
 | .str,[.int i]=>if i.natAbs<1000000000 then some (.str (Str.ofString (toString i))) else none
 | .str,[.str x]=>some (.str x)
 | .int,[.str x]=>if x.length<=640 then(PySem.intText? x).map .int else none
 | .list,[.list c]=>some (.list c)
 |_,_=>none
theorem Oz (i:Int):PyData.strOk (Str.ofString (toString i))=true:=by
 unfold PyData.strOk;rw[G5];intro c h;by_cases q:c<1114112
 ·simpa using q
 ·exact absurd (by simpa using h) (int_text_free' c ⟨∅,∅⟩ i)
theorem Tq (J:A.handled=none)(hX:∀a∈X,∃o,s.heap.get? a=some o)(r:RpL W X s.heap c args)(e:Of f args=some d):
 BR W A (call f.val c) s (λ v m=>Rp W X m v d):=.of λ Q E O=>by
 have hb:=Ei;have a3:Bi=1048576:=rfl;unfold Of at e;split at e
 ·cases e
  cases r with |cons r h=>cases h;cases r with |@list a V n p Z L g N=>
  have:=N.length;simp at this;refine len_list ⟨_,Z,rfl,n,rfl⟩ ∅ ?_;rw[this];exact O _ _ _ (.refl _) (.int _ _)
 ·cases e
  cases r with |cons r h=>cases h;cases r with |str x t T g=>
  exact PyProof.Rows.len_str ∅ (O _ _ _ (.refl _) (.int _ _))
 ·obtain⟨R,H,rfl⟩:=As.mp e;cases r with |cons r h=>cases h;cases r with |@list a V n p Z L g N=>
  exact UQ J Z (N.ek H) λ t m U k=>O _ _ _ k (.int _ _)
 ·cases e
  cases r with |cons r h=>cases h with |cons Y h=>
  cases h;cases r;cases Y
  refine max_two_ints J λ m U k=>?_;split<;>(rename_i q;refine O _ _ _ (.ad k) ?_;(first |rw[Ap q] |rw[Ak q]);exact .int _ _)
 ·obtain⟨R,H,e⟩:=Ae.mp e;obtain⟨M,hM,rfl⟩:=As.mp e;cases r with |cons r h=>cases h;cases r with |@list a V n p Z L g N=>
  exact SV J Z (N.ek H) hM λ t m U k=>O _ _ _ k (.int _ _)
 ·cases e
  cases r with |cons r h=>cases h with |cons Y h=>
  cases h;cases r;cases Y
  refine min_two_ints J λ m U k=>?_;split<;>(rename_i q;refine O _ _ _ (.ad k) ?_;(first |rw[Ap q] |rw[Ak q]);exact .int _ _)
 ·split at e
  ·rename_i p a4;cases r with |cons r h=>cases h;cases r with |@list a V n p Z L g N=>
   have u:=N.length;have y:s.heap.IsList a V.toList.toArray:=⟨_,Z,rfl,n,(_)⟩;have B:∀(w:Array Value)(S:List PV),d=.list S->RpL W X s.heap w.toList S->S.length=p.length->Q (.ref (s.heap.objs.size+1)) #[s,sortedAll s.heap V.toList w]:=λ w S hd ro a5=>by
    obtain⟨e2,a0⟩:=sortedAll_at s.heap V.toList w;have k:A8 W s.heap (sortedAll s.heap V.toList w):=.ad λ b o eb=>sortedAll_old eb;have C:=ro.length;simp at C u;refine O _ _ s.toks k (hd▸.list a0 (λ q=>?_) ∅ (ro.ac k));obtain⟨o,ho⟩:=hX _ q;exact absurd (AO ho) (_)
   rcases Option.or_eq_some_iff.mp e with e |⟨_,e⟩
   ·obtain⟨R,H,rfl⟩:=As.mp e;have D:=N.ek H;refine sorted_ints y D ∅ λ w a1 l j G=>B w _ rfl ?_ ?_
    ·rw[<-Q3 j G];exact .cy l
    ·rw[<-Q3 j G,Ao,j.length_eq,<-D.length,u]
   ·obtain⟨R,H,rfl⟩:=As.mp e;have D:=N.ef H;have a2:RpL W X s.heap V.toList (R.map .str):=O0 H▸N;refine sorted_strs y D ∅ λ w a1 l j G=>B w _ rfl ?_ ?_
    ·rw[<-Q2 j G];exact .cx l λ x hx=>a2.du x (j.mem_iff.mp hx)
    ·rw[<-Q2 j G,Ao,j.length_eq,<-D.length,u]
  ·cases e
 ·split at e<;>cases e;rename_i i hi;cases r with |cons r h=>cases h;cases r with |int _ t=>
  have I:i.natAbs.log2<1920:=by
   by_cases z:i.natAbs=0
   ·rw[z];decide
   ·exact(Nat.log2_lt z).mpr (Nat.lt_trans hi {_})
  refine P.str_of_int I (O _ _ _ (.refl _) (.str _ _ (Oz i) ?_));have:=int_text_length_le10 (a:=i) (k:=9) {_} (by simpa using hi);rw[PySem.ofString_length];omega
 ·cases e
  cases r with |cons r h=>cases h;cases r with |str x t T g=>
  exact P.str_of_str (O _ _ _ (.refl _) (.str _ _ T g))
 ·split at e
  ·obtain⟨n,hn,rfl⟩:=As.mp e;rename_i u;cases r with |cons r h=>cases h;cases r with |str x t T g=>
   exact KIN.call_text hn u (O _ _ _ (.refl _) (.int _ _))
  ·cases e
 ·cases e
  cases r with |cons r h=>cases h;cases r with |@list a V n p Z L g N=>
  refine call_list_seq a (.inl rfl) Z rfl rfl (λ m c' k hD=>O _ _ _ (.ad k) (.list hD (λ q=>?_) g (N.ac (.ad k)))) ∅;obtain⟨o,ho⟩:=hX _ q;exact D9 _ (AO ho)
 ·cases e
inductive MF where
 |find |count |join |split |cw
 deriving DecidableEq
def MF.name:MF->Str
 | .find=>"find" | .count=>"count" | .join=>"join" | .split=>"split" | .cw=>"index"
def MF.id:MF->String
 | .find=>"str.find" | .count=>"str.count" | .join=>"str.join" | .split=>"str.split" | .cw=>"list.index"
def MF.ty:MF->String
 | .cw=>"list" |_=>"str"
def MF.all:List MF:=[.find,.count,.join,.split,.cw]
def WU (x:Str):Option MF:=MF.all.find? λ m=>m.name==x
def BF.all:List BF:=[.len,.sum,.max,.min,.sorted,.str,.int,.list]
def VY (x:Str):Option BF:=BF.all.find? λ m=>m.name==x
theorem Vb (h:WU x=some m):x=m.name:=by
 have:=List.find?_some h;exact(Bo this).symm
theorem VX (h:VY x=some m):x=m.name:=by
 have:=List.find?_some h;exact(Bo this).symm
theorem MF.plain (m:MF):PlainAttrs m.ty:=by cases m<;>first |exact F.plainAttrs_str |exact F.plainAttrs_list
theorem MF.slot (m:MF):PySem.Slot m.ty m.name m.id:=by
 cases m
 ·exact F.slot_str_find
 ·exact F.slot_str_count
 ·exact F.slot_str_join
 ·exact OU
 ·exact F.slot_list_index
theorem MF.ji (m:MF):typeOf (.builtin m.id)=pure (.type "method_descriptor"):=by
 cases m
 ·exact F.type_str_find
 ·exact F.type_str_count
 ·exact F.type_str_join
 ·exact F.type_str_split
 ·exact F.type_list_index
def Ix (x:Str):Bool:=PyData.strOk x&&decide (x.length<=Bi)
variable {i:Nat}{a:List PV}{x y:Str} in
def Iy (m:MF)(b:PV)(args:List PV):Option PV:=match m,b,args with
 | .find,.str x,[.str y]=>some (.int (Txt.find x y))
 | .find,.str x,[.str y,.int i]=>some (.int (Txt.find3 x y i))
 | .count,.str x,[.str y]=>some (.int (Txt.count x y))
 | .join,.str x,[.list k]=>(DN k).bind λ h=>if JoinOk x h&&Ix (Txt.join x h) then some (.str (Txt.join x h)) else none
 | .split,.str x,[.str y]=>if !(y.length==0)&&(Txt.split x y).all Ix&&decide ((Txt.split x y).length<=Bi) then some (.list ((Txt.split x y).map .str)) else none
 | .cw,.list a,[.str y]=>(DN a).bind λ h=>if h.contains y then some (.int (h.idxOf y)) else none
 |_,_,_=>none
variable {x:Str} in
def aI (h:Str):Value->Bool
 | .str x _=>x==h
 |_=>false
theorem PO (h:Str):∀{k:List Value}{o:List Str},StrsAre k o->∀(j:Nat)(s:j<k.length)(w:j<o.length),aI h k[j]=(o[j]==h)
 |_,_,.cons n t _,0,_,_=>rfl
  |_,_,.cons n t r,j+1,s,w=>PO h r j (GX s) (GX w)
theorem KB:∀{k:List Str}{j:Nat},j<k.idxOf a->∀(o:j<k.length),(k[j]==a)=false
 |n::r,0,h,_=>by
  by_cases e:n=a
  ·subst e;simp at h
  ·simpa using e
  |n::r,j+1,h,o=>by
   by_cases e:n=a
   ·subst e;simp at h
   ·have s:(n==a)=false:=by simpa using e
    have w:j<r.idxOf a:=by
     rw[II,s] at h;exact GX h
    exact KB w (GX o)
theorem QY:∀{k:List Value}{o:List Str},StrsAre k o->∀v∈k,∃x t,v=.str x t
 |_,_,.nil,v,h=>by cases h
  |_,_,.cons n t r,v,h=>by
   rcases Ag.mp h with rfl |h
   ·exact⟨_,_,rfl⟩
   ·exact QY r v h
theorem Kt:∀(l:List Str)(h:Nat),StrsAre (strsFrom h l) l
 |[],_=>.nil
  |x::r,h=>.cons x h (Kt r (h+1))
theorem Ru (hX:∀a∈X,∃o,s.heap.get? a=some o)(Z:Rp W X s.heap f b)(r:RpL W X s.heap c args)(e:Iy m b args=some d):
 BR W A (call (.builtin m.id) (f::c)) s (λ v h'=>Rp W X h' v d):=.of λ Q E g=>by
 have hb:=Ei;have a1:Bi=1048576:=rfl;unfold Iy at e;split at e
 ·cases e
  cases Z with |str x t D q=>cases r with |cons r z=>cases z;cases r with |str y u G I=>
  exact SC.find (g _ _ _ (.refl _) (.int _ _))
 ·cases e
  cases Z with |str x t D q=>cases r with |cons r z=>cases z with |cons r' z=>cases z;cases r with |str y u G I=>cases r' with |int i v=>
  exact SC.find3 (g _ _ _ (.refl _) (.int _ _))
 ·cases e
  cases Z with |str x t D q=>cases r with |cons r z=>cases z;cases r with |str y u G I=>
  exact SC.count (g _ _ _ (.refl _) (.int _ _))
 ·obtain⟨B,N,e⟩:=Ae.mp e;split at e<;>cases e;rename_i H;rw[Ah] at H;unfold Ix at H;rw[Ah,AK] at H;cases Z with |str x t D q=>cases r with |cons r z=>cases z;cases r with |@list a O n xs J n1 q M=>
  obtain⟨l,R,S⟩:=IY (M.ef N);have hl:s.heap.IsList a (strValues l).toArray:=⟨_,J,rfl,n,by rw[<-R]⟩;exact SC.join hl S H.1 λ t' k=>g _ _ _ (.refl _) (.str _ _ H.2.1 H.2.2)
 ·split at e<;>cases e;rename_i x y H;rw[Ah,Ah,Bool.not_eq_true',AK] at H;obtain⟨⟨hy,T⟩,h⟩:=H;cases Z with |str x t D q=>cases r with |cons r z=>cases z;cases r with |str y u G I=>
  have U:∀p∈Txt.split x y,PyData.strOk p=true/\p.length<=Bi:=λ p hp=>by
   have:=AJ.mp T p hp;unfold Ix at this;rw[Ah,AK] at this;exact this
  have w:∀(O:List Value) tk,StrsAre O (Txt.split x y)->Q (.ref s.heap.objs.size) #[s,s.heap.push (Fz O.toArray 0),tk]:=λ O tk V=>by
   have a2:O.length=(Txt.split x y).length:=by rw[V.length]
   exact g _ _ _ (.push _ _) (.list (Ar _ rfl) (HC hX) (by simp;omega) (by simpa using(RpL.cx V U)))
  unfold Txt.split at w h;cases C:(decide (x.length<y.length)||decide (Builtin.Str.strKind x<Builtin.Str.strKind y))
  ·rw[C] at w h;cases L:(Builtin.Str.occurrences x y 0 x.length (x.length+1)).isEmpty
   ·rw[L] at w h;simp only[Aq,AS] at w h;exact Hl OU (IT _ _ _) F.entry_str_split (F.args_str_split_2 _ _) (meets_str_split_sep x y t u C hy L ∅ ∅) (w _ _ (Kt _ _))
   ·rw[L] at w;exact Hl OU (IT _ _ _) F.entry_str_split (F.args_str_split_2 _ _) (meets_str_split_not_found x y t u C hy L) (w [.str x t] _ (.cons _ _ .nil))
  ·rw[C] at w;exact Hl OU (IT _ _ _) F.entry_str_split (F.args_str_split_2 _ _) (meets_str_split_cannot_occur x y t u C) (w [.str x t] _ (.cons _ _ .nil))
 ·obtain⟨B,N,e⟩:=Ae.mp e;split at e<;>cases e;rename_i y H;cases Z with |@list a O n xs J n1 q M=>cases r with |cons r z=>cases z;cases r with |str y u G I=>
  have V:=M.ef N;have h:=V.length;simp at h;have hj:B.idxOf y<B.length:=List.idxOf_lt_length_iff.mpr (by simpa using H);refine Hl F.slot_list_index ⟨_,J,rfl⟩ F.entry_list_index (F.args_list_index_2 _ _)
   (SeqAt.list_indexAt a O n none #[] (.str y u) (aI y) (B.idxOf y) ∅ ∅ ?_ ?_) ⟨J,λ v hv=>?_,g _ _ _ (.refl _) (.int _ _)⟩
  ·have:=PO y V (B.idxOf y) (by simp;omega) hj;simp only[Array.getElem_toList] at this;rw[this];simpa using List.getElem_idxOf hj
  ·intro j Y a0;have:=PO y V j (by simpa using Y) ∅;simp only[Array.getElem_toList] at this;rw[this];exact KB a0 _
  ·obtain⟨x,t,rfl⟩:=QY V v (by simpa using hv);exact SeqAt.EqAt.str_str x t y u
 ·cases e
structure Ge where
 fn:Str->Option (List PV->Option PV)
 gv:Str->Option PV
variable {C:Ge}
variable {it:Expr} in
structure JV where
 ev:Scope->AC->Expr->Option PV
 ts:Scope->AC->Expr->Option Bool
 it:Scope->AC->Expr->Option (List PV)
variable {b:PV}{i:Nat}{x:Str} in
def N0:Const->Option PV
 | .none=>some .none
 | .bool b=>some (.bool b)
 | .int i=>some (.int i)
 | .str x=>if Ix x then some (.str x) else none
 |_=>none
def Bz (h:Scope)(x:Str):Bool:=CC x&&(h.names.lookup x==some .globalImplicit)
variable {d:PV} in
def GF (h:Ge)(k:Scope)(o:AC)(x:Str):Option PV:=match o.lookup x with
 |some (.aa d)=>some d
 |some (.bl _ d)=>some d
 |some _=>none
 |none=>if Bz k x then h.gv x else none
variable {i:Nat} in
def eP:PV->Option PV
 | .int i=>some (.int (-i))
 |_=>none
def Bk:Expr->Bool
 | .Starred .. =>false
 |_=>true
def CQ:Expr->Bool
 | .Set .. =>false
 |_=>true
def I3:Expr->Bool
 | .Name .. =>true
 | .Constant .. =>true
 | .Subscript .. =>true
 |_=>false
variable {a:List (Str×PV)} in
def CZ (p:JV)(h:Scope)(k:AC):List Expr->Option (List PV)
 |[]=>some []
 |e::a=>if Bk e then(p.ev h k e).bind λ d=>(CZ p h k a).map λ o=>d::o else none
variable {d:PV}{x:Str} in
def EL (p:JV)(k:Scope)(h:AC)(e:Expr):Option PV:=match Rq e with
 |some x=>match h.lookup x with
  |some (.own d)=>some d
  |_=>p.ev k h e
 |none=>p.ev k h e
def SZ:CmpOp->Bool
 | .In=>true
 | .NotIn=>true
 |_=>false
variable {r:List Stmt}{c:CmpOp} in
def GQ (p:JV)(h:Scope)(k:AC)(l:Expr)(o:List CmpOp)(s:List Expr):Option Bool:=match o,s with
 |[c],[r]=>if CQ r then(p.ev h k l).bind λ a=>(if SZ c then EL p h k r else p.ev h k r).bind λ b=>IG c a b else none
 |_,_=>none
def Fg (p:JV)(h:Scope)(k:AC):Option Expr->Option (Option Int)
 |none=>some none
 |some e=>(p.ev h k e).bind WM
variable {st:Stmt} in
def K9 (p:JV)(h:Scope)(o:AC)(b:PV)(i:Expr):Option PV:=match i with
 | .Slice lo w st _=>(Fg p h o lo).bind λ l=>(Fg p h o w).bind λ u=>(Fg p h o st).bind λ s=>CA b l u s
 |i=>(p.ev h o i).bind λ k=>DS b k
variable {g:Array GenState}{b:List Comprehension} in
def EO {a:Type}(p:JV)(o h:Scope)(s:AC)(k:AC->Option a):List Comprehension->Option (List a)
 |[]=>none
 |g::b=>if Cd o h&&CQ g.iter then(p.it o s g.iter).bind λ z=>(Cc h (p.ts h) (p.it h) k (g::b) (A3 h s) z).bind λ w=>if w.length<=Bi then some w else none else none
variable {x:Str} in
def UW:Expr->Option Str
 | .Constant (.str x) _ _=>some x
 |_=>none
variable {y:Str} in
def HZ (b:PV):List Expr->Option PV
 |[y,z]=>(UW y).bind λ y=>(UW z).bind λ z=>(GE b).bind λ x=>
  if Ix y&&Ix z&&!(y==z)&&decide (x.length+(x.length+1)*z.length<=16777216)&&Ix (Txt.replace x y z) then some (.str (Txt.replace x y z)) else none
 |_=>none
variable {b:PV}{x:Str} in
def MV (C:Ge)(p:JV)(h:Scope)(k:AC)(f:Expr)(args:List Expr)(z:List Keyword)(A:Pos):Option PV:=
 if z.isEmpty&&decide (args.length<20)&&args.all Bk then
  match f with
  | .Name x _=>if Bz h x&&(k.lookup x).isNone then
   match VY x with
   |some b=>(CZ p h k args).bind λ s=>Of b s
   |none=>(C.fn x).bind λ g=>(CZ p h k args).bind λ s=>g s
    else none
  | .Attribute o name w=>if I3 o&&(w.endLine==A.line) then
   (p.ev h k o).bind λ b=>if name==("replace":Str) then HZ b args else(WU name).bind λ m=>(CZ p h k args).bind λ s=>Iy m b s
    else none
  |_=>none
 else none
variable {x:Str} in
def KW (p:JV)(k:Scope)(o:AC)(s:BoolOp):List Expr->Option PV
 |[]=>none
 |[x]=>p.ev k o x
 |x::h=>(p.ev k o x).bind λ d=>(IU d).bind λ t=>match s,t with
  | .And,false=>some d
  | .Or,true=>some d
  |_,_=>KW p k o s h
variable {x:Str} in
def GS (p:JV)(o:Scope)(s:AC)(k:BoolOp):List Expr->Option Bool
 |[]=>some (k== .And)
 |x::h=>(p.ts o s x).bind λ t=>match k,t with
  | .And,false=>some false
  | .Or,true=>some true
  |_,_=>GS p o s k h
variable {f:Addr}{m:List Addr}{v:Value}{args:List Expr}{r:List Stmt}{c i:Nat}{u:Pos}{y:List PV}{q t:Expr}{n:List (Str×PV)}{g:List Comprehension}{l:List Env}{j:CmpOp}{x:Str}{d:Scope} in
def QZ (A:Ge)(p:JV)(o:Scope)(h:AC)(e:Expr):Option PV:=match e with
 | .Constant c _ _=>N0 c
 | .Name x _=>GF A o h x
 | .BinOp l j r _=>(p.ev o h l).bind λ a=>(p.ev o h r).bind λ b=>EY j a b
 | .UnaryOp j x _=>if j=.USub then(p.ev o h x).bind eP else none
 | .IfExp t a b _=>(p.ts o h t).bind λ c=>if c then p.ev o h a else p.ev o h b
 | .Compare l w m _=>(GQ p o h l w m).map .bool
 | .BoolOp j y _=>KW p o h j y
 | .List n _=>(CZ p o h n).bind λ s=>if s.length<=Bi then some (.list s) else none
 | .Tuple n _ _=>(CZ p o h n).bind λ s=>if s.length<=Bi then some (.ay s) else none
 | .Subscript v i _=>(EL p o h v).bind λ b=>K9 p o h b i
 | .ListComp q g d _=>(EO p o d h (λ h=>p.ev d h q) g).map .list
 | .DictComp k v g d _=>(EO p o d h (λ h=>(p.ev d h k).bind λ k=>(GE k).bind λ k=>(p.ev d h v).map λ v=>(k,v)) g).map λ m=>.dict (OJ m)
 | .Call f args z u=>MV A p o h f args z u
 |_=>none
variable {f:Addr}{d:List Addr}{args:List Expr}{b:Pos}{c:List PV}{l:List Env}{a:CmpOp}{x:Str} in
def TE (w:Ge)(p:JV)(h:Scope)(k:AC)(e:Expr):Option Bool:=match e with
 | .UnaryOp a x _=>if a=.Not then(p.ts h k x).map (!·) else none
 | .BoolOp a c _=>GS p h k a c
 | .Compare l o d _=>GQ p h k l o d
 | .Name x _=>(GF w h k x).bind IU
 | .Call f args s b=>(MV w p h k f args s b).bind IU
 |_=>none
variable {a:Addr}{b:PV} in
def Nf:List PV->Option (List PV)
 |[.int b]=>if 0<=b/\b<=100000 then some ((List.range b.toNat).map (λ(i:Nat)=>.int (0+(i:Int)*1))) else none
 |[.int a,.int b]=>if a<=b/\b-a<=100000/\-1000000<=a/\b<=1000000 then some ((List.range (b-a).toNat).map (λ(i:Nat)=>.int (a+(i:Int)*1))) else none
 |_=>none
variable {a:List PV} in
def SM:PV->Option (List PV)
 | .list a=>some a
 | .ay a=>some a
 |_=>none
variable {f:Addr}{args:List Expr}{x:Str} in
def DK (k:Scope)(o:AC):Expr->Option (List Expr)
 | .Call f args h _=>match Rq f with
   |some x=>if x==("range":Str)&&Bz k x&&(o.lookup x).isNone&&h.isEmpty&&args.all Bk then some args else none
   |none=>none
 |_=>none
variable {args:List Expr} in
def TF (p:JV)(h:Scope)(k:AC)(e:Expr):Option (List PV):=
 if CQ e then
  match DK h k e with
  |some args=>(CZ p h k args).bind Nf
  |none=>(p.ev h k e).bind SM
 else none
variable {n:Nat} in
def By (h:Ge):Nat->JV
 |0=>⟨λ _ _ _=>none,λ _ _ _=>none,λ _ _ _=>none⟩
 |n+1=>⟨QZ h (By h n),TE h (By h n),TF (By h n)⟩
def EG (k:BH)(w:Nat)(a:Addr)(g:List PV->Option PV):Prop:=
 ∀(A:Around)(s:Shared)(X:List Addr)(args:List PV)(h:List Value)(d:PV),Cg w A->Gd k s->(∀b∈X,k.h0.get? b=none/\∃o,s.heap.get? b=some o)->
  RpL k X s.heap h args->g args=some d->BR k A (call (.ref a) h) s (λ v z=>Rp k X z v d)
variable {b:PV}{g:Array GenState} in
structure Dh (W:BH)(C:Ge)(k:Nat)(mg mb:Str->Option Value):Prop where
 g:W.h0.Ns mainGlobals mg
 b:W.h0.Ns builtinsNs mb
 bx:∀f:BF,mg f.name=none/\mb f.name=some f.val
 jp:mg "range"=none/\mb "range"=some (.type "range")
 ir:∃o,W.h0.get? sysModules=some o
 aa:∀x d,C.gv x=some d->∃v,mg x=some v/\∀X,(∀a∈X,W.h0.get? a=none)->Rp W X W.h0 v d
 fn:∀x g,C.fn x=some g->∃a o fd,mg x=some (.ref a)/\W.h0.get? a=some o/\o.data=.func fd/\o.cls≠.type "frame"/\o.cls≠.none/\EG W k a g
def JE (o:BH)(s:Around)(p:JV):Prop:=∀h k,Yo o s h k (p.ev h) (p.ts h) (p.it h)
theorem AN (o:Pos)(k:Env):∀(s:List Expr),s.all Bk=true->backTo o (starEach s k)=s.map λ e=>(false,eval e k)
 |[],_=>rfl
  |e::s,h=>by
   rw[Dd,Ah] at h;have w:=AN o k s h.2;have:backTo o (starEach (e::s) k)=(false,eval e k)::backTo o (starEach s k):=by
    cases e<;>first |rfl |(have:=h.1;simp[Bk] at this)
   rw[this,w];rfl
theorem FI.ah (F:FI W V z Z X h O):∀a∈X,∃o,h.get? a=some o:=λ a k=>(F.alive a k).2
theorem Dt:∀(k:List Expr)(w:List PV),CZ p V O k=some w->k.all Bk=true
 |[],_,_=>rfl
  |e::k,w,h=>by
   unfold CZ at h;split at h
   ·rename_i q;obtain⟨d,hd,h⟩:=Ae.mp h;obtain⟨o,s,rfl⟩:=As.mp h;rw[Dd,q,Dt k o s];rfl
   ·cases h
theorem Ej (l:JE W A p):∀(a:List Expr)(b:List PV)(s:Shared),CZ p V O a=some b->FI W V z Z X s.heap O->Gd W s->
 BR W A (spliced (a.map λ e=>(false,eval e z))) s (λ m q=>RpL W X q m b)
 |[],b,s,h,F,G=>by
   cases h
   exact λ Q E c=>AV (c [] s.heap s.toks (.refl _) (Am _) .nil)
  |e::a,b,s,h,F,G=>by
   unfold CZ at h;split at h
   ·obtain⟨d,hd,h⟩:=Ae.mp h;obtain⟨f,g,rfl⟩:=As.mp h;exact λ Q E c=>Av ((l V z).ev O e d hd Z X s F G _ _ λ v H C k o r=>
     Ej l a f #[s,H,C] g (F.ac k) (G.step k o) _ _ λ m n i w N j=>
      c _ _ _ (k.trans w) (Ab o N) (.cons (r.ac w) j))
   ·cases h
theorem Gx (h:List Expr)(k:wpAny M A (spliced (h.map λ e=>(false,eval e z))) (λ o w=>a ⟨o,[]⟩ w) E s):
 wpAny M A (evalArgs f true (h.map λ e=>(false,eval e z)) []) a E s:=by
 cases h with
 |nil=>
  unfold evalArgs;show wpAny M A (spliced [] >>=_) a E s;refine Aa (BP k (λ o w C=>?_) λ _ _ x=>x);refine Aa (Af ?_);refine AF ?_;exact Aa (Af (Aa (Af (Af (by simpa using C)))))
 |cons e h=>exact A1 k
theorem Jy (h:List Expr):((h.map λ e=>((false,eval e z):Bool×Sem Value)).any (·.1))=false:=by
 induction h with
 |nil=>rfl
 |cons _ _ k=>rw[AL,List.any_cons,k];rfl
theorem Ji (y:JE W A p)(u:CZ p V O b=some g)(F:FI W V z Z X s.heap O)(G:Gd W s)(B:(∃id,f=.builtin id)\/(∃T,f=.type T))
 (D:∀n H x,A8 W s.heap H->s.toks<=x->RpL W X H n g->BR W A (call f (first++n)) #[s,H,x] λ v q=>Rp W X q v d) (r:(∃T,f=.type T)->first=[]):
 BR W A (callWith c f first (backTo c (starEach b z)) []) s (λ v H=>Rp W X H v d):=λ Q E I=>by
 rw[AN c z b (Dt b g u)];have h:wpAny W.M A (evalArgs f true (b.map λ e=>(false,eval e z)) []) (λ a N=>wpAny W.M A (call f (first++a.pos) a.kw) Q E N) E s:=
  Gx b (Ej y b g s u F G _ _ λ n i w k o t=>D n i w k o t Q E λ v j C l m J=>I v j C (k.trans l) (Ab o m) J)
 rcases B with⟨id,rfl⟩ |⟨T,rfl⟩
 ·exact Fr (Jy b) h
 ·have:=r ⟨T,rfl⟩;subst this;exact Jj (Jy b) h
theorem BM (w:Dh W C k mg mb)(F:FI W V z Z X s.heap O)(G:Gd W s)(h:Bz V x=true)(o:mg x=some v\/(mg x=none/\mb x=some v))(H:Q v s):
 wpAny W.M A (eval (.Name x a) z) Q E s:=by
 unfold Bz at h;rw[Ah,JB] at h;refine Calls.Name_function_global F.kind (F.dr x h.2) ?_ (F4 h.1).1;have N:=B2 G.am w.g;have b:=B2 G.am w.b;rcases o with o |⟨c,d⟩
 ·exact Calls.loadGlobal_global (by rw[F.br];exact N) o H
 ·exact Calls.loadGlobal_builtin (by rw[F.br];exact N) c (by rw[F.bx];exact b) d H
theorem Nm (o:Dh W C k mg mb)(F:FI W V z Z X s.heap O)(G:Gd W s)(e:GF C V O x=some d):BR W A (eval (.Name x b) z) s (λ v w=>Rp W X w v d):=by
 unfold GF at e;split at e
 ·rename_i q;cases e;exact λ Q E h=>F.name q λ v r=>h v s.heap s.toks (.refl _) (Am _) r
 ·rename_i q;cases e;exact λ Q E h=>F.name q λ v r=>h v s.heap s.toks (.refl _) (Am _) r.2
 ·cases e
 ·split at e
  ·rename_i H;obtain⟨v,N,c⟩:=o.aa x d e;exact λ Q E h=>BM o F G H (.inl N) (h v s.heap s.toks (.refl _) (Am _) ((c X λ a f=>(F.alive a f).1).ac G.am))
  ·cases e
theorem Im (h:JE W A p)(F:FI W V z Z X s.heap O)(G:Gd W s)(e:EL p V O x=some d):BR W A (eval x z) s (λ v k=>Kh W X k v d):=by
 unfold EL at e;split at e
 ·rename_i y o;obtain⟨H,rfl⟩:=Gq o;split at e
  ·rename_i q;cases e;refine λ Q E w=>F.name q λ v r=>w v s.heap s.toks (.refl _) (Am _) (.inr ?_);obtain⟨a,C,_,_,r⟩:=r;exact⟨a,C,r⟩
  ·exact((h V z).ev O _ d e Z X s F G).ac λ _ _ _ r=>.inl r
 ·exact((h V z).ev O x d e Z X s F G).ac λ _ _ _ r=>.inl r
theorem MO (h:CQ r=true):behindInMarks a r=false:=by
 cases r<;>first |rfl |simp[CQ] at h
theorem EP (k:CQ e=true)(h:Env):∀v,foldedSetIterable e h v=pure v:=by
 intro v;cases e<;>first |rfl |simp[CQ] at k
theorem Pz (h:JE W A p)(F:FI W V z Z X s.heap O)(G:Gd W s)(e:(if SZ a then EL p V O r else p.ev V O r)=some b):
 BR W A (eval r z) s (λ v k=>Rp W X k v b\/((a=.In\/a=.NotIn)/\Kh W X k v b)):=by
 split at e
 ·rename_i q;refine(Im h F G e).ac λ _ _ _ r=>.inr ⟨?_,r⟩;cases a<;>simp[SZ] at q ⊢
 ·exact((h V z).ev O r b e Z X s F G).ac λ _ _ _ r=>.inl r
theorem Py (U:Cg k A)(B:JE W A p)(F:FI W V z Z X s.heap O)(G:Gd W s)(e:GQ p V O l d g=some b):
 BR W A (eval (.Compare l d g f) z) s (λ v D=>Rp W X D v (.bool b))/\BR W A (isTrue (.Compare l d g f) z (eval (.Compare l d g f) z)) s (λ Y _=>Y=b):=by
 unfold GQ at e;split at e
 ·rename_i L r;split at e
  ·rename_i M;obtain⟨a,R,e⟩:=Ae.mp e;obtain⟨c,S,e⟩:=Ae.mp e;have T:A.units<9000:=by have:=U.units;omega
   constructor
   ·refine λ Q E u=>wpAny_Compare1 ((B V z).ev O l a R Z X s F G _ _ λ v i C h o I=>Pz B (s:=#[s,i,C]) (F.ac h) (G.step h o) S _ _ λ v2 j H w m x=>?_) (MO M);have:=BR.of (W:=W) (A:=A) (s:=#[s,j,H]) (t:=compareOp L v v2) (P:=λ v D=>Rp W X D v (.bool b)) λ Q E u=>Ii (X:=X) T (I.ac w) x e λ J=>u _ _ J (.refl _) (.bool b);exact this _ _ λ v3 n N q t y=>u v3 n N ((h.trans w).trans q) (Ab o (Ab m t)) y
   ·refine λ Q E u=>QT ((B V z).ev O l a R Z X s F G _ _ λ v i C h o I=>Pz B (s:=#[s,i,C]) (F.ac h) (G.step h o) S _ _ λ v2 j H w m x=>?_) (MO M);have:=BR.of (W:=W) (A:=A) (s:=#[s,j,H]) (t:=compareOp L v v2) (P:=λ v D=>v=.bool b) λ Q E u=>Ii (X:=X) T (I.ac w) x e λ J=>u _ _ J (.refl _) rfl;refine this _ _ λ v3 n N q t y=>?_;subst y;exact CV (u b n N ((h.trans w).trans q) (Ab o (Ab m t)) rfl)
  ·cases e
 ·cases e
theorem FF (N:JE W A p)(F:FI W V z Z X s.heap O)(G:Gd W s)(e:Fg p V O x=some a):BR W A (evalPart x z) s (λ v _=>IsPart v a):=by
 cases x with
 |none=>
  cases e
  exact λ Q E C=>wpAny_evalPart_none (C _ s.heap s.toks (.refl _) (Am _) .none)
 |some x=>
  obtain⟨d,hd,e⟩:=Ae.mp e;refine λ Q E C=>wpAny_evalPart_some ((N V z).ev O x d hd Z X s F G _ _ λ v k h o w H=>C v k h o w ?_);unfold WM at e;split at e<;>cases e
  ·cases H;exact .none
  ·cases H;exact .int _ _
theorem Kh.ac (k:A8 W h H)(b:Kh W X h v d):Kh W X H v d:=
 b.imp (λ r=>r.ac k) λ⟨a,e,r⟩=>⟨a,e,r.ac k⟩
theorem UR (L:JE W A p)(F:FI W V z Z X s.heap O)(G:Gd W s)(hb:EL p V O v=some b)(e:K9 p V O b i=some d):
 BR W A (eval (.Subscript v i a) z) s (λ v h'=>Rp W X h' v d):=by
 unfold K9 at e;split at e
 ·rename_i lo hi st ps;obtain⟨l,hl,e⟩:=Ae.mp e;obtain⟨u,hu,e⟩:=Ae.mp e;obtain⟨t,ht,e⟩:=Ae.mp e;refine λ Q E hQ=>Subscript_ (Im L F G hb _ _ λ ov f H h k rv=>wpAny_Slice ?_);refine FF L (s:=#[s,f,H]) (F.ac h) (G.step h k) hl _ _ λ vl m N o g p1=>?_;have x:=(F.ac h).ac o;have y:=(G.step h k).step o g;refine FF L (s:=#[s,m,N]) x y hu _ _ λ vu n c C j p2=>?_;have B:=x.ac C;have M:=y.step C j;refine FF L (s:=#[s,n,c]) B M ht _ _ λ vt w I D R p3=>?_;have kk:A8 W f w:=o.trans (C.trans D);have S:=B.ac D;have k5:A8 W w (w.push {cls:=.type "slice",data:=.fields [vl,vu,vt].toArray}):=.push _ _;have T:=S.ac k5;have sub:∃U,subscripted (.Slice lo hi st ps) false ov (.ref w.objs.size)=operate U (getItem ov (.ref w.objs.size)):=by
   cases st with
   |none=>exact⟨_,rfl⟩
   |some _=>exact⟨_,rfl⟩
  obtain⟨U,Y⟩:=sub;refine PQ (X:=X) (s:={s with heap:=w.push {cls:=.type "slice",data:=.fields [vl,vu,vt].toArray},toks:=I}) ((rv.ac kk).ac k5) T.ah ⟨_,Ar _ rfl,rfl,rfl⟩ p1 p2 p3 e v (.Slice lo hi st ps) Y _ _ λ r a0 J a1 a2 rr=>?_;exact hQ r a0 J (h.trans (kk.trans (k5.trans a1))) (Ab k (Ab g (Ab j (Ab R a2)))) rr
 ·rename_i a3;obtain⟨kd,hk,e⟩:=Ae.mp e;refine λ Q E hQ=>Subscript_ (Im L F G hb _ _ λ ov f H h k rv=>?_);refine(L V z).ev O i kd hk Z X #[s,f,H] (F.ac h) (G.step h k) _ _ λ kv m N o g rk=>?_;refine SG (X:=X) (s:=#[s,m,N]) (rv.ac o) rk e v i (λ l u pp q=>a3 _ _ _ _ q) _ _ λ r n c C j rr=>?_;exact hQ r n c ((h.trans o).trans C) (Ab k (Ab g j)) rr
theorem HB {f:Type}{b:AC->Option f}{d:List f}(e:EO p V a O b c=some d):
 ∃g h k,c=g::h/\Cd V a=true/\CQ g.iter=true/\p.it V O g.iter=some k/\Cc a (p.ts a) (p.it a) b (g::h) (A3 a O) k=some d/\d.length<=Bi:=by
 cases c with
 |nil=>cases e
 |cons g h=>
  rw[EO] at e;split at e
  ·rename_i o;rw[Ah] at o;obtain⟨k,s,e⟩:=Ae.mp e;obtain⟨w,z,e⟩:=Ae.mp e;split at e<;>cases e;exact⟨g,h,k,rfl,o.1,o.2,s,z,by assumption⟩
  ·cases e
theorem GN {b:Type}{a:AC->Option b}{f:List b}(e:Cc i c d a (g::j) O l=some f):g.is_async=0:=by
 unfold Cc at e;split at e
 ·rename_i q;exact q.1
 ·cases e
theorem Nv (I:Cg k A)(x:JE W A p)(F:FI W V z Z X s.heap O)(G:Gd W s)(e:EO p V b O (λ O=>p.ev b O d) c=some j):
 BR W A (eval (.ListComp d c b n) z) s (λ v y=>Rp W X y v (.list j)):=by
 obtain⟨g,B,J,rfl,N,o,L,w,q⟩:=HB e;have h:=GN w;intro Q E M;rw[arm_eval_ListComp];have R:firstAsync (g::B)=false:=by obtain⟨t,i,f,a⟩:=g;simp only at h;subst h;rfl
 have S:firstIter (g::B) z=eval g.iter z:=by obtain⟨t,i,f,a⟩:=g;rfl
 rw[R,S];refine Gu (λ H=>x b H) I.handled N w q F G (EP o z) (((x V z).itr O g.iter J L).2 Z X s F G) λ D C y tk m hD T U u l Y r=>O7 T u l Y r M
theorem NU (S:Dh W C k mg mb)(T:Cg k A)(J:JE W A p)(F:FI W V z Z X s.heap O)(G:Gd W s)
 (e:EO p V b O (λ O=>(p.ev b O d).bind λ k=>(GE k).bind λ k=>(p.ev b O j).map λ v=>(k,v)) c=some n):
 BR W A (eval (.DictComp d j c b u) z) s (λ v L=>Rp W X L v (.dict (OJ n))):=by
 obtain⟨g,M,U,rfl,y,w,Y,H,B⟩:=HB e;have h:=GN H;intro Q E hQ;rw[arm_eval_DictComp];have h1:firstAsync (g::M)=false:=by obtain⟨t,i,f,a⟩:=g;simp only at h;subst h;rfl
 have h2:firstIter (g::M) z=eval g.iter z:=by obtain⟨t,i,f,a⟩:=g;rfl
 rw[h1,h2];have N:∀a,s.heap.get? a=none->(a==sysModules)=false:=λ a ha=>by
  cases q:a==sysModules with
  |false=>rfl
  |true=>
   have:=Bo q;subst this;obtain⟨o,R⟩:=AP G.am S.ir;rw[ha] at R;cases R
 refine KR (λ x=>J b x) T.handled y H B F G (EP w z) (((J V z).itr O g.iter U Y).2 Z X s F G) N λ D C L tk m hD hC a0 I l hn r=>O7 hC I l hn r hQ
theorem PC (k:I3 a=true)(name:Str)(h:Env):attributeBase a name h (eval a h)=eval a h:=by
 cases a<;>first |rfl |simp[I3] at k
theorem O1 (h:UW e=some x):∃k p,e=.Constant (.str x) k p:=by
 unfold UW at h;split at h<;>cases h;exact⟨_,_,rfl⟩
theorem Nd (h:GE d=some x):d=.str x:=by
 unfold GE at h;split at h<;>cases h;rfl
theorem Ye (b:BF):(∃id,b.val=.builtin id)\/(∃T,b.val=.type T):=by
 cases b<;>first |exact .inl ⟨_,rfl⟩ |exact .inr ⟨_,rfl⟩
theorem NJ (k:List Expr)(h:Pos)(o:k.all Bk=true)(s:k.length<20):
 ((backTo h (starEach k z)).all (λ x=>!x.1)&&(backToKw h (keywordEach [] z)).all (λ x=>x.1.isSome)&&decide (k.length+([]:List Keyword).length+(if([]:List Keyword).isEmpty then 0 else 1)<30))=true:=by
 rw[AN h z k o];have:((k.map λ e=>((false,eval e z):Bool×Sem Value)).all λ x=>!x.1)=true:=by
  rw[List.all_map,AJ];intro _ _;rfl
 rw[this];simp[backToKw,keywordEach];omega
theorem PT (r:Rp W X h v d)(w:(∃x,d=.str x/\T="str")\/(∃k,d=.list k/\T="list")):
 (∀(s:Shared),s.heap=h->s.TypeIs v T)/\(∀a,v=.ref a->∃ob,h.get? a=some ob/\ob.dict=none):=by
 rcases w with⟨x,rfl,rfl⟩ |⟨k,rfl,rfl⟩
 ·cases r;exact⟨λ s _=>IT s _ _,λ a e=>nomatch e⟩
 ·cases r with |@list a z n _ o A C E=>exact⟨λ s e=>⟨_,by rw[e];exact o,rfl⟩,λ b e=>by cases e;exact⟨_,o,rfl⟩⟩
theorem Vc (e:Iy m b a=some d):(∃x,b=.str x/\m.ty="str")\/(∃h,b=.list h/\m.ty="list"):=by
 unfold Iy at e;split at e
 ·exact .inl ⟨_,rfl,rfl⟩
 ·exact .inl ⟨_,rfl,rfl⟩
 ·exact .inl ⟨_,rfl,rfl⟩
 ·exact .inl ⟨_,rfl,rfl⟩
 ·exact .inl ⟨_,rfl,rfl⟩
 ·exact .inr ⟨_,rfl,rfl⟩
 ·cases e
theorem U0 (e:HZ b args=some d):∃y z k h x,args=[y,z]/\UW y=some k/\UW z=some h/\GE b=some x/\
 (if Ix k&&Ix h&&!(k==h)&&decide (x.length+(x.length+1)*h.length<=16777216)&&Ix (Txt.replace x k h) then some (.str (Txt.replace x k h)) else none)=some d:=by
 unfold HZ at e;split at e
 ·obtain⟨k,o,e⟩:=Ae.mp e;obtain⟨h,s,e⟩:=Ae.mp e;obtain⟨x,w,e⟩:=Ae.mp e;exact⟨_,_,k,h,x,rfl,o,s,w,e⟩
 ·cases e
theorem Ob (Gk:Dh W C k mg mb)(hA:Cg k A)(U:JE W A p)(F:FI W V z Z X s.heap O)(G:Gd W s)(e:MV C p V O f args i c=some d):
 BR W A (eval (.Call f args i c) z) s (λ v Y=>Rp W X Y v d):=by
 unfold MV at e;split at e
 ·rename_i hq;rw[Ah,Ah,AK] at hq;obtain⟨⟨hk,hl⟩,hs⟩:=hq;have a0:i=[]:=by simpa using hk
  subst a0;split at e
  ·rename_i x np;split at e
   ·rename_i D;rw[Ah] at D;split at e
    ·rename_i b hb;obtain⟨ds,u,e1⟩:=Ae.mp e;have hx:=VX hb;subst hx;refine λ Q E I=>BG (BM Gk F G D.1 (.inr (Gk.bx b)) ?_);exact Ji U u F G (Ye b) (first:=[]) (λ vs Y tk S ll B=>Tq hA.handled (F.ac S).ah B e1) (λ _=>rfl) Q E I
    ·obtain⟨g,a1,e⟩:=Ae.mp e;obtain⟨ds,u,e⟩:=Ae.mp e;obtain⟨a,o,fd,hv,ho,hd,a2,a3,J⟩:=Gk.fn x g a1;refine λ Q E I=>BG (BM Gk F G D.1 (.inl hv) ?_);rw[AN c z args hs];refine Cm (o:=o) (fd:=fd) (Gx args (Ej U args ds s u F G _ _ λ vs j h w H L=>⟨⟨(G.am.trans w).keep ho a2 a3,hd⟩,?_⟩));exact J A #[s,j,h] X ds vs d hA (G.step w H) (F.ac w).alive L e Q E λ v l N n r B=>I v l N (w.trans n) (Ab H r) B
   ·cases e
  ·rename_i o name a6;split at e
   ·rename_i D;rw[Ah] at D;obtain⟨b,hb,e1⟩:=Ae.mp e;clear e;split at e1
    ·rename_i hn;have M:=Bo hn;subst M;obtain⟨y,a8,ys,zs,x,rfl,hy,hz,hx,e2⟩:=U0 e1
     ·have a4:=Nd hx;subst a4;obtain⟨ky,py,rfl⟩:=O1 hy;obtain⟨kz,pz,rfl⟩:=O1 hz;split at e2<;>cases e2;rename_i hc;rw[Ah,Ah,Ah,Ah,Bool.not_eq_true',AK] at hc;obtain⟨⟨⟨⟨c1,c2⟩,c3⟩,c4⟩,c5⟩:=hc;unfold Ix at c5;rw[Ah,AK] at c5;refine λ Q E I=>wpAny_Call_method (T:="str") (id:="str.replace") (PC D.1 _ z) (NJ _ c hs hl) D.2 PySem.F.plainAttrs_str PySem.F.slot_str_replace PySem.F.type_str_replace ?_;refine(U V z).ev O o _ hb Z X s F G _ _ λ v j h w H B=>⟨(PT B (.inl ⟨_,rfl,rfl⟩)).1 _ rfl,(PT B (.inl ⟨_,rfl,rfl⟩)).2,?_⟩;rw[AN c z _ hs];cases B with |str _ t o1 z1=>
      refine Fr (Jy _) (A1 (Av (He (Av (He (AV ?_))))));have a7:=G.toks;show wpAny W.M A (call (.builtin "str.replace") [.str x t,.str ys h,.str zs (h+1)]) Q E _;have a5:h≠0:=λ q=>by rw[q] at H;omega
      have:=BR.of (W:=W) (A:=A) (s:=#[s,j,h+1+1]) (t:=call (.builtin "str.replace") [.str x t,.str ys h,.str zs (h+1)]) (P:=λ v Y=>Rp W X Y v (.str (Txt.replace x ys zs)))
       λ Q E I=>SC.replace a5 (Nat.succ_ne_zero _) (BU (Eu _)) c3 c4 λ t' S=>I _ _ S (.refl _) (.str _ _ c5.1 c5.2)
      exact this _ _ λ v2 l N n r R=>I v2 l N (w.trans n) (Ab H (Ab (BD (A6 _)) r)) R
    ·obtain⟨m,hm,e2⟩:=Ae.mp e1;obtain⟨ds,u,e3⟩:=Ae.mp e2;have M:=Vb hm;subst M;have mt:=Vc e3;refine λ Q E I=>wpAny_Call_method (T:=m.ty) (id:=m.id) (PC D.1 _ z) (NJ _ c hs hl) D.2 m.plain m.slot m.ji ?_;refine(U V z).ev O o _ hb Z X s F G _ _ λ v j h w H B=>⟨(PT B mt).1 _ rfl,(PT B mt).2,?_⟩;refine Ji U (s:=#[s,j,h]) u (F.ac w) (G.step w H) (.inl ⟨_,rfl⟩) (first:=[v]) (d:=d) (λ vs Y tk S ll L=>Ru ((F.ac w).ac S).ah (B.ac S) L e3) (λ⟨T,q⟩=>nomatch q) Q E λ v2 l N n r R=>I v2 l N (w.trans n) (Ab H r) R
   ·cases e
  ·cases e
 ·cases e
theorem M4 (r:Rp W X s.heap v d)(e:IU d=some b):BR W A (truthy v) s (λ h _=>h=b):=
 .of λ _ _ k=>PM r e λ o=>k _ _ o (.refl _) rfl
theorem Oe (u:JE W A p):∀(D:List Expr)(s:Shared),FI W V z Z X s.heap O->Gd W s->KW p V O op D=some d->
 BR W A (boolOp pos op (evalEach D z)) s (λ v J=>Rp W X J v d)
 |[],s,F,G,e=>by cases e
  |[x],s,F,G,e=>(u V z).ev O x d e Z X s F G
  |x::y::o,s,F,G,e=>by
   rw[KW] at e
   ·obtain⟨n,hd,e⟩:=Ae.mp e;obtain⟨t,L,e⟩:=Ae.mp e;refine λ Q E I=>?_;show wpAny W.M A (do let v <-eval x z;standAt pos;let t <-holding [v] (truthy v);match op,t with | .And,false=>pure v | .Or,true=>pure v |_,_=>boolOp pos op (evalEach (y::o) z)) Q E s;refine Aa ((u V z).ev O x n hd Z X s F G _ _ λ v g c w H r=>Aa (AI (Aa (AF (M4 (s:=#[s,g,c]) r L _ _ λ b C h k N M=>?_)))));subst M;have R:=Oe u (op:=op) (pos:=pos) (d:=d) (y::o) #[s,C,h] ((F.ac w).ac k) ((G.step w H).step k N);have i:∀B,n=B->B=d->wpAny W.M A (pure v) Q E #[s,C,h]:=λ B S T=>Af (I v C h (w.trans k) (Ab H N) (by subst S;subst T;exact r.ac k));have a:KW p V O op (y::o)=some d->wpAny W.M A (boolOp pos op (evalEach (y::o) z)) Q E #[s,C,h]:=
     λ e=>R e _ _ λ v j f l m r=>I v j f ((w.trans k).trans l) (Ab H (Ab N m)) r
    cases op<;>cases b
    ·simp only at e ⊢;exact i n rfl (by injection e)
    ·simp only at e ⊢;exact a e
    ·simp only at e ⊢;exact a e
    ·simp only at e ⊢;exact i n rfl (by injection e)
   ·intro q;cases q
theorem Lz (j:JE W A p):∀(m:List Expr)(s:Shared),FI W V z Z X s.heap O->Gd W s->GS p V O a m=some b->BR W A (allTrue a m z) s (λ c _=>c=b)
 |[],s,F,G,e=>by
   cases e
   exact λ Q E d=>Af (d _ s.heap s.toks (.refl _) (Am _) rfl)
  |x::C,s,F,G,e=>by
   rw[GS] at e;obtain⟨t,n,e⟩:=Ae.mp e;refine λ Q E d=>?_;have H:∀(w:Heap)(k:Nat),A8 W s.heap w->s.toks<=k->GS p V O a C=some b->wpAny W.M A (allTrue a C z) Q E #[s,w,k]:=
    λ w k h o e=>Lz j C #[s,w,k] (F.ac h) (G.step h o) e _ _ λ v f N g i q=>d v f N (h.trans g) (Ab o i) q
   cases a
   ·refine wpAny_allTrue_And_cons ((j V z).tst O x t n Z X s F G _ _ λ c w k h o l=>?_);subst l;cases c
    ·simp only at e ⊢;simp only[Aq,AS];exact d _ _ _ h o (by injection e)
    ·simp only at e ⊢;simp only[A0];exact H _ _ h o e
   ·refine wpAny_allTrue_Or_cons ((j V z).tst O x t n Z X s F G _ _ λ c w k h o l=>?_);subst l;cases c
    ·simp only at e ⊢;simp only[Aq,AS];exact H _ _ h o e
    ·simp only at e ⊢;simp only[A0];exact d _ _ _ h o (by injection e)
theorem LZ (Y:Dh W C k mg mb)(U:Cg k A)(u:JE W A p)(e:QZ C p V O x=some d)(F:FI W V z Z X s.heap O)(G:Gd W s):BR W A (eval x z) s (λ v h'=>Rp W X h' v d):=by
 unfold QZ at e;split at e
 ·rename_i c k0 n;unfold N0 at e;split at e
  ·cases e;exact λ Q E m=>wpAny_Constant_none (m _ s.heap s.toks (.refl _) (Am _) .none)
  ·cases e;exact λ Q E m=>wpAny_Constant_bool (m _ s.heap s.toks (.refl _) (Am _) (.bool _))
  ·cases e;exact λ Q E m=>wpAny_Constant_int (m _ s.heap (s.toks+1) (.refl _) (A6 _) (.int _ _))
  ·split at e<;>cases e;rename_i J;unfold Ix at J;rw[Ah,AK] at J;exact λ Q E m=>He (m _ s.heap (s.toks+1) (.refl _) (A6 _) (.str _ _ J.1 J.2))
  ·cases e
 ·exact Nm Y F G e
 ·rename_i l op r n;obtain⟨a,ha,e⟩:=Ae.mp e;obtain⟨b,L,e⟩:=Ae.mp e;refine λ Q E m=>MH ((u V z).ev O l a ha Z X s F G _ _ λ v f o h w B=>(u V z).ev O r b L Z X #[s,f,o] (F.ac h) (G.step h w) _ _ λ v2 g H N i j=>?_);exact Ke (s:=#[s,g,H]) ((F.ac h).ac N).ah (B.ac N) j e _ _ λ v3 M D R S a0=>m v3 M D ((h.trans N).trans R) (Ab w (Ab i S)) a0
 ·rename_i op x n;split at e
  ·rename_i a1;subst a1;obtain⟨a,ha,e⟩:=Ae.mp e;refine λ Q E m=>wpAny_UnaryOp ((u V z).ev O x a ha Z X s F G _ _ λ v f o h w B=>?_);unfold eP at e;split at e<;>cases e;cases B;exact PyProof.Rows.neg_int (m _ f (o+1) h (BD w) (.int _ _))
  ·cases e
 ·rename_i t a b n;obtain⟨c,J,e⟩:=Ae.mp e;refine λ Q E m=>wpAny_IfExp ((u V z).tst O t c J Z X s F G _ _ λ v f o h w B=>?_);subst B;split
  ·rename_i q;rw[Ap q] at e;exact(u V z).ev O a d e Z X #[s,f,o] (F.ac h) (G.step h w) _ _ λ v2 g H N i j=>m v2 g H (h.trans N) (Ab w i) j
  ·rename_i q;rw[Ak q] at e;exact(u V z).ev O b d e Z X #[s,f,o] (F.ac h) (G.step h w) _ _ λ v2 g H N i j=>m v2 g H (h.trans N) (Ab w i) j
 ·obtain⟨b,L,rfl⟩:=As.mp e;exact(Py U u F G L).1
 ·exact Oe u _ s F G e
 ·rename_i I n;obtain⟨T,y,e⟩:=Ae.mp e;split at e<;>cases e;rename_i hl;refine λ Q E m=>?_;rw[Ol,AN n z I (Dt I T y)];refine Aa (AI (Aa (Ej u I T s y F G _ _ λ vs f o h w B=>?_)));exact BR.newList (s:=#[s,f,o]) (F.ac h).ah B hl _ _ λ v g H N i j=>m v g H (h.trans N) (Ab w i) j
 ·rename_i I kk n;obtain⟨T,y,e⟩:=Ae.mp e;split at e<;>cases e;rename_i hl;refine λ Q E m=>?_;rw[Lx,AN n z I (Dt I T y)];refine Aa (AI (Aa (Ej u I T s y F G _ _ λ vs f o h w B=>?_)));exact BR.newTuple (s:=#[s,f,o]) (F.ac h).ah B hl _ _ λ v g H N i j=>m v g H (h.trans N) (Ab w i) j
 ·obtain⟨b,L,e⟩:=Ae.mp e;exact UR u F G L e
 ·obtain⟨rs,hr,rfl⟩:=As.mp e;exact Nv U u F G hr
 ·obtain⟨rs,hr,rfl⟩:=As.mp e;exact NU Y U u F G hr
 ·exact Ob Y U u F G e
 ·cases e
theorem LV (r:Dh W C k mg mb)(t:Cg k A)(m:JE W A p)(e:TE C p V O x=some b)(F:FI W V z Z X s.heap O)(G:Gd W s):BR W A (isTrue x z (eval x z)) s (λ a _=>a=b):=by
 have f:∀(x:Expr)(d:PV),isTrue x z (eval x z)=(do let v <-eval x z;standAt x.pos;holding [v] (truthy v))->BR W A (eval x z) s (λ v u=>Rp W X u v d)->IU d=some b->BR W A (isTrue x z (eval x z)) s (λ a _=>a=b):=λ x d y B D Q E g=>by
  rw[y];refine Aa (B _ _ λ v o h w H I=>Aa (AI (AF ?_)));exact M4 (s:=#[s,o,h]) I D _ _ λ a i N j l n=>g a i N (w.trans j) (Ab H l) n
 unfold TE at e;split at e
 ·split at e
  ·rename_i q;subst q;obtain⟨c,J,rfl⟩:=As.mp e;exact λ Q E g=>wpAny_isTrue_Not ((m V z).tst O _ c J Z X s F G _ _ λ a o h w H n=>g _ o h w H (by rw[n]))
  ·cases e
 ·exact λ Q E g=>wpAny_isTrue_BoolOp (Lz m _ s F G e Q E g)
 ·exact(Py t m F G e).2
 ·obtain⟨d,hd,e⟩:=Ae.mp e;exact f _ d rfl (Nm r F G hd) e
 ·obtain⟨d,hd,e⟩:=Ae.mp e;exact f _ d rfl (Ob r t m F G hd) e
 ·cases e
theorem SO (h:DK V O e=some args):∃o k,e=.Call (.Name "range" o) args [] k/\Bz V "range"=true:=by
 unfold DK at h;split at h
 ·rename_i f s w k;split at h
  ·rename_i x A;obtain⟨o,rfl⟩:=Gq A;split at h<;>cases h;rename_i z;rw[Ah,Ah,Ah,Ah] at z;obtain⟨⟨⟨⟨C,E⟩,N⟩,H⟩,Q⟩:=z;have:=Bo C;subst this;have:w=[]:=by simpa using H
   subst this;exact⟨o,k,rfl,E⟩
  ·cases h
 ·cases h
theorem LY (m:Dh W C k mg mb)(L:Cg k A)(n:JE W A p)(e:TF p V O x=some c):(∀v,foldedSetIterable x z v=pure v)/\
 ∀Z X(s:Shared),FI W V z Z X s.heap O->Gd W s->BR W A (eval x z) s (λ v q=>V4 W X q v c):=by
 unfold TF at e;split at e
 ·rename_i f;refine⟨EP f z,λ Z X s F G=>?_⟩;split at e
  ·rename_i args D;obtain⟨M,l,rfl,I⟩:=SO D;obtain⟨y,g,e⟩:=Ae.mp e;refine λ Q E B=>BG (BM m F G I (.inr m.jp) ?_);rw[AN l z args (Dt args y g)];refine Jj (Jy args) (Gx args (Ej n args y s g F G _ _ λ R o h w H i=>?_));unfold Nf at e;split at e
   ·split at e<;>cases e;rename_i b N;cases i with |cons r j=>cases j;cases r with |int _ t=>
    refine call_range_1 (B _ _ _ (w.trans (.push _ _)) (Ab H (BD (A6 _))) ?_);have:=V4.range (W:=W) (X:=X) (IsRange.new o 0 b 1 h t (h+1)) N.1 ∅ ∅ ∅;simpa using this
   ·split at e<;>cases e;rename_i a b N;cases i with |cons r j=>cases j with |cons J j=>cases j;cases r with |int _ t=>cases J with |int _ u=>
    refine call_range_2 (B _ _ _ (w.trans (.push _ _)) (Ab H (A6 _)) ?_);exact V4.range (W:=W) (X:=X) (IsRange.new o a b 1 t u h) N.1 N.2.1 N.2.2.1 N.2.2.2
   ·cases e
  ·obtain⟨d,hd,e⟩:=Ae.mp e;refine((n V z).ev O x d hd Z X s F G).ac λ v q _ r=>?_;unfold SM at e;split at e<;>cases e
   ·exact .list r
   ·exact .ay r
 ·cases e
theorem A2 (o:Dh W C k mg mb)(w:Cg k A):∀n,JE W A (By C n)
 |0=>λ H z=>⟨(λ _ _ _ h=>by cases h),(λ _ _ _ h=>by cases h),(λ _ _ _ h=>by cases h)⟩
  |n+1=>λ H z=>⟨λ E x d h Z X s F G=>LZ o w (A2 o w n) h F G,λ E x b h Z X s F G=>LV o w (A2 o w n) h F G,λ E x N h=>LY o w (A2 o w n) h⟩
variable {t:Expr}{x y:Str}{a:BL} in
def AM:AC->Str->BL->AC
 |[],x,a=>[(x,a)]
 |(y,t)::O,x,a=>if y=x then(x,a)::O else(y,t)::AM O x a
theorem Aw (x:Str)(k:BL):∀(h:AC)(y:Str),(AM h x k).lookup y=if y=x then some k else h.lookup y
 |[],y=>by
   unfold AM;by_cases q:y=x
   ·subst q;rw[Ap rfl,An]
   ·rw[Ak q,Aj q]
  |(z,t)::h,y=>by
   unfold AM;by_cases q:z=x
   ·subst q;rw[Ap rfl];by_cases r:y=z
    ·subst r;rw[Ap rfl,An]
    ·rw[Ak r,Aj r,Aj r]
   ·rw[Ak q];by_cases r:y=z
    ·subst r;rw[An,An,Ak q]
    ·rw[Aj r,Aj r];exact Aw x k h y
variable {d:PV}{b:List PV}{a:List (Str×PV)}{x:Str} in
def QF (h:Scope):List Expr->List PV->AC->Option AC
 |[],[],O=>some O
 |e::a,d::b,O=>match Rq e with
  |some x=>if AR h x then QF h a b (AM O x (.aa d)) else none
  |none=>none
 |_,_,_=>none
variable {b:List PV}{a:List (Str×PV)}{x:Str} in
def DL (h:Scope)(t:Expr)(d:PV)(k:AC):Option AC:=match t,d with
 | .Name x _,d=>if AR h x then some (AM k x (.aa d)) else none
 | .Tuple a _ _,.ay b=>QF h a b k
 |_,_=>none
theorem VW:∀(o:List Expr)(k:List PV)(z s h:AC),(∀y,z.lookup y=s.lookup y)->QF V o k z=some h->∃w,Cw V o k s=some w/\∀y,h.lookup y=w.lookup y:=by
 intro o;induction o with
 |nil=>
  intro k z s h A e;cases k with
  |nil=>cases e;exact⟨s,rfl,A⟩
  |cons _ _=>cases e
 |cons N o C=>
  intro k z s h A e;cases k with
  |nil=>cases e
  |cons d k=>
   rw[QF] at e;rw[Cw];split at e
   ·rename_i x E;split at e
    ·rename_i H
     try rw[E]
     simp only[H,A0];refine C k _ _ h (λ y=>?_) e;rw[Aw];by_cases q:y=x
     ·subst q;rw[Ap rfl,An]
     ·rw[Ak q,Aj q];exact A y
    ·cases e
   ·cases e
theorem Yd (e:DL V t d O=some a):∃k,Dc V t d O=some k/\∀y,a.lookup y=k.lookup y:=by
 unfold DL at e;split at e
 ·rename_i x _;split at e<;>cases e;rename_i o;refine⟨(x,.aa d)::O,by simp[Dc,o],λ y=>?_⟩;rw[Aw];by_cases q:y=x
  ·subst q;rw[Ap rfl,An]
  ·rw[Ak q,Aj q]
 ·rename_i s _ _ w;obtain⟨h,z,A⟩:=VW s w O O a (λ _=>rfl) e;exact⟨h,by simpa[Dc] using z,A⟩
 ·cases e
variable {d:PV} in
inductive Fl where
 |next (O:AC)
 |brk (O:AC)
 |ret (d:PV)
structure XB (W:BH)(sc:Scope)(env:Env)(hb:Heap):Prop where
 am:A8 W W.h0 hb
 ea:W.dc hb
 wr:∀a,Ck sc env a->hb.get? a=none
def CF (h:Env)(k:Heap):Prop:=∃o s w,k.get? h.locals=some o/\o.cls=.type "frame"/\o.data=.dict s w
theorem CF.bb (f:CF z h)(E:A8 W h H):CF z H:=by
 obtain⟨o,w,A,N,s,hd⟩:=f;rcases E.1 _ o N with k |⟨_,_,O,k⟩ |⟨_,Q,C,k,_⟩
 ·exact⟨o,w,A,k,s,hd⟩
 ·exact⟨_,w,A,k,s,hd⟩
 ·subst k;cases s
theorem CF.bi (f:CF z h)(K:Ex h H):CF z H:=by
 obtain⟨o,E,N,O,Q,hd⟩:=f;obtain⟨V,k,s,w,A,C⟩:=K _ o E N O hd;exact⟨V,k,s,w,A.trans Q,C⟩
theorem CF.at (f:CF z h)(k:∀o,h.get? z.locals=some o->H.get? z.locals=some o):CF z H:=let⟨o,s,w,A,r⟩:=f;⟨o,s,w,k o A,r⟩
variable {tk:Nat} in
structure XS (W:BH)(sc:Scope)(env:Env)(hb:Heap)(Z X:List Addr)(s:Shared)(ρ:AC):Prop where
 F:FI W sc env Z X s.heap ρ
 le:A8 W hb s.heap
 tk:1<=s.toks
 fr:∀a∈X,a∉Z->hb.get? a=none
 fc:CF env s.heap
def BY (k:Scope)(h:Env)(s X:List Addr)(w z:Heap):Prop:=∀b o,((b∉X/\Db o)\/(b∈s/\¬Ck k h b/\o.cls≠.type "frame"/\o.cls≠.none))->w.get? b=some o->z.get? b=some o
theorem BY.refl:BY V z Z X h h:=λ _ _ _ e=>e
theorem BY.trans (a:BY V z Z X h H)(b:BY V z Z X H d):BY V z Z X h d:=λ c o k e=>b c o k (a c o k e)
theorem A8.af (k:A8 W h H):BY V z Z X h H:=λ _ _ o e=>o.elim (λ q=>Ce k e q.2) λ q=>k.keep e q.2.2.1 q.2.2.2
theorem Kg.af (S:Kg W (Ck V z) h H)(k:∀a,Ck V z a->a∈X):BY V z Z X h H:=λ b o s e=>S.keep b o (λ q=>s.elim (λ c=>c.1 (k b q)) λ c=>c.2.1 q) e
theorem BY.bw (k:Heap.SameBut a h H)(s:a∈X)(w:a∉Z):BY V z Z X h H:=λ b o A e=>(k.2 b λ q=>A.elim (λ c=>c.1 (q▸s)) λ c=>w (q▸c.1)).trans e
variable {d:PV} in
def D7 (z:BH)(A:Scope)(s:Env)(C:Heap)(w X:List Addr)(k:Shared)(H:Fl)(E:Flow->Shared->Prop):Prop:=match H with
 | .next O=>∀h o,XS z A s C w X #[k,h,o] O->BY A s w X k.heap h->k.toks<=o->E .next #[k,h,o]
 | .brk O=>∀h o,XS z A s C w X #[k,h,o] O->BY A s w X k.heap h->k.toks<=o->E .brk #[k,h,o]
 | .ret d=>∀v h o,A8 z C h->k.toks<=o->Rp z w h v d->E (.ret v) #[k,h,o]
theorem XS.gd (S:XS W V z N Z X s O)(B:XB W V z N):Gd W s:=⟨B.am.trans S.le,S.le.2 B.ea,S.tk⟩
theorem XS.ac {tk:Nat}(S:XS W V z N Z X s O)(h:A8 W s.heap H)(l:s.toks<=tk):XS W V z N Z X #[s,H,tk] O:=⟨S.F.ac h,S.le.trans h,Ab S.tk l,S.fr,S.fc.bb h⟩
theorem XS.ap (S:XS W V z N Z X s O)(k:∀x h,a.lookup x=some h->O.lookup x=some h):XS W V z N Z X s a:=⟨S.F.ap k,S.le,S.tk,S.fr,S.fc⟩
theorem Eh (w:A.handled=none)(B:XB W V z N)(S:XS W V z N Z X s O)(e:DL V t d O=some b)(r:Rp W X s.heap v d)
 (C:∀k h,XS W V z N Z X #[s,k,h] b->Kg W (Ck V z) s.heap k->s.toks<=h->c () #[s,k,h]):wpAny W.M A (assign t z v) c E s:=by
 obtain⟨i,H,Q⟩:=Yd e;refine Bw (n:=s.toks) (Am _) (KY S.F w H r λ k h f St l=>?_);have o:s.toks<=h:=l;exact C k h ⟨f.ap λ x j q=>by rw[<-Q];exact q,St.ik N (λ a g=>B.wr a g) S.le,Ab S.tk o,S.fr,S.fc.bi St.cls⟩ St o
def Mg:Expr->Bool
 | .Name .. =>true
 | .Tuple .. =>true
 |_=>false
theorem VV (e:DL V t d O=some a):Mg t=true:=by
 unfold DL at e;split at e
 ·rfl
 ·rfl
 ·cases e
def S2:Expr->Bool
 | .ListComp .. =>true
 | .DictComp .. =>true
 |_=>false
def EV:Expr->Bool
 | .SetComp .. =>false
 |_=>true
def Hw:Expr->Bool
 | .Tuple .. =>false
 |_=>true
theorem JY (o:Mg t=true)(k:EV value=true)(h:Nat):∃b,swapsWithSole [t] value h z=pure b/\(b=true->S2 value=true/\∃x s,t=.Name x s):=by
 cases t<;>first |(simp[Mg] at o;done) |skip
 ·cases value<;>first |exact⟨false,rfl,λ q=>nomatch q⟩ |(simp[EV] at k;done) |exact⟨_,rfl,λ _=>⟨rfl,_,_,rfl⟩⟩
 ·cases value<;>first |exact⟨false,rfl,λ q=>nomatch q⟩ |(simp[EV] at k;done)
theorem HX (o:Mg t=true)(h:Hw a=true\/∃x k,t=.Name x k):swappedStores [t] a z=pure none:=by
 rcases h with h |⟨x,k,rfl⟩
 ·cases t<;>first |(simp[Mg] at o;done) |skip
  ·cases a<;>first |rfl |(simp[Hw] at h;done)
  ·cases a<;>first |rfl |(simp[Hw] at h;done)
 ·cases a<;>rfl
theorem Fp (h:Mg t=true):(assignEach [t] z).map (·.2)=[assign t z]:=by
 cases t<;>first |(simp[Mg] at h;done) |rfl
theorem Bf (N:Mg t=true)(C:swapsWithSole [t] a b.line z=pure false)(H:swappedStores [t] a z=pure none)
 (O:wpAny W.M A (eval a z) (λ v h=>wpAny W.M A (assign t z v) (λ _ k=>c .next k) E h) E s):wpAny W.M A (exec (.Assign [t] a b) z) c E s:=by
 rw[QO];refine Aa (AI (Aa (AA C ?_)));simp only[Aq,AS];refine Aa (BP O (λ v h o=>Aa (AA H ?_)) λ _ _ x=>x);rw[Fp N];exact Aa (BP o (λ _ _ w=>Af w) λ _ _ x=>x)
theorem Kn (B:XB W V z N)(S:XS W V z N Z X s O)(hh:A.handled=none)(e:DL V t d O=some f){g:Flow->Shared->Prop}(hQ:D7 W V z N Z X s (.next f) g)
 {c:Addr} (R:s.heap.get? c=none) (Q:A8 W s.heap H) (l:s.toks<=i) (hn:H.Ns c m) (r:Rp W (c::X) H (.ref D) d):
 compPost W.M A E (some λ v=>assignAll v [assign t z]) (λ _ p=>g .next p) (.ref D) c (.ok .next) #[s,H,i]:=by
 have u:∃o,H.get? c=some o:=by obtain⟨o,_,_,C,_⟩:=hn;exact⟨o,C⟩
 have j:c∉X:=λ q=>by obtain⟨o,C⟩:=S.F.ah c q;rw[R] at C;cases C
 have y:c∉Ay z:=λ q=>j (S.F.zx _ (S.F.aw _ q));have U:N.get? c=none:=by
  cases q:N.get? c with
  |none=>rfl
  |some o=>obtain⟨o',k⟩:=AP S.le ⟨o,q⟩;rw[R] at k;cases k
 have G:XS W V z N (c::Z) (c::X) #[s,H,i] O:=
  ⟨S.F.fresh (B.am.trans S.le) Q R u,S.le.trans Q,Ab S.tk l,λ a Y hz=>S.fr a ((Ag.mp Y).resolve_left λ q=>hz (q▸Ac)) λ q=>hz (Ad _ q),S.fc.bb Q⟩
 show wpAny W.M A (assign t z (.ref D)) _ E _;refine Eh hh B G e r λ I n h St J=>?_;have a0:¬Ck V z c:=λ q=>j (S.F.bo q);have w:I.Ns c m:=by obtain⟨o,es,ep,C,x⟩:=hn;exact⟨o,es,ep,St.keep c o a0 C,x⟩
 refine⟨m,w,λ L T=>?_⟩;refine hQ L n ⟨h.F.be (λ b o N e=>(T.2 b N).trans e) y j S.F.zx,h.le.az U (λ o vs C hd=>?_) T,h.tk,S.fr,h.fc.at λ o C=>(T.2 _ λ q=>y (q▸Ac)).trans C⟩ (λ b o hd e=>?_) (Ab l J)
 ·obtain⟨o',es,ep,k,M,_⟩:=w;rw[C] at k;cases k;rw[hd] at M;cases M
 ·have a1:b≠c:=λ q=>by rw[q,R] at e;cases e
  rw[T.2 b a1];exact(St.af (X:=X) (Z:=Z) λ a Y=>S.F.bo Y) b o hd (Q.af b o hd e)
def EZ (k:Scope)(h:Env)(o:Heap)(x:Str)(v:Value):Prop:=
 (k.names.lookup x=some .local/\∃m,o.Ns h.locals m/\m x=some v)\/((k.names.lookup x=some .cell\/k.names.lookup x=some .free)/\∃c,h.cells.lookup x=some c/\o.IsCell c (some v))
section
theorem EZ.bk (a:EZ V z h x v)(b:EZ V z h x d):v=d:=by
 rcases a with⟨a,m,H,e⟩ |⟨a,c,N,i⟩<;>rcases b with⟨b,j,A,O⟩ |⟨b,l,w,Q⟩
 ·obtain⟨o,n,p,C,hd,_,W⟩:=H;obtain⟨Z,f,g,s,k,_,E⟩:=A;rw[C] at s;cases s;rw[hd] at k;cases k;have:some v=some d:=by rw[<-e,<-O,<-W,<-E]
  injection this
 ·rcases b with b |b<;>(rw[a] at b;cases b)
 ·rcases a with a |a<;>(rw[b] at a;cases a)
 ·rw[N] at w;cases w;obtain⟨o,C,hd⟩:=i;obtain⟨Z,s,k⟩:=Q;rw[C] at s;cases s;rw[hd] at k;injection k with k;injection k
theorem EZ.ac (a:EZ V z h x v)(k:A8 W h H):EZ V z H x v:=by
 rcases a with⟨a,m,o,e⟩ |⟨a,c,s,i⟩
 ·exact .inl ⟨a,m,B2 k o,e⟩
 ·exact .inr ⟨a,c,s,E6 k i⟩
theorem FI.at (F:FI W V z Z X h O)(o:O.lookup x=some sl):∃v,EZ V z h x v/\Bg W Z X h v sl:=by
 obtain⟨hd,w⟩:=F.dk x sl o;rcases hd with k |k
 ·obtain⟨m,A,s⟩:=F.ns;obtain⟨v,e,r⟩:=s x sl k o;exact⟨v,.inl ⟨k,m,A,e⟩,r⟩
 ·obtain⟨c,C,e,i,s⟩:=F.cell x k;obtain⟨v,rfl,r⟩:=s sl o;exact⟨v,.inr ⟨k,c,e,i⟩,r⟩
theorem FI.bp (F:FI W V z Z X s.heap O)(w:O.lookup x=some sl)(C:EZ V z s.heap x v)(o:Q v s):wpAny W.M A (eval (.Name x a) z) Q E s:=by
 refine PK ?_ (F4 (F.dk x sl w).2).1;rcases C with⟨h,m,H,e⟩ |⟨h,c,e,i⟩
 ·exact Ek F.kind (F.dy x h) H e o
 ·rcases h with h |h
  ·exact Ki F.kind (F.cu x h) e i o
  ·rcases F.di x h with k |k
   ·exact wpAny_loadName_free F.kind k e i o (F4 (F.dk x sl w).2).2
   ·exact Ki F.kind k e i o
theorem FI.de (F:FI W V z Z X h O)(l:O.lookup x=some (.own d))(J:EZ V z h x (.ref a))(g:Heap.SameBut a h H)(n:a∈X)(p:a∉Z)(D:BX W X H a f):
 FI W V z Z X H (AM O x (.own f)):=by
 have E:∀y v A,EZ V z h y v->O.lookup y=some A->Bg W Z X h v A->∀k,(AM O x (.own f)).lookup y=some k->Bg W Z X H v k:=by
  intro y v A t N r k s;rw[Aw] at s;by_cases q:y=x
  ·subst q;rw[Ap rfl] at s;injection s with s;subst s;exact⟨a,EZ.bk t J,n,p,D⟩
  ·rw[Ak q,N] at s;injection s with s;subst s;cases A with
   |aa e=>exact Rp.az g n r
   |al u=>exact r
   |bl u e=>exact⟨r.1,Rp.az g n r.2⟩
   |own e=>exact absurd (F.bu y x e d N l) q
 have C:∀y k,(AM O x (.own f)).lookup y=some k->∃A,O.lookup y=some A:=by
  intro y k s;rw[Aw] at s;by_cases q:y=x
  ·subst q;exact⟨_,l⟩
  ·rw[Ak q] at s;exact⟨_,s⟩
 have B:∃o,H.get? a=some o:=D.alive;exact{F with
  ns:=by
   obtain⟨m,G,Q⟩:=F.ns;refine⟨m,G.sameBut g (λ q=>p (q▸F.aw _ Ac)),λ y k N s=>?_⟩;obtain⟨A,w⟩:=C y k s;obtain⟨v,e,r⟩:=Q y A N w;exact⟨v,e,E y v A (.inl ⟨N,m,G,e⟩) w r k s⟩
  cell:=λ y N=>by
   obtain⟨c,L,e,i,Q⟩:=F.cell y N;refine⟨c,L,e,i.sameBut g (λ q=>p (q▸F.aw _ (Bq e))),λ k s=>?_⟩;obtain⟨A,w⟩:=C y k s;obtain⟨v,rfl,r⟩:=Q A w;exact⟨v,rfl,E y v A (.inr ⟨N,c,e,i⟩) w r k s⟩
  dk:=λ y k s=>by
   obtain⟨A,w⟩:=C y k s;exact F.dk y A w
  alive:=λ b I=>⟨(F.alive b I).1,EH g B (F.alive b I).2⟩
  bu:=λ y M R S T U=>by
   have j:∀y e,(AM O x (.own f)).lookup y=some (.own e)->y=x:=λ y e s=>by
    by_cases q:y=x
    ·exact q
    ·rw[Aw,Ak q] at s;exact F.bu y x e d s l
   rw[j y R T,j M S U]}
theorem FI.gg (F:FI W V z f X h O)(w:∀a∈Z,a∈f)(A:∀a∈Ay z,a∈Z):FI W V z Z X h O:=by
 have k:∀{v o},Bg W f X h v o->Bg W Z X h v o:=λ{v o} r=>by
  cases o with
  |aa d=>exact r
  |al u=>exact r
  |bl u d=>exact r
  |own d=>obtain⟨a,e,m,C,r⟩:=r;exact⟨a,e,m,λ q=>C (w a q),r⟩
 exact{F with
  aw:=A
  zx:=λ a E=>F.zx a (w a E)
  ns:=by
   obtain⟨m,H,s⟩:=F.ns;exact⟨m,H,λ x o a b=>let⟨v,e,r⟩:=s x o a b;⟨v,e,k r⟩⟩
  cell:=λ x N=>let⟨c,Q,e,i,s⟩:=F.cell x N;⟨c,Q,e,i,λ o q=>let⟨v,e,r⟩:=s o q;⟨v,e,k r⟩⟩}
theorem XS.de (S:XS W V z N Z X s O)(C:O.lookup x=some (.own d))(E:EZ V z s.heap x (.ref a))(h:Heap.SameBut a s.heap H)(A:a∈X)(k:a∉Z)
 (w:∀o Q,s.heap.get? a=some o->o.data=.fields Q->o.cls≠.none/\o.cls≠.type "code") (e:BX W X H a b) (l:s.toks<=c):
 XS W V z N Z X #[s,H,c] (AM O x (.own b)):=
 ⟨S.F.de C E h A k e,S.le.az (S.fr a A k) w h,Ab S.tk l,S.fr,S.fc.at λ o f=>(h.2 _ λ q=>k (q▸S.F.aw _ Ac)).trans f⟩
theorem Pb (B:XB W V z N)(S:XS W V z N Z X s O)(v:AR V x=true)(Q:∀y e,O.lookup y=some (.own e)->y=x)
 (n:s.heap.get? a=none) (p:A8 W s.heap H) (l:s.toks<=c) (D:BX W (a::X) H a d) {f:Unit->Shared->Prop}
 (I:∀k h,XS W V z N Z (a::X) #[s,k,h] (AM O x (.own d))->s.toks<=h->f () #[s,k,h]):
 wpAny W.M A (assign (.Name x g) z (.ref a)) f E #[s,H,c]:=by
 have r:N.get? a=none:=by
  cases q:N.get? a with
  |none=>rfl
  |some o=>obtain⟨R,i⟩:=AP S.le ⟨o,q⟩;rw[n] at i;cases i
 have t:a∉X:=λ q=>by obtain⟨o,G⟩:=S.F.ah a q;rw[n] at G;cases G
 have j:FI W V z Z (a::X) H O:=(S.F.fresh (B.am.trans S.le) p n D.alive).gg (λ b N=>Ad _ N) S.F.aw;have u:a∉Z:=λ q=>t (S.F.zx a q);refine DD (FI.cq (s:=#[s,H,c]) j (sl:=.own d) (DJ v).2 (DJ v).1 ⟨a,rfl,Ac,u,D⟩ (λ e T y J L=>Q y J L) λ k h m St C=>?_);refine I k h ⟨m.ap λ y U q=>?_,St.ik N (λ b w=>B.wr b w) (S.le.trans p),Ab S.tk (Ab l C),λ b w M=>?_,(S.fc.bb p).bi St.cls⟩ (Ab l C)
 ·rw[Aw] at q;by_cases e:y=x
  ·subst e;rw[Ap rfl] at q;rw[An];exact q
  ·rw[Ak e] at q;rw[Aj e];exact q
 ·rcases Ag.mp w with rfl |w
  ·exact r
  ·exact S.fr b w M
end
variable {d:List Value}{r:List Stmt}{c:List (Str×PV)}{l:List Env}{f:CmpOp} in
def Ll (p:JV)(h:Scope)(k:AC)(e:Expr):Option PV:=match e with
 | .List c _=>(CZ p h k c).bind λ o=>if o.length<=Bi then some (.list o) else none
 | .Dict s d _=>if s.isEmpty&&d.isEmpty then some (.dict []) else none
 | .BinOp l f r _=>(p.ev h k l).bind λ a=>(p.ev h k r).bind λ b=>match a with
   | .list _=>EY f a b
   |_=>none
 |_=>none
variable {a:List PV}{b:List (Str×PV)} in
def Wu (d h v:PV):Option PV:=match d,h with
 | .list a,.int h=>if 0<=h/\h<a.length then some (.list (a.set h.toNat v)) else none
 | .dict b,.str h=>if b.length<Bi then some (.dict (DZ b h v)) else none
 |_,_=>none
variable {d:PV} in
def Gg (h:AC)(x:Str):Option PV:=match h.lookup x with
 |some (.own d)=>some d
 |_=>none
def Jx (p:JV)(h:Scope)(k:AC)(t v:Expr):Option AC:=
 if EV v&&(Hw v||(Rq t).isSome) then(p.ev h k v).bind λ d=>DL h t d k else none
def P5 (h:AC)(x:Str):Bool:=h.all λ q=>match q.2 with | .own _=>q.1==x |_=>true
variable {i:Nat} in
def M9:Expr->Option (Str×Expr)
 | .Subscript o i _=>(Rq o).map λ x=>(x,i)
 |_=>none
def P8:Expr->Bool
 | .Slice .. =>false
 |_=>true
variable {i:Nat}{t:Expr}{x:Str} in
def HH (p:JV)(s:Str->Bool)(o:Scope)(h:AC)(w:List Expr)(v:Expr):Option AC:=match w with
 |[t]=>match M9 t with
  |some (x,i)=>if P8 i then(Gg h x).bind λ d=>(p.ev o h v).bind λ z=>(p.ev o h i).bind λ k=>(Wu d k z).map λ A=>AM h x (.own A) else none
  |none=>match Rq t with
   |some x=>if s x then(if AR o x&&P5 h x then(Ll p o h v).map λ d=>AM h x (.own d) else none) else Jx p o h t v
   |none=>Jx p o h t v
 |_=>none
variable {a f:Addr}{args:List Expr}{c:Pos}{b:List PV} in
def KO (p:JV)(A:Scope)(k:AC)(e:Expr):Option AC:=match e with
 | .Call f args s c=>match f,args with
   | .Attribute o name h,[a]=>if s.isEmpty&&Bk a&&(h.endLine==c.line) then
    (Rq o).bind λ x=>(Gg k x).bind λ d=>(p.ev A k a).bind λ w=>match d with
     | .list b=>if name==("append":Str) then(if b.length<Bi then some (AM k x (.own (.list (b++[w])))) else none)
      else if name==("extend":Str) then(match w with | .list z=>if b.length+z.length<=Bi then some (AM k x (.own (.list (b++z)))) else none |_=>none) else none
     |_=>none
     else none
   |_,_=>none
 |_=>none
theorem Bl (h:Heap):h.get? h.objs.size=none:=by
 cases e:h.get? h.objs.size with
 |none=>rfl
 |some o=>exact absurd (AO e) (D9 _)
theorem Oh (j:∃z,a=.list z)(C:Rp W X s.heap f a)(H:Rp W X s.heap g b)(e:EY c a b=some d):
 BR W A (binaryOp c f g) s (λ v p=>v=.ref s.heap.objs.size/\BX W (s.heap.objs.size::X) p s.heap.objs.size d):=.of λ Q E N=>by
 have S:=Ei;have O:=Bl s.heap;unfold EY at e;split at e
 all_goals try (obtain⟨_,q⟩:=j;cases q;done)
 ·cases C with |@list l o n z h r t w=>cases H with |@list m V k T Z U Y i=>
  split at e<;>cases e;rename_i y;have B:=w.length;have D:=i.length;simp at B D;refine concat_meets (T:="list") ⟨_,h,rfl⟩ ⟨_,Z,rfl⟩ noFill_list_add seq_list_add PySem.F.slot_list_add PySem.F.entry_list_add (PySem.F.args_list_add_2 _ _)
   (PyProof.Rows.list_addW l m o V n k Option.none Option.none #[] #[] ∅) ⟨h,Z,?_⟩
  refine N _ _ _ (.push _ _) ⟨rfl,_,_,Ar _ rfl,by simp;omega,?_⟩;have:=((w.append i).au O).ac (A8.push (W:=W) s.heap (Fz (o++V) 0));simpa using this
 ·rename_i x k;cases H with |int _ u=>cases C with |@list l o n z h r t w=>
  split at e<;>cases e;rename_i y;obtain⟨v,G⟩:∃v,o= #[v]:=by
   have I:=w.length;obtain⟨J⟩:=o
   match J,I with
   |[v],_=>exact⟨v,rfl⟩
  subst G;refine wpAny_binaryOp_repeat_ref (T:="list") (U:="int") {_} ⟨_,h,rfl⟩ (λ L=>typeIs_int L k u) noFill_list_mul F.fills_int_mul QR repeat_list F.slot_int_index.lookup
   (Hl QR (typeIs_int s k u) F.entry_int_rmul (F.args_int_rmul_2 _ _) (int___rmul___int_list k u l #[v] n)
    ⟨h,rfl,⟨_,h,rfl⟩,Hl F.slot_list_mul ⟨_,h,rfl⟩ F.entry_list_mul (F.args_list_mul_2 _ _)
      (AutoListH.list___mul___list_int_3 l #[v] n k u (by simp[Builtin.List.listFitsIndex];omega) (by simp;omega) (by simp[Builtin.List.listTooLong,sizeLine];omega))
      ⟨h,?_⟩⟩)
  have M:(if(#[v]:Array Value).isEmpty=true then 0 else k.toNat)=k.toNat:=(_)
  have R:Rp W X s.heap v x:=by
   have:=w;simp at this;cases this;assumption
  rw[M,EC];refine N _ _ _ (.push _ _) ⟨rfl,_,_,Ar _ rfl,?_,?_⟩
  ·simp[Bi];omega
  ·have:=((RpL.replicate R k.toNat).au O).ac (A8.push (W:=W) s.heap (Fz (#[]++(List.replicate k.toNat v).toArray) 0));simpa using this
 ·cases e
theorem Go (Gk:Dh W C k mg mb)(M:JE W A p)(F:FI W V z Z X s.heap O)(G:Gd W s)(H:Ll p V O e=some d)
 (R:∀a S tk,s.heap.get? a=none->A8 W s.heap S->s.toks<=tk->BX W (a::X) S a d->Q (.ref a) #[s,S,tk]):wpAny W.M A (eval e z) Q E s:=by
 have n:∀{w:Heap}{a:Addr},A8 W s.heap w->w.get? a=none->s.heap.get? a=none:=λ{w a} h T=>by
  cases q:s.heap.get? a with
  |none=>rfl
  |some o=>obtain⟨o',t⟩:=AP h ⟨o,q⟩;rw[T] at t;cases t
 unfold Ll at H;split at H
 ·rename_i U i;obtain⟨ds,u,H⟩:=Ae.mp H;split at H<;>cases H;rename_i hl;rw[Ol,AN i z U (Dt U ds u)];refine Aa (AI (Aa (Ej M U ds s u F G _ _ λ Y w c h N I=>?_)));have a2:=I.length;have hb:=Ei;refine Bj (R _ _ _ (n h (Bl w)) (h.trans (.push _ _)) N ⟨_,_,Ar _ rfl,by simp;omega,?_⟩) (by show Y.toArray.size<=sizeLine;simp;omega);exact(I.au (Bl w)).ac (.push _ _)
 ·rename_i ks Y i;split at H<;>cases H;rename_i hq;rw[Ah] at hq;have J:ks=[]:=by simpa using hq.1
  have h2:Y=[]:=by simpa using hq.2
  subst J h2;refine wpAny_Dict_empty (R _ _ _ (Bl s.heap) (.push _ _) (Am _) ⟨[],⟨_,#[],0,Ar _ rfl,⟨rfl,rfl,rfl⟩,rfl,λ _ he=>by simp at he,Pairs.nil,List.nodup_nil⟩,?_,BT _,rfl,.nil⟩);cases q:(s.heap.objs.size==sysModules) with
  |false=>rfl
  |true=>
   obtain⟨o,L⟩:=AP G.am Gk.ir;rw[<-Bo q,Bl] at L;cases L
 ·rename_i l op r i;obtain⟨a,T,J⟩:=Ae.mp H;clear H;obtain⟨b,hb,H⟩:=Ae.mp J;clear J;split at H
  ·rename_i xs;refine MH ((M V z).ev O l _ T Z X s F G _ _ λ v w c h N I=>(M V z).ev O r b hb Z X #[s,w,c] (F.ac h) (G.step h N) _ _ λ v2 g j f x a0=>?_);refine Oh (s:=#[s,g,j]) ⟨xs,rfl⟩ (I.ac f) a0 H _ _ λ v3 y m B D a1=>?_;obtain⟨rfl,L⟩:=a1;exact R _ y m (n (h.trans f) (Bl g)) ((h.trans f).trans B) (Ab N (Ab x D)) L
  ·cases H
 ·cases H
def Ku (h:Ge)(p:JV):JV:=⟨QZ h p,TE h p,TF p⟩
theorem FX (o:Dh W C k mg mb)(w:Cg k A)(z:JE W A p):JE W A (Ku C p):=
 λ N H=>⟨λ E x d h Z X s F G=>LZ o w z h F G,λ E x b h Z X s F G=>LV o w z h F G,λ E x O h=>LY o w z h⟩
theorem NW (Gk:Dh W C k mg mb)(U:Cg k A)(a0:JE W A p)(B:XB W V z N)(S:XS W V z N Z X s O)(e:Jx (Ku C p) V O t v=some j)(hQ:D7 W V z N Z X s (.next j) c):
 wpAny W.M A (exec (.Assign [t] v n) z) c E s:=by
 unfold Jx at e;split at e
 ·rename_i hq;rw[Ah,BN] at hq;obtain⟨b0,b1⟩:=hq;obtain⟨d,hd,e1⟩:=Ae.mp e;clear e;have ht:=VV e1;have a1:Hw v=true\/∃x pp,t=.Name x pp:=b1.imp id λ q=>by
   cases Y:Rq t with
   |none=>rw[Y] at q;cases q
   |some x=>obtain⟨pp,rfl⟩:=Gq Y;exact⟨x,pp,rfl⟩
  obtain⟨b,a2,b2⟩:=JY (z:=z) ht b0 n.line;have Hs:=FX Gk U a0;cases b with
  |false=>
   refine Bf ht a2 (HX ht a1) ((Hs V z).ev O v d hd Z X s S.F (S.gd B) _ _ λ v' b5 b3 I J rv=>?_);exact Eh U.handled B (S.ac I J) e1 rv λ a3 L a4 St a5=>hQ a3 L a4 (I.af.trans (St.af λ a ha=>S.F.bo ha)) (Ab J a5)
  |true=>
   obtain⟨hc,x,pp,rfl⟩:=b2 rfl;rw[QO];refine Aa (AI (Aa (AA a2 ?_)));simp only[A0];rw[Fp ht];have a6:QZ C p V O v=some d:=hd;cases v<;>first |(simp[S2] at hc;done) |skip
   ·rename_i b6 a7 M a8;obtain⟨rs,hr,rfl⟩:=As.mp a6;obtain⟨g,gs,xs,rfl,H,Q,hx,u,R⟩:=HB hr;have w:=GN u;have h1:firstAsync (g::gs)=false:=by obtain⟨t,i,f,a⟩:=g;simp only at w;subst w;rfl
    have h2:firstIter (g::gs) z=eval g.iter z:=by obtain⟨t,i,f,a⟩:=g;rfl
    rw[Om,h1,h2];exact Aa (Aa (BP (Gu (Q:=λ _ y=>c .next y) (λ G=>a0 M G) U.handled H u R S.F (S.gd B) (EP Q z) (((a0 V z).itr O g.iter xs hx).2 Z X s S.F (S.gd B))
     λ D C h' tk m hD hC b4 T l Y r=>Kn B S U.handled e1 hQ hC T l Y r) (λ _ _ h=>Af (Af h)) λ _ _ x=>x))
   ·rename_i kx vx a7 M a8;obtain⟨rs,hr,rfl⟩:=As.mp a6;obtain⟨g,gs,xs,rfl,H,Q,hx,u,R⟩:=HB hr;have w:=GN u;have h1:firstAsync (g::gs)=false:=by obtain⟨t,i,f,a⟩:=g;simp only at w;subst w;rfl
    have h2:firstIter (g::gs) z=eval g.iter z:=by obtain⟨t,i,f,a⟩:=g;rfl
    have a9:∀a,s.heap.get? a=none->(a==sysModules)=false:=λ a ha=>by
     cases q:a==sysModules with
     |false=>rfl
     |true=>
      obtain⟨o,ho⟩:=AP (S.gd B).am Gk.ir;rw[<-Bo q,ha] at ho;cases ho
    rw[arm_evalThenUse_DictComp,h1,h2];exact Aa (Aa (BP (KR (Q:=λ _ y=>c .next y) (λ G=>a0 M G) U.handled H u R S.F (S.gd B) (EP Q z) (((a0 V z).itr O g.iter xs hx).2 Z X s S.F (S.gd B)) a9
     λ D C h' tk m hD hC b4 T l Y r=>Kn B S U.handled e1 hQ hC T l Y r) (λ _ _ h=>Af (Af h)) λ _ _ x=>x))
 ·cases e
theorem Nh (h:Gg O x=some d):O.lookup x=some (.own d):=by
 unfold Gg at h;split at h
 ·rename_i q;cases h;exact q
 ·cases h
theorem Ox (h:M9 t=some (x,i)):∃k s,t=.Subscript (.Name x k) i s:=by
 unfold M9 at h;split at h
 ·rename_i o z s;obtain⟨y,w,q⟩:=As.mp h;obtain⟨k,rfl⟩:=Gq w;cases q;exact⟨k,s,rfl⟩
 ·cases h
theorem Hg (r:BX W X h a d):∀o w,h.get? a=some o->o.data=.fields w->o.cls≠.none/\o.cls≠.type "code":=by
 intro o w z hd;cases d with
 |list E=>obtain⟨H,n,e,_⟩:=r;rw[z] at e;cases e;cases hd
 |dict N=>obtain⟨A,e,_⟩:=r;obtain⟨O,C,Q,k,V,s,_⟩:=e;rw[z] at k;cases k;rw[s] at hd;cases hd
 |_=>exact r.elim
theorem RpL.set (h:Rp W X c v d):∀{k:List Value}{o:List PV}(j:Nat),RpL W X c k o->RpL W X c (k.set j v) (o.set j d)
 |_,_,_,.nil=>.nil
  |_,_,0,.cons a b=>.cons h b
  |_,_,j+1,.cons a b=>.cons a (RpL.set h j b)
theorem LU (a8:JE W A p)(B:XB W V z N)(S:XS W V z N Z X s O)(hx:Gg O x=some d)(hv:p.ev V O v=some b)(hi:p.ev V O i=some c)(hd:Wu d c b=some g)
 (hQ:D7 W V z N Z X s (.next (AM O x (.own g))) j):wpAny W.M A (exec (.Assign [.Subscript (.Name x l) i f] v e) z) j E s:=by
 have w:=Nh hx;have a5:swapsWith v (some (.Subscript (.Name x l) i f)) e.line z=pure false:=by cases v<;>rfl
 obtain⟨va,a0,hr⟩:=S.F.at w;obtain⟨a,rfl,U,hZ,hr⟩:=hr;refine wpAny_Assign_Subscript ((a8 V z).ev O v b hv Z X s S.F (S.gd B) _ _ λ v' J Q h m rv=>?_) a5;have C:=S.ac h m;refine FI.bp (s:=#[s,J,Q]) C.F w (a0.ac h) ?_;refine(a8 V z).ev O i c hi Z X #[s,J,Q] C.F (C.gd B) _ _ λ kv L r k u rk=>?_;have M:=C.ac k u;have D:=(hr.ac h).ac k;have G:=rv.ac k;have H:=(a0.ac h).ac k;unfold Wu at hd;split at hd
 ·rename_i xs I;split at hd<;>cases hd;rename_i hk;cases rk with |int _ t=>
  obtain⟨vs,n,Y,a6,rl⟩:=D;have a1:=rl.length;simp at a1;have a7:Bi=1048576:=rfl;refine ki_setAt Y hk.1 ∅ ∅ ?_;have R:=BA L a (Obj.mapSeq (·.setIfInBounds I.toNat v'))
  have a2:=PySem.IsL.update Y (·.setIfInBounds I.toNat v')
  refine hQ _ r (M.de w H R U hZ (λ o a9 ho hd=>?_) ⟨_,_,a2,by simpa using a6,?_⟩ (Am _)) ((h.trans k).af.trans (.bw R U hZ)) (Ab m u)
  ·have a3:L.get? a=some o:=ho;rw[Y] at a3;cases a3;cases hd
  ·have:=(RpL.set G I.toNat rl).az R U;simpa using this
 ·rename_i es I;split at hd<;>cases hd;rename_i hk;cases rk with |str _ t o1 z1=>
  obtain⟨T,Y,y,a6,q,rl⟩:=D;have b0:T.length=es.length:=by simpa using Cb List.length q
  have a7:=Ei;refine wpAny_setItem_pairs (knd:=W.K) (k:=I) (by simp[BH.K,_root_.PySem.strKind,Value.isStrOf]) Y (λ a4 hm R=>?_) ∅;obtain⟨q1,q2⟩:=La (k:=I) q rl G;have b1:=FW es I b;have b2:(stored T I v').length=(DZ es I b).length:=by simpa using Cb List.length q1
  refine hQ a4 (r+1) (M.de w H R U hZ (Hg (W:=W) (X:=X) (d:=.dict es) ⟨T,Y,y,a6,q,rl⟩) ⟨_,hm,y,∅,q1,q2.az R U⟩ (A6 _)) ((h.trans k).af.trans (.bw R U hZ)) (Ab m (BD u))
 ·cases hd
theorem VN (h:KO p V O e=some b):∃x E name k a s w z,e=.Call (.Attribute (.Name x E) name k) [a] [] s/\Bk a=true/\(k.endLine==s.line)=true/\Gg O x=some (.list w)/\p.ev V O a=some z/\
 ((name="append"/\w.length<Bi/\b=AM O x (.own (.list (w++[z]))))\/(name="extend"/\∃A,z=.list A/\w.length+A.length<=Bi/\b=AM O x (.own (.list (w++A))))):=by
 unfold KO at h;split at h
 ·rename_i f args H s;split at h
  ·rename_i o name k a;split at h
   ·rename_i Q;rw[Ah,Ah] at Q;obtain⟨⟨i,W⟩,Z⟩:=Q;have:H=[]:=by simpa using i
    subst this;obtain⟨x,j,c⟩:=Ae.mp h;clear h;obtain⟨E,rfl⟩:=Gq j;obtain⟨d,hd,g⟩:=Ae.mp c;clear c;obtain⟨z,C,h⟩:=Ae.mp g;clear g;cases d with
    |list w=>
     simp only at h;by_cases q:(name==("append":Str))=true
     ·rw[Ap q] at h;split at h<;>cases h;exact⟨x,E,name,k,a,s,w,z,rfl,W,Z,hd,C,.inl ⟨Bo q,by assumption,rfl⟩⟩
     ·rw[Ak q] at h;by_cases N:(name==("extend":Str))=true
      ·rw[Ap N] at h;cases z with
       |list A=>
        simp only at h;split at h<;>cases h;exact⟨x,E,name,k,a,s,w,_,rfl,W,Z,hd,C,.inr ⟨Bo N,A,rfl,by assumption,rfl⟩⟩
       |_=>cases h
      ·rw[Ak N] at h;cases h
    |_=>cases h
   ·cases h
  ·cases h
 ·cases h
theorem VM (h:s.heap.get? D=some (Fz c n))(o:s.heap.get? b=some (Fz a m))(N:c.size+a.size<=Bi)
 (w:∀k z,k.get? D=some (Fz (c++a) z)->Heap.SameBut D s.heap k->Q .none #[s,k]):wpAny W.M A (call (.builtin "list.extend") [.ref D,.ref b]) Q E s:=by
 have C:=Ei;have H:Bi=1048576:=rfl;refine Hl F.slot_list_extend ⟨_,h,rfl⟩ F.entry_list_extend (F.args_list_extend_2 _ _) (AutoSeq1.list_extend_list_list_0 D c n b a m ?_ ∅ ∅) ⟨h,o,?_⟩
 ·simp[Builtin.List.listTooLong,sizeLine];omega
 ·exact w _ _ (PySem.IsL.update h λ x=>x++a) (BA ..)
theorem Ia (hA:Cg k A)(a3:JE W A p)(B:XB W V z N)(S:XS W V z N Z X s O)(a5:KO p V O e=some c)(hQ:D7 W V z N Z X s (.next c) d):
 wpAny W.M A (exec (.Expr e f) z) d E s:=by
 obtain⟨x,np,name,a4,a,i,xs,dv,rfl,Y,j,hx,a0,L⟩:=VN a5;have H:=Nh hx;have a1:interactive z=false:=by unfold interactive;rw[S.F.kind];rfl
 refine wpAny_Expr ?_ a1 rfl;obtain⟨va,I,hr⟩:=S.F.at H;obtain⟨D,rfl,T,hZ,hr⟩:=hr;have l:backTo i (starEach [a] z)=[(false,eval a z)]:=AN i z [a] (by simp[Y]);have J:=NJ (z:=z) [a] i (by simp[Y]) (_);rcases L with⟨rfl,hz,rfl⟩ |⟨rfl,ys,rfl,hz,rfl⟩
 ·refine wpAny_Call_append rfl J j l (FI.bp S.F H I ?_);obtain⟨vs,n,U,a6,rl⟩:=hr;refine⟨D,vs,rfl,⟨_,n,U,rfl,rfl,rfl⟩,(a3 V z).ev O a dv a0 Z X s S.F (S.gd B) _ _ λ v C w h Q rv=>?_⟩;have q:C.get? D=some (Fz vs n):=h.keep U (_) (_);have r:=rl.length;simp at r;have t:=S.ac h Q;refine Io (s:=#[s,C,w]) q ∅ λ u y g M=>?_;refine hQ u w (t.de H (I.ac h) M T hZ (λ o a2 ho hd=>?_) ⟨_,y,g,by simp;omega,?_⟩ (Am _)) (h.af.trans (.bw M T hZ)) Q
  ·have G:C.get? D=some o:=ho;rw[q] at G;cases G;cases hd
  ·have:=((rl.ac h).append (RpL.bt rv)).az M T;simpa using this
 ·refine wpAny_Call_method (T:="list") (id:="list.extend") rfl J j PySem.F.plainAttrs_list PySem.F.slot_list_extend PySem.F.type_list_extend (FI.bp S.F H I ?_);obtain⟨vs,n,U,a6,rl⟩:=hr;refine⟨⟨_,U,rfl⟩,λ b N=>by cases N;exact⟨_,U,rfl⟩,?_⟩;rw[l];refine Fr rfl (A1 (Av ((a3 V z).ev O a _ a0 Z X s S.F (S.gd B) _ _ λ v C w h Q rv=>AV ?_)));have q:C.get? D=some (Fz vs n):=h.keep U (_) (_);have r:=rl.length;simp at r;have t:=S.ac h Q;cases rv with |@list b ws m _ e2 n2 z2 r2=>
  have R:=r2.length;simp at R;show wpAny W.M A (call (.builtin "list.extend") [.ref D,.ref b]) _ E #[s,C,w];refine VM (s:=#[s,C,w]) q e2 ∅ λ u y g M=>?_;refine hQ u w (t.de H (I.ac h) M T hZ (λ o a2 ho hd=>?_) ⟨_,y,g,by simp;omega,?_⟩ (Am _)) (h.af.trans (.bw M T hZ)) Q
  ·have G:C.get? D=some o:=ho;rw[q] at G;cases G;cases hd
  ·have:=((rl.ac h).append r2).az M T;simpa using this
theorem O5 (m:JE W A p)(B:XB W V z N)(S:XS W V z N Z X s O)(h:EL p V O e=some d)(o:D7 W V z N Z X s (.ret d) a):
 wpAny W.M A (exec (.Return (some e) b) z) a E s:=by
 refine CW ?_;unfold EL at h;have w:∀e d,p.ev V O e=some d->D7 W V z N Z X s (.ret d) a->wpAny W.M A (eval e z) (λ v=>a (.ret v)) E s:=λ e d h o=>
  (m V z).ev O e d h Z X s S.F (S.gd B) _ _ λ v C k H Q r=>o v C k (S.le.trans H) Q (r.ag S.F.zx)
 split at h
 ·rename_i x t;obtain⟨G,rfl⟩:=Gq t;split at h
  ·rename_i q;cases h;obtain⟨I,f,c⟩:=S.F.at q;obtain⟨D,rfl,J,l,c⟩:=c;refine FI.bp S.F q f (o (.ref D) s.heap s.toks S.le (Am _) ?_);cases d with
   |list L=>obtain⟨M,n,g,i,j⟩:=c;exact .list g l i (j.ag S.F.zx)
   |dict R=>obtain⟨u,g,y,i,q,j⟩:=c;exact .dict g l y i q (j.ag S.F.zx)
   |_=>exact c.elim
  ·exact w _ d h o
 ·exact w _ d h o
variable {d:PV}{r:List Stmt}{st:Stmt}{a:AC} in
def DQ (h:AC->Stmt->Option Fl):List Stmt->AC->Option Fl
 |[],O=>some (.next O)
 |st::r,O=>(h O st).bind λ k=>match k with
  | .next a=>DQ h r a
  | .brk a=>some (.brk a)
  | .ret d=>some (.ret d)
variable {d:PV}{a:List PV}{x:Str} in
def Gj (z:Scope)(h:Expr)(o k:AC->Option Fl):List PV->AC->Option Fl
 |[],O=>k O
 |x::a,O=>(DL z h x O).bind λ w=>(o w).bind λ A=>match A with
  | .next s=>Gj z h o k a s
  | .brk s=>some (.next s)
  | .ret d=>some (.ret d)
variable {d:PV}{n:Nat} in
def Km (s:AC->Option Bool)(k h:AC->Option Fl):Nat->AC->Option Fl
 |0,_=>none
 |n+1,O=>(s O).bind λ b=>if b then(k O).bind λ w=>match w with
   | .next o=>Km s k h n o
   | .brk o=>some (.next o)
   | .ret d=>some (.ret d)
  else h O
def Ci (h:List Str)(k:AC):AC:=k.filter λ q=>h.contains q.1
theorem Er (s:List Str)(x:Str)(o:BL):∀k:AC,(Ci s k).lookup x=some o->k.lookup x=some o
 |[],h=>by cases h
  |(y,t)::k,h=>by
   unfold Ci at h;rw[FQ] at h;by_cases q:x=y
   ·subst q;split at h
    ·rw[An] at h ⊢;exact h
    ·rename_i w;have:=Er s x o k h;exfalso;have z:(x,o)∈k.filter λ q=>s.contains q.1:=mem_of_lookup h;exact w (AU.mp z).2
   ·rw[Aj q];split at h
    ·rw[Aj q] at h;exact Er s x o k h
    ·exact Er s x o k h
variable {d:PV} in
def JL (h:List Str):Fl->Fl
 | .next O=>.next (Ci h O)
 | .brk O=>.brk (Ci h O)
 | .ret d=>.ret d
variable {v:Value}{b:PV}{n:Nat}{a t:Expr}{st:Stmt} in
def Ez (p:JV)(h:Nat)(k:Scope):Nat->AC->Stmt->Option Fl
 |0,_,_=>none
 |n+1,O,st=>match st with
  | .Assign w v _=>(HH p (λ _=>false) k O w v).map .next
  | .Expr e _=>(KO p k O e).map .next
  | .If t b o _=>(p.ts k O t).bind λ c=>if c then DQ (Ez p h k n) b O else DQ (Ez p h k n) o O
  | .For t a b o _=>(p.it k O a).bind λ z=>Gj k t (λ s=>(DQ (Ez p h k n) b s).map (JL (O.map (·.1)))) (DQ (Ez p h k n) o) z O
  | .While t b o _=>Km (λ O=>p.ts k O t) (λ s=>(DQ (Ez p h k n) b s).map (JL (O.map (·.1)))) (DQ (Ez p h k n) o) h O
  | .Return v _=>v.bind λ e=>(EL p k O e).map .ret
  | .Break _=>some (.brk O)
  | .Pass _=>some (.next O)
  |_=>none
def HI (k:BH)(z:Around)(o:Scope)(h:Env)(w:Heap)(t:Sem Flow)(A:AC)(C:Fl):Prop:=
 ∀(Z X:List Addr)(s:Shared)(Q:Flow->Shared->Prop)(E:JD),XS k o h w Z X s A->D7 k o h w Z X s C Q->wpAny k.M z t Q E s
theorem D7.ba (w:D7 W V z N Z X s e c)(E:BY V z Z X s.heap b)(l:s.toks<=a):D7 W V z N Z X #[s,b,a] e c:=by
 cases e with
 |next H=>exact λ h k S A o=>w h k S (E.trans A) (Ab l o)
 |brk H=>exact λ h k S A o=>w h k S (E.trans A) (Ab l o)
 |ret d=>exact λ v h k C o r=>w v h k C (Ab l o) r
theorem Jc (i:∀st C H,a C st=some H->HI W A V z N (exec st z) C H):∀(O:List Stmt)(C:AC)(H:Fl),DQ a O C=some H->HI W A V z N (execs O z) C H
 |[],C,H,e=>λ Z X s Q E S b=>by
   cases e
   exact AZ (b s.heap s.toks S .refl (Am _))
  |st::r,C,H,e=>λ Z X s Q E S b=>by
   rw[DQ] at e;obtain⟨j,l,e⟩:=Ae.mp e;refine Al (i st C j l Z X s _ _ S ?_);cases j with
   |next c=>exact λ k h w f o=>Jc i r c H e Z X #[s,k,h] _ _ w (b.ba f o)
   |brk c=>cases e;exact λ k h w f o=>b k h w f o
   |ret d=>cases e;exact λ v k h g o r=>b v k h g o r
theorem QU (B:XB W V z N)(a2:JE W A p)(hB:∀O a,j O=some a->HI W A V z N (execs b z) O a)(hO:∀O a,g O=some a->HI W A V z N (execs i z) O a)
 (e:Km (λ O=>p.ts V O t) j g f O=some a):HI W A V z N (exec (.While t b i m) z) O a:=λ Z X s Q E S R=>by
 refine wpAny_While (codeAny_whileLoop (λ n T=>∃U Y u,T=#[s,U,Y]/\XS W V z N Z X T u/\BY V z Z X s.heap U/\s.toks<=Y/\Km (λ O=>p.ts V O t) j g n u=some a) (λ n T hI=>?_) f ⟨s.heap,s.toks,O,rfl,S,.refl,Am _,e⟩);obtain⟨U,Y,u,rfl,S',kd,l,x⟩:=hI;cases n with
 |zero=>cases x
 |succ n=>
  rw[Km] at x;obtain⟨c,hc,x⟩:=Ae.mp x;refine(a2 V z).tst u t c hc Z X _ S'.F (S'.gd B) _ _ λ b' y C G I a0=>?_;subst a0;have J:=S'.ac G I;have H:BY V z Z X s.heap y:=kd.trans G.af;have k:s.toks<=C:=Ab l I;cases b' with
  |true=>
   simp only[A0] at x ⊢;obtain⟨f1,h1,x⟩:=Ae.mp x;refine hB u f1 h1 Z X #[s,y,C] _ _ J ?_;cases f1 with
   |next L=>exact λ o h D q w=>⟨n,Eu _,o,h,L,rfl,D,H.trans q,Ab k w,x⟩
   |brk L=>cases x;exact λ o h D q w=>R o h D (H.trans q) (Ab k w)
   |ret d=>cases x;exact λ v o h a1 w r=>R v o h a1 (Ab k w) r
  |false=>
   simp only[Aq,AS] at x ⊢;have M:=R.ba H k;refine hO u a x Z X #[s,y,C] _ _ J ?_;exact M
theorem Qu (B:XB W V z N)(hh:A.handled=none)(hB:∀O m,u O=some m->HI W A V z N (execs b z) O m)(hO:∀O m,p O=some m->HI W A V z N (execs g z) O m)
        {St:Nat->Heap->Prop} (U:LJ W A (I::X) I j St) (b2:I∉X) (b9:N.get? I=none) (b3:∀a∈Z,a∈X) (c9:∀a∈Ay z,a∈Z) (c0:∀a∈X,a∉Z->N.get? a=none)
 (d0:St 0 s.heap) (S:XS W V z N (I::Z) (I::X) s O) (e:Gj V t u p j O=some m)
 (hQ:D7 W V z N Z X s m λ f s'=>R (.ok f) s'):codeAny W.M A (.forLoop t (.ref I) b g z) R s:=by
 have c1:I∉Z:=λ q=>b2 (b3 _ q);have a4:I∉Ay z:=λ q=>c1 (c9 _ q);have d1:¬Ck V z I:=λ q=>a4 (by
  rcases q with q |⟨x,_,q⟩
  ·exact q▸Ac
  ·exact Bq q)
 have ne:∀{i:Nat}{h:Heap}{b:Addr}{g:Obj},St i h->h.get? b=some g->((b∉X/\Db g)\/(b∈Z/\¬Ck V z b/\g.cls≠.type "frame"/\g.cls≠.none))->b≠I:=λ{i h b g} st H hc q=>by
  subst q;rcases hc with⟨_,hd⟩ |⟨hz,_⟩
  ·obtain⟨o',Y,_,_,_,hn⟩:=U.bq _ _ st;rw[H] at Y;cases Y;exact hn hd
  ·exact c1 hz
 have less:∀{i:Nat}{h D:Heap},St i h->BY V z (I::Z) (I::X) h D->BY V z Z X h D:=λ{i h D} st kd b g hc H=>by
  refine kd b g ?_ H;have d2:=ne st H hc;exact hc.imp (λ c=>⟨λ q=>(Ag.mp q).elim d2 c.1,c.2⟩) λ c=>⟨Ad _ c.1,c.2⟩
 have a5:∀{D:Heap}{J:Nat}{L:AC},XS W V z N (I::Z) (I::X) #[s,D,J] L->XS W V z N Z X #[s,D,J] L:=λ S'=>
  ⟨S'.F.be (λ _ _ _ e=>e) a4 b2 b3,S'.le,S'.tk,c0,S'.fc⟩
 have d8:∀{o:Heap}{k:Nat}{i:Nat},St i o->BY V z Z X s.heap o->s.toks<=k->∀{b1:Fl}{Q':Flow->Shared->Prop},D7 W V z N Z X s b1 Q'->D7 W V z N (I::Z) (I::X) #[s,o,k] b1 Q':=λ{o k i} st kd l{b1 Q'} h=>by
  cases b1 with
  |next O=>exact λ D J S k2 l2=>h D J (a5 S) (kd.trans (less st k2)) (Ab l l2)
  |brk O=>exact λ D J S k2 l2=>h D J (a5 S) (kd.trans (less st k2)) (Ab l l2)
  |ret d=>exact λ v D J b4 l2 r=>h v D J b4 (Ab l l2) (r.ag λ a ha=>Ad _ ha)
 refine GO (λ n s'=>∃D J L i,s'=#[s,D,J]/\i<=j.length/\n=j.length-i/\St i D/\XS W V z N (I::Z) (I::X) s' L/\BY V z Z X s.heap D/\s.toks<=J/\Gj V t u p (j.drop i) L=some m) (λ n s' hI=>?_) j.length
  ⟨s.heap,s.toks,O,0,rfl,BT _,rfl,d0,S,.refl,Am _,e⟩
 obtain⟨D,J,L,i,rfl,hi,hn,st,S',kd,l,e'⟩:=hI;obtain⟨oI,c2,c3,c4,d9,e0⟩:=U.bq _ _ st;have next:∀{o:Heap}{k:Nat},Heap.ExtBut I D o->(∃g,o.get? I=some g)->J<=k->XS W V z N (I::Z) (I::X) #[s,o,k] L/\BY V z Z X s.heap o:=λ{o k} w b5 a0=>
  ⟨⟨S'.F.ext w Ac a4 b5,S'.le.ext b9 (λ g vs H hd=>by
      have Y:D.get? I=some g:=H;rw[c2] at Y;cases Y;exact⟨c3,c4⟩) w,Ab S'.tk a0,S'.fr,S'.fc.at λ g H=>w _ g (λ q=>a4 (q▸Ac)) H⟩,kd.trans λ b g hc H=>w b g (ne st H hc) H⟩
 by_cases b6:i<j.length
 ·have hx:j[i]? =some j[i]:=Bb b6;have hd:j.drop i=j[i]::j.drop (i+1):=DU b6;rw[hd,Gj] at e';obtain⟨d3,h1,e'⟩:=Ae.mp e';obtain⟨f1,h2,e'⟩:=Ae.mp e';refine Bw (n:=J) (Am _) (U.item i #[s,D,J] _ _ j[i] st hx λ v o k rv M w a0=>?_);have Q:J<=k:=a0;have b5:∃g,o.get? I=some g:=by obtain⟨g,H,_⟩:=U.bq _ _ M;exact⟨g,H⟩
  obtain⟨a2,b7⟩:=next w b5 Q;refine U.cr (i+1) #[s,o,k] _ _ t v M ?_;refine Eh hh B a2 h1 rv λ G a6 c5 b8 c6=>?_;have a7:BY V z (I::Z) (I::X) o G:=b8.af λ a ha=>a2.F.bo ha;have a8:∀{G C:Heap},St (i+1) G->BY V z (I::Z) (I::X) G C->St (i+1) C:=λ{G C} E kd=>by
   obtain⟨oJ,c7,d4,e1,d5,e2⟩:=U.bq _ _ E;exact U.frame _ _ _ E (λ g H=>by rw[c7] at H;cases H;exact kd I _ (.inr ⟨Ac,d1,d5,d4⟩) c7) (λ b g N H d6=>kd b g (.inl ⟨N,d6⟩) H)
  have E:=a8 M a7;have a3:=b7.trans (less M a7);have a9:s.toks<=a6:=Ab l (Ab Q c6);refine hB d3 f1 h2 (I::Z) (I::X) #[s,G,a6] _ _ c5 ?_;cases f1 with
  |next c8=>exact λ C y b0 T a1=>⟨n-1,∅,C,y,c8,i+1,rfl,b6,∅,a8 E T,b0,a3.trans (less E T),Ab a9 a1,e'⟩
  |brk c8=>cases e';exact λ C y b0 T a1=>hQ C y (a5 b0) (a3.trans (less E T)) (Ab a9 a1)
  |ret d=>cases e';exact λ v C y b4 a1 r=>hQ v C y b4 (Ab a9 a1) (r.ag λ a ha=>Ad _ ha)
 ·have d7:i=j.length:=∅
  subst d7;rw[List.drop_length,Gj] at e';refine Bw (n:=J) (Am _) (U.done #[s,D,J] _ _ st λ o k w a0=>?_);have Q:J<=k:=a0;have a2:XS W V z N Z X #[s,o,k] L:=
   ⟨S'.F.be w a4 b2 b3,S'.le.ext b9 (λ g vs H hd=>by
    have Y:D.get? I=some g:=H;rw[c2] at Y;cases Y;exact⟨c3,c4⟩) w,Ab S'.tk Q,c0,S'.fc.at λ g H=>w _ g (λ q=>a4 (q▸Ac)) H⟩
  exact hO L m e' Z X #[s,o,k] _ _ a2 (hQ.ba (kd.trans λ b g hc H=>w b g (ne st H hc) H) (Ab l Q))
theorem Pt (B:XB W V z N)(R:A.handled=none)(Y:JE W A p)(hB:∀O c,j O=some c->HI W A V z N (execs b z) O c)(hO:∀O c,f O=some c->HI W A V z N (execs d z) O c)
 (hx:p.it V O g=some i) (e:Gj V t j f i O=some c):HI W A V z N (exec (.For t g b d l) z) O c:=λ Z X s Q E S hQ=>by
 obtain⟨hf,x⟩:=(Y V z).itr O g i hx;rw[QI];refine Aa (AI (Aa (x Z X s S.F (S.gd B) _ _ λ v w o C H rv=>Aa (AA (hf v) (Aa (AI (Aa (AF ?_))))))));have h:=S.ac C H;refine Eo (s:=#[s,w,o]) rv λ I m y D hk G=>?_;have n:I∉X:=λ q=>by obtain⟨d,T⟩:=h.F.ah I q;rw[y] at T;cases T
 have J:N.get? I=none:=by
  cases q:N.get? I with
  |none=>rfl
  |some d=>obtain⟨o',r⟩:=AP h.le ⟨d,q⟩;rw[y] at r;cases r
 have k:A8 W w m:=.ad hk;obtain⟨St,L,M⟩:=LJ.of (A:=A) (G n) Ac R;have u:XS W V z N (I::Z) (I::X) #[s,m,o] O:=
  ⟨h.F.fresh (B.am.trans h.le) k y D,h.le.trans k,h.tk,λ a ha U=>S.fr a ((Ag.mp ha).resolve_left λ q=>U (q▸Ac)) λ q=>U (Ad _ q),h.fc.bb k⟩
 refine Kl (h:=none) ?_;rw[GC];exact Qu B R hB hO M n J S.F.zx S.F.aw S.fr L u e (hQ.ba ((C.trans k).af) H)
theorem OO (h:Dh W C k mg mb)(o:Cg k A)(w:JE W A p)(B:XB W V z N)(e:HH (Ku C p) (λ _=>false) V O b v=some a):HI W A V z N (exec (.Assign b v c) z) O (.next a):=λ Z X s Q E S H=>by
 unfold HH at e;split at e
 ·rename_i t;split at e
  ·rename_i x i l;obtain⟨r,u,rfl⟩:=Ox l;split at e
   ·obtain⟨d,hd,m⟩:=Ae.mp e;obtain⟨y,f,n⟩:=Ae.mp m;obtain⟨D,g,q⟩:=Ae.mp n;obtain⟨G,j,rfl⟩:=As.mp q;exact LU (FX h o w) B S hd f g j H
   ·cases e
  ·split at e
   ·simp only[Aq,AS] at e;exact NW h o w B S e H
   ·exact NW h o w B S e H
 ·cases e
theorem Qi {b:AC->Option Fl}(g:∀O a,b O=some a->HI W A V z N t O a)(i:(b O).map (JL ks)=some a):HI W A V z N t O a:=by
 obtain⟨f,j,rfl⟩:=As.mp i;refine λ Z X s Q E S o=>g O f j Z X s Q E S ?_;cases f with
 |next h=>exact λ w C H k l=>o w C (H.ap λ x c e=>Er ks x c h e) k l
 |brk h=>exact λ w C H k l=>o w C (H.ap λ x c e=>Er ks x c h e) k l
 |ret d=>exact o
theorem G8 (D:Dh W C k mg mb)(u:Cg k A)(G:JE W A p)(B:XB W V z N)(i:Nat):∀(n:Nat)(st:Stmt)(w:AC)(H:Fl),Ez (Ku C p) i V n w st=some H->HI W A V z N (exec st z) w H
 |0,st,w,H,e=>by cases e
  |n+1,st,w,H,e=>by
   have y:=FX D u G;have m:=Jc (z:=z) (λ st w H h=>G8 D u G B i n st w H h);unfold Ez at e;split at e
   ·obtain⟨I,J,rfl⟩:=As.mp e;exact OO D u G B J
   ·obtain⟨I,J,rfl⟩:=As.mp e;exact λ Z X s Q E S g=>Ia u y B S J g
   ·rename_i t b o l;obtain⟨c,M,r⟩:=Ae.mp e;refine λ Z X s Q E S g=>Jz ((y V z).tst w t c M Z X s S.F (S.gd B) _ _ λ T j f O a L=>?_);subst L;split
    ·rename_i q;rw[Ap q] at r;exact m _ _ _ r Z X #[s,j,f] Q _ (S.ac O a) (g.ba O.af a)
    ·rename_i q;rw[Ak q] at r;exact m _ _ _ r Z X #[s,j,f] Q _ (S.ac O a) (g.ba O.af a)
   ·rename_i t U b o l;obtain⟨Y,R,r⟩:=Ae.mp e;exact Pt B u.handled y (λ w H h=>Qi (λ w H h=>m b w H h) h) (λ w H h=>m o w H h) R r
   ·rename_i t b o l;exact QU B y (λ w H h=>Qi (λ w H h=>m b w H h) h) (λ w H h=>m o w H h) e
   ·rename_i v l;cases v with
    |none=>cases e
    |some x=>
     obtain⟨d,hd,rfl⟩:=As.mp e;exact λ Z X s Q E S g=>O5 y B S hd g
   ·cases e
    exact λ Z X s Q E S g=>by rw[arm_exec_Break];exact Aa (AI (Af (g s.heap s.toks S .refl (Am _))))
   ·cases e
    exact λ Z X s Q E S g=>wpAny_Pass (g s.heap s.toks S .refl (Am _))
   ·cases e
theorem SS (h:P5 O x=true):∀y e,O.lookup y=some (.own e)->y=x:=λ y e k=>by
 have:=AJ.mp h (y,.own e) (mem_of_lookup k);exact Bo this
theorem OD (h:Ll p V O v=some d):EV v=true/\S2 v=false:=by
 cases v<;>first |exact⟨rfl,rfl⟩ |cases h
structure EF (W:BH)(a:Addr)(fd:FuncData)(ps:List Str)(body:List Stmt):Prop where
 obj:∃o,W.h0.get? a=some o/\o.data=.func fd/\o.cls≠.type "frame"/\o.cls≠.none
 code:∃c o vs t,fd.code=.ref c/\W.h0.get? c=some o/\o.data=.fields vs/\vs[1]? =some (.str fd.qualname t)/\o.cls≠.type "frame"/\o.cls≠.none
 body:fd.body=.stmts body
 bind:∀(vals:List Value)(s:Shared),A8 W W.h0 s.heap->vals.length=ps.length->BindsTo s fd ⟨vals,[]⟩ (ps.zip vals)
 jc:fd.closure=[]
 co:fd.scope.isCoroutine=false
 bc:fd.scope.isGenerator=false
 kind:fd.scope.kind=.function
 br:fd.globals=mainGlobals
 bx:fd.builtins=builtinsNs
 gn:∀x∈ps,CC x=true/\(fd.scope.names.lookup x=some .local\/fd.scope.names.lookup x=some .cell)
 nd:ps.Nodup
 names:(fd.scope.names.map (·.1)).Nodup
 free:∀x,fd.scope.names.lookup x≠some .free
 ki:W.h0.NoLimit
theorem Fc {a:Type}{x:Str}{d:a}:∀{k:List Str}{o:List a},(k.zip o).lookup x=some d->x∈k
 |[],_,h=>by simp at h
  |p::k,[],h=>by simp at h
  |p::k,e::o,h=>by
   rw[C5] at h;by_cases q:x=p
   ·subst q;exact Ac
   ·rw[Aj q] at h;exact Ad _ (Fc h)
theorem Mo (k:Str->Option NameKind):∀(o:List (Str×Value))(m:Str->Option Value),x∉o.map (·.1)->bindL k o m x=m x
 |[],m,_=>rfl
  |(n,v)::r,m,h=>by
   rw[bindL,Mo k r _ λ q=>h (by simp at q ⊢;exact .inr q)];split
   ·have:x≠n:=λ q=>h (by simp[q]);simp[this]
   ·rfl
theorem Mp (k:Str->Option NameKind):∀(o:List (Str×Value))(m:Str->Option Value),x∉o.map (·.1)->bindC k o m x=m x
 |[],m,_=>rfl
  |(n,v)::r,m,h=>by
   rw[bindC,Mp k r _ λ q=>h (by simp at q ⊢;exact .inr q)];split
   ·rfl
   ·have:x≠n:=λ q=>h (by simp[q]);simp[this]
theorem ME {a b:Type}{x:a}:∀{k:List a}{vs:List b},x∈(k.zip vs).map (·.1)->x∈k
 |[],_,h=>by simp at h
  |p::k,[],h=>by simp at h
  |p::k,v::vs,h=>by
   simp only[C5,AL,Ag] at h;rcases h with rfl |h
   ·exact Ac
   ·exact Ad _ (ME h)
variable {d:PV} in
inductive ID (W:BH)(X:List Addr)(h:Heap):List Value->List BL->Prop
 |nil:ID W X h [] []
 |aa {v0:Value} {vs0:List Value} {d:PV} {ds0:List BL}:Rp W X h v0 d->ID W X h vs0 ds0->ID W X h (v0::vs0) (.aa d::ds0)
 |al {v0 vs0 ds0}:ID W X h vs0 ds0->ID W X h (v0::vs0) (.al v0::ds0)
theorem ID.fj:∀{h:List Value}{k:List PV},RpL W X a h k->ID W X a h (k.map BL.aa)
 |_,_,.nil=>.nil
  |_,_,.cons r o=>.aa r (ID.fj o)
theorem ID.length:∀{h:List Value}{k:List BL},ID W X a h k->h.length=k.length
 |_,_,.nil=>rfl
  |_,_,.aa _ r=>by simp[ID.length r]
  |_,_,.al r=>by simp[ID.length r]
theorem ID.bc {a c:Heap}(h:∀b o,a.get? b=some o->b∉X->(o.cls=.type "list"\/o.cls=.type "tuple"\/o.cls=.type "dict")->c.get? b=some o/\b∉Y):∀{s:List Value}{w:List BL},ID W X a s w->ID W Y c s w
 |_,_,.nil=>.nil
  |_,_,.aa r k=>.aa (r.bc h) (ID.bc h k)
  |_,_,.al k=>.al (ID.bc h k)
theorem ID.df:∀{h:List Str}{s:List Value}{o:List BL},ID W X a s o->(h.zip o).lookup x≠some (.own d)
 |[],_,_,_=>(_)
  |p::h,_,_,.nil=>(_)
  |p::h,_,_,.aa (d:=e) r k=>by
   rw[C5];by_cases q:x=p
   ·subst q;rw[An];simp
   ·rw[Aj q];exact ID.df k
  |p::h,_,_,.al k=>by
   rw[C5];by_cases q:x=p
   ·subst q;rw[An];simp
   ·rw[Aj q];exact ID.df k
theorem KX (k:Str->Option NameKind):∀{o:List Str}{h:List Value}{w:List BL}(m:Str->Option Value),ID W X a h w->o.Nodup->(o.zip w).lookup x=some c->
 (k x=some .local->∃v,bindL k (o.zip h) m x=some v/\Bg W b X a v c)/\(k x≠some .local->∃v,bindC k (o.zip h) m x=some v/\Bg W b X a v c)
 |[],_,_,m,_,_,e=>by simp at e
  |p::o,[],_,m,.nil,_,e=>by simp at e
  |p::o,v::E,O::w,m,r,A,e=>by
   have Q:Bg W b X a v O/\ID W X a E w:=by
    cases r with
    |aa r s=>exact⟨r,s⟩
    |al s=>exact⟨rfl,s⟩
   obtain⟨H,s⟩:=Q;rw[C5] at e;rw[CN] at A;by_cases q:x=p
   ·subst q;rw[An] at e;cases e;have N:x∉(o.zip E).map (·.1):=λ z=>A.1 (ME z)
    constructor
    ·intro C;refine⟨v,?_,H⟩;rw[C5,bindL,Mo k _ _ N,Ap C];simp
    ·intro C;refine⟨v,?_,H⟩;rw[C5,bindC,Mp k _ _ N,Ak C];simp
   ·rw[Aj q] at e;rw[C5,bindL,bindC];exact⟨(KX k _ s A.2 e).1,(KX k _ s A.2 e).2⟩
theorem Fn (k:h.objs.size<=a):h.get? a=none:=by
 cases e:h.get? a with
 |none=>rfl
 |some o=>exact absurd (AO e) (EM.mpr k)
theorem Ng:∀{l:List (Str×Addr)},(l.Pairwise λ a b=>a.2≠b.2)->(y,c)∈l->(d,c)∈l->y=d
 |[],_,h,_=>by cases h
  |p::l,s,w,z=>by
   rw[DI] at s;rcases Ag.mp w with k |k<;>rcases Ag.mp z with o |o
   ·have:=k.trans o.symm;injection this
   ·exact absurd (by rw[<-k]) (s.1 _ o)
   ·exact absurd (by rw[<-o]) (s.1 _ k)
   ·exact Ng s.2 k o
theorem FY:∀(s:List (Str×NameKind))(n:Nat)(o:List (Str×Addr)),(s.map (·.1)).Nodup->(∀p∈o,p.1∉s.map (·.1))->(∀p∈o,o.lookup p.1=some p.2)->∀p∈cellsFrom n s o,(cellsFrom n s o).lookup p.1=some p.2
 |[],n,o,_,_,h,p,w=>h p w
  |(y,k)::r,n,o,A,C,h,p,w=>by
   rw[AL,CN] at A;have z:∀p∈o,p.1∉r.map (·.1):=λ p w q=>C p w (by simp only[AL];exact Ad _ q)
   unfold cellsFrom at w ⊢;split at w
   ·rename_i q;rw[Ap q];refine FY r (n+1) ((y,n)::o) A.2 (λ p w=>?_) (λ p w=>?_) p w
    ·rcases Ag.mp w with rfl |w
     ·exact A.1
     ·exact z p w
    ·rcases Ag.mp w with rfl |w
     ·exact An
     ·have:p.1≠y:=λ q=>C p w (by simp[q]);rw[Aj this];exact h p w
   ·rename_i q;rw[Ak q];exact FY r n o A.2 z h p w
theorem RX (w:EF W a fd i j)(G:Gd W s)(m:∀b∈X,W.h0.get? b=none/\∃o,s.heap.get? b=some o)
 (r:ID W X s.heap g args)
 (x:InCallC s (callEnvC fd s.heap.objs.size a).locals (bindL (callEnvC fd s.heap.objs.size a).kindOf (i.zip g) λ _=>none) (callEnvC fd s.heap.objs.size a).cells (bindC (callEnvC fd s.heap.objs.size a).kindOf (i.zip g) λ _=>none) f):
 FI W fd.scope (callEnvC fd s.heap.objs.size a) (Ay (callEnvC fd s.heap.objs.size a)++X) (Ay (callEnvC fd s.heap.objs.size a)++X) f.heap (i.zip args):=by
 have O:∀y,(callEnvC fd s.heap.objs.size a).kindOf y=fd.scope.names.lookup y:=λ y=>rfl;have u:∀y,(callEnvC fd s.heap.objs.size a).cells.lookup y=(cellsFrom (s.heap.objs.size+1) fd.scope.names []).lookup y:=λ y=>rfl;have fresh:∀b∈Ay (callEnvC fd s.heap.objs.size a),s.heap.get? b=none:=λ b k=>by
  rcases Ag.mp k with q |q
  ·rw[q];exact Bl s.heap
  ·obtain⟨⟨n,c⟩,Q,rfl⟩:=At.mp q;exact Fn (Jl (x.above n c Q))
 have alive:∀b∈Ay (callEnvC fd s.heap.objs.size a),∃o,f.heap.get? b=some o:=λ b k=>by
  rcases Ag.mp k with q |q
  ·obtain⟨o,_,_,V,_⟩:=x.toInCall.ns;exact⟨o,q▸V⟩
  ·obtain⟨⟨n,c⟩,Q,rfl⟩:=At.mp q;have Z:(callEnvC fd s.heap.objs.size a).cells.lookup n=some c:=FY fd.scope.names (s.heap.objs.size+1) [] w.names (λ _ h=>by cases h) (λ _ h=>by cases h) (n,c) Q;obtain⟨o,V,_⟩:=x.cell n c Z;exact⟨o,V⟩
 have l:ID W (Ay (callEnvC fd s.heap.objs.size a)++X) f.heap g args:=r.bc λ b o e n _=>⟨x.toInCall.keep b o e,λ q=>by
  rcases Au.mp q with q |q
  ·rw[fresh b q] at e;cases e
  ·exact n q⟩
 have C:∀b∈Ay (callEnvC fd s.heap.objs.size a),W.h0.get? b=none:=λ b k=>Dx G.am (fresh b k);exact{
  aw:=λ b k=>Au.mpr (.inl k)
  zx:=λ b k=>k
  kind:=w.kind
  br:=w.br
  bx:=w.bx
  dy:=λ y h=>h
  cu:=λ y h=>h
  di:=λ y h=>.inl h
  dr:=λ y h=>h
  ns:=⟨_,x.toInCall.ns,λ y p Z A=>(KX _ _ l w.nd A).1 Z⟩
  cell:=λ y A=>by
   have t:fd.scope.names.lookup y=some .cell:=A.resolve_right (w.free y);obtain⟨c,E,_⟩:=(Cp y fd.scope.names (s.heap.objs.size+1) [] w.names).2 t;refine⟨c,_,E,x.cell y c E,λ p A=>?_⟩;exact(KX _ _ l w.nd A).2 (by rw[O,t];simp)
  inj:=λ y z c H N=>Ng x.apart (mem_of_lookup H) (mem_of_lookup N)
  dk:=λ y p A=>by
   obtain⟨H,N⟩:=w.gn y (Fc A);exact⟨N.elim .inl λ q=>.inr (.inl q),H⟩
  alive:=λ b k=>by
   rcases Au.mp k with q |q
   ·exact⟨C b q,alive b q⟩
   ·exact⟨(m b q).1,AP (W:=W) (.ad x.toInCall.keep) (m b q).2⟩
  bu:=λ y z d e H N=>absurd H (ID.df l)}
theorem Cg.down (h:Cg (n+1) A)(k:Env):Cg n (A.deeper k):=⟨h.handled,by have:=h.depth;show A.depth+1+10*n<900;omega,by have:=h.units;show A.units+3+100*n<9000;omega⟩
theorem bE (x:InCallC a z.locals m z.cells d s)(j:CF z s.heap)(l:z.scope.kind=.function)
 (r:z.kindOf n=some .local\/(z.kindOf n=some .cell/\(z.cells.lookup n).isSome=true))
 (O:∀Q,InCallC a z.locals (if z.kindOf n=some .local then λ y=>if y=n then some v else m y else m) z.cells (if z.kindOf n=some .local then d else λ y=>if y=n then some v else d y) Q->CF z Q.heap->f () Q):wpAny M A (storeName z n v) f E s:=by
 obtain⟨p,B,rfl⟩:=id x.toInCall.same;rcases r with N |⟨N,w⟩
 ·simp only[N,A0] at O;refine B6 N x.toInCall.ns (λ V W h Z=>O _ ⟨⟨⟨V,_,rfl⟩,W,λ b o e=>?_,x.toInCall.fresh⟩,λ k c w=>?_,x.apart,x.above⟩ (j.bi Z)) (by rw[l];rfl)
  ·exact h.extBut b o (BU (C3 (AO e) x.toInCall.fresh)) (x.toInCall.keep b o e)
  ·exact(x.cell k c w).sameBut h (Cy (x.above k c (mem_of_lookup w)))
 ·have g:¬z.kindOf n=some .local:=by rw[N];simp
  simp only[g,AS] at O;obtain⟨c,w⟩:=BS.mp w;have H:=x.above n c (mem_of_lookup w);refine wpAny_storeName_cell l N w (x.cell n c w) λ V i h=>O _ ⟨⟨⟨V,_,rfl⟩,x.toInCall.ns.sameBut h (BU H),λ b o e=>?_,x.toInCall.fresh⟩,λ k t C=>?_,x.apart,x.above⟩ (j.at λ o u=>(h.2 _ (BU H)).trans u)
  ·exact h.extBut b o (BU (Nat.lt_trans (C3 (AO e) x.toInCall.fresh) H)) (x.toInCall.keep b o e)
  ·by_cases q:k=n
   ·subst q;rw[w] at C;cases C;simpa using i
   ·simp only[q,AS];exact(x.cell k t C).sameBut h λ e=>q (Ng x.apart (mem_of_lookup C) (e▸mem_of_lookup w))
theorem TN (f:Str×Value->PUnit->Sem (ForInStep PUnit))(E:∀n v u,f (n,v) u=(do storeName env n v;pure (.yield ⟨⟩)))(H:env.scope.kind=.function):
 ∀(k:List (Str×Value))(m w:Str->Option Value)(s:Shared)(Q:PUnit->Shared->Prop),InCallC s₀ env.locals m env.cells w s->CF env s.heap->
  (∀x∈k,env.kindOf x.1=some .local\/(env.kindOf x.1=some .cell/\(env.cells.lookup x.1).isSome=true))->
  (∀o,InCallC s₀ env.locals (bindL env.kindOf k m) env.cells (bindC env.kindOf k w) o->CF env o.heap->Q ⟨⟩ o)->wpAny M A (forIn k ⟨⟩ f) Q a s
 |[],m,w,s,Q,x,z,_,h=>by rw[Fv];exact Af (h s x z)
  |(n,v)::r,m,w,s,Q,x,z,N,h=>by
   rw[Bt,E];refine Aa (Aa (bE x z H (N (n,v) Ac) λ o O C=>Af ?_));exact TN f E H r _ _ o Q O C (λ y V=>N y (Ad _ V)) h
theorem YR {code:Value}(Q:a.kind=.function)
 (k:∀x∈f,a.names.lookup x.1=some .local\/(a.names.lookup x.1=some .cell/\((cellsFrom (s.heap.objs.size+1) a.names []).lookup x.1).isSome=true))
 (V:∀h,h=newEnv a s.heap.objs.size globals (cellsFrom (s.heap.objs.size+1) a.names []) i g code none d->
  ∀w,InCallC s h.locals (bindL h.kindOf f λ _=>none) h.cells (bindC h.kindOf f λ _=>none) w->CF h w.heap->j h w):
 wpAny M A (newFunctionEnv a globals [] f i g code none d) j E s:=by
 simp only[newFunctionEnv,Option.isSome_none,Aq,AS];refine Aa (MG ?_);refine Aa (wpAny_layCells _ (λ name z H=>by cases N:z==NameKind.cell<;>simp[N]) _ _ _ _ ?_);have C:=cellsFrom_ok a.names (s.heap.push {cls:=.type "frame",data:=.dict #[]}) (s.heap.objs.size+1) [] ⟨λ _ _ O=>(nomatch O),List.Pairwise.nil⟩ (by rw[Bh];exact Am _);rw[Bh] at C;rw[show({s with heap:=s.heap.push {cls:=.type "frame",data:=.dict #[]}}:Shared).heap.objs.size=s.heap.objs.size+1 from Bh ..];refine Aa (TN (s₀:=s) (env:=newEnv a s.heap.objs.size globals (cellsFrom (s.heap.objs.size+1) a.names []) i g code none d) _ (λ _ _ _=>rfl) Q f (λ _=>none) (λ _=>none) _ _
  ⟨⟨⟨_,_,rfl⟩,(Heap.Ns.new s.heap (.type "frame")).keeps (C6 _ _),λ b o e=>C6 _ _ b o (Ai _ e),Am _⟩,
    λ n c W=>(C.empty n c (mem_of_lookup W)).1,C.apart,λ n c O=>(C.empty n c O).2⟩
  ⟨_,_,_,C6 _ _ _ _ (Ar _ rfl),rfl,rfl⟩ k λ w x Z=>Af (V _ rfl w x Z))
theorem Eg (C:EF W a fd i g)(hA:Cg (k+1) A)(G:Gd W s)(hX:∀b∈X,W.h0.get? b=none/\∃o,s.heap.get? b=some o)
 (r:ID W X s.heap d args) (hl:args.length=i.length)
 (a1:∀(w:Env)(z:Heap)(h:Nat),w=callEnvC fd s.heap.objs.size a->XB W fd.scope w s.heap->(∀b∈X,b∉Ay w)->s.toks<=h->
  XS W fd.scope w s.heap (Ay w++X) (Ay w++X) #[s,z,h] (i.zip args)->
  wpAny W.M (A.deeper w) (execs g w) (λ f m=>Q (match f with | .ret v=>v |_=>.none) m) (λ e m=>wpAny W.M (A.deeper w) (leaving w e) (λ _ N=>E e N) (λ e' N=>E e' N) m) #[s,z,h]):
 wpAny W.M A (call (.ref a) d) Q E s:=by
 obtain⟨o,I,O,J,L⟩:=C.obj;obtain⟨c,oc,vs,t,V,M,R,p,u,B⟩:=C.code;have S:=G.am.keep I J L;have T:s.heap.CodeRec fd.code fd.qualname:=⟨c,oc,vs,t,V,G.am.keep M u B,R,p⟩;have D:s.heap.NoLimit:=let⟨mc,h1,h2⟩:=C.ki;⟨mc,B2 G.am h1,h2⟩;have a0:=r.length;have Z:A.depth<recursionLimit:=by have:=hA.depth;show A.depth<1000;omega
 refine B7 (Sg Z S O C.co C.bc C.body T ?_);refine C.bind d s G.am ∅ _ _ _ _ ?_;rw[C.jc];have j:∀x∈i.zip d,fd.scope.names.lookup x.1=some .local\/(fd.scope.names.lookup x.1=some .cell/\((cellsFrom (s.heap.objs.size+1) fd.scope.names []).lookup x.1).isSome=true):=λ x hx=>by
  have U:x.1∈i:=ME (vs:=d) (At.mpr ⟨x,hx,rfl⟩);rcases(C.gn x.1 U).2 with q |q
  ·exact .inl q
  ·obtain⟨c,hc,_⟩:=(Cp x.1 fd.scope.names (s.heap.objs.size+1) [] C.names).2 q;exact .inr ⟨q,by rw[hc];rfl⟩
 refine(Bw (n:=s.toks) (Am _) (YR C.kind j λ w he m x fc Y=>?_));subst he;refine⟨D.keeps x.toInCall.keep,codeAny_func ?_⟩;have F:=RX C G hX r x;obtain⟨z,h,e⟩:=x.toInCall.same;subst e;have H:s.toks<=h:=Y;have fresh:∀b∈Ay (callEnvC fd s.heap.objs.size a),s.heap.get? b=none:=λ b l=>by
  rcases Ag.mp l with q |q
  ·rw[q];exact Bl s.heap
  ·obtain⟨⟨n,c⟩,U,rfl⟩:=At.mp q;exact Fn (Jl (x.above n c U))
 refine BP (a1 (callEnvC fd s.heap.objs.size a) z h rfl ⟨G.am,G.ea,λ b l=>fresh b ?_⟩ (λ b l q=>?_) H ⟨F,.ad x.toInCall.keep,Ab G.toks H,λ b l hz=>absurd l hz,fc⟩) (λ f m p=>?_) λ e m p=>p
 ·rcases l with rfl |⟨y,_,hy⟩
  ·exact Ac
  ·exact Bq hy
 ·obtain⟨o,I⟩:=(hX b l).2;rw[fresh b q] at I;cases I
 ·exact p
variable {r:List Stmt} in
def AQ (h:BH)(k:Heap):List Env->Prop
 |[]=>True
 |z::r=>z.scope.kind≠.module/\z.frame=some z.locals/\h.h0.get? z.locals=none/\CF z k/\AQ h k r
def Em (l:List Env):List Addr:=l.map (·.locals)
section
theorem AQ.imp (o:∀k:Env,CF k h->CF k H):∀{l:List Env},AQ W h l->AQ W H l
 |[],_=>trivial
  |_::_,⟨a,b,c,d,r⟩=>⟨a,b,c,o _ d,AQ.imp o r⟩
theorem AQ.bb (S:AQ W h l)(k:A8 W h H):AQ W H l:=S.imp λ _ f=>f.bb k
theorem AQ.bi (S:AQ W h l)(k:Ex h H):AQ W H l:=S.imp λ _ f=>f.bi k
theorem AQ.gh:∀{l:List Env},AQ W h l->h.FunFrames {objs:= #[]} l
 |[],_=>trivial
  |k::r,⟨a,b,c,⟨o,w,z,s,_,hd⟩,d⟩=>⟨a,⟨k.locals,o,b,by simp[Heap.get?],s,λ A q=>by rw[hd] at q;cases q⟩,AQ.gh d⟩
theorem AQ.mem:∀{l:List Env}{b:Addr},AQ W h l->b∈Em l->W.h0.get? b=none/\∃o s w,h.get? b=some o/\o.cls=.type "frame"/\o.data=.dict s w
 |z::r,b,⟨_,_,c,f,d⟩,k=>by
  rcases Ag.mp k with rfl |k
  ·exact⟨c,f⟩
  ·exact AQ.mem d k
theorem AQ.frames:∀{l:List Env},AQ W h l->l.filterMap (·.frame)=Em l
 |[],_=>rfl
  |k::r,⟨_,b,_,_,d⟩=>by rw[IO,b];simp only[Em,AL];rw[AQ.frames d];rfl
def UD (s:Heap)(e:Addr)(z A:Value)(hd:Option Addr)(C:Value):Prop:=
 ∃k h,s.get? e=some k/\k.cls=z/\k.data=.fields h/\h[0]? =some A/\match hd with
  |none=>h[1]? =some .none
  |some T=>h[1]? =some (.ref T)/\T≠e/\∃o w,s.get? T=some o/\o.cls=.type "traceback"/\o.data=.fields w/\w[3]? =some C
def Sw (l:List Addr)(e:Addr)(hd:Option Addr)(k h:Heap):Prop:=
 ∀b o,k.get? b=some o->b≠e->some b≠hd->h.get? b=some o\/(b∈l/\∃s,h.get? b=some {o with slots:=s})
theorem R8 (y:A.frames=some (z::c))(St:AQ W s.heap (z::c))
 (L:s.heap.get? e=some d) (U:d.cls=g) (hd:d.data=.fields f) (Y:f[0]? =some l) (Q:1<f.size)
 (hQ:∀u T,s.heap.get? T=none->UD u e g l (some T) (rawInt z.locals)->(∀b o,s.heap.get? b=some o->b≠e->u.get? b=some o\/(b∈Em (z::c)/\∃B,u.get? b=some {o with slots:=B}))->j () #[s,u]):
 wpAny M A (do let a <-frameOf z;let v <-entryPlaceOf z.locals b;let T <-EntryCells.newEntry i a .none (rawInt z.locals) .none v;setField (.ref e) 1 T) j E s:=by
 have hf:=St.2.1;have D:=St.frames;have V:e∉Em (z::c):=λ hm=>by
  obtain⟨_,o,es,ep,R,_,Z⟩:=St.mem hm;rw[L] at R;cases R;rw[hd] at Z;cases Z
 refine Aa (wpAny_frameOf_fun y St.gh hf λ k h=>?_);rw[D] at h;refine Aa (wpAny_entryPlaceOf λ v G=>?_);unfold EntryCells.newEntry newFields;refine Aa (Bj ?_ (G.sizeOk5 _ _ _ _ _));have w:k.get? e=some d:=(h.2.1 e V).trans L;have C:s.heap.get? k.objs.size=none:=by rw[h.1];exact Bl s.heap
 have m:k.objs.size≠e:=Cy (AO w);generalize O:({cls:=.type "traceback",dict:=none,data:=.fields ([i,.ref z.locals,.none,rawInt z.locals,.none]++(if v.isEmpty then List.replicate 6 Value.none else v)).toArray}:Obj)=n;have p:n.cls=.type "traceback":=by rw[<-O]
 have r:n.isFreed=false:=by rw[<-O];rfl
 have t:∃x,n.data=.fields x/\x[3]? =some (rawInt z.locals):=⟨_,by rw[<-O],(_)⟩;have H:(k.push n).get? e=some d:=Ai _ w;refine HN H hd Q (hQ _ k.objs.size C ?_ λ b o S I=>?_)
 ·have N:=Dl hd (·.setIfInBounds 1 (Value.ref k.objs.size))
  refine⟨_,_,Bc _ H (Dj N),(MZ _ _).trans U,N,by rw[Array.getElem?_setIfInBounds_ne {_}];exact Y,by simp[Q],m,n,?_⟩;obtain⟨x,h1,h2⟩:=t;exact⟨x,by rw[Ca _ _ (Ne.symm m)];exact Ar _ r,p,h1,h2⟩
 ·rw[Ca _ _ (Ne.symm I)];by_cases q:b∈Em (z::c)
  ·obtain⟨B,J⟩:=h.2.2 b o S;exact .inr ⟨q,B,Ai _ J⟩
  ·exact .inl (Ai _ ((h.2.1 b q).trans S))
theorem P6 {hd:Option Addr}(i:A.frames=some (z::a))(St:AQ W s.heap (z::a))(F:UD s.heap e c f hd .none)
 (D:∀O T,s.heap.get? T=none->UD O e c f (some T) (rawInt z.locals)->Sw (Em (z::a)) e hd s.heap O->d () #[s,O]):wpAny M A (noteFrame (.ref e) z) d E s:=by
 obtain⟨oe,U,t,G,k,I,j⟩:=F;have Y:=St.2.1;unfold noteFrame;simp only[Y];cases hd with
 |none=>
  have l:U[1]? =some .none:=j;refine Aa (B5 t k l ?_);rw[Ak {_}];exact R8 i St t G k I (Ch.mp l).1 λ O T Q u v=>D O T Q u λ b o C V _=>v b o C V
 |some T=>
  obtain⟨l,x,oT,ts,Q,a1,w,J⟩:=j;refine Aa (B5 t k l ?_);rw[Ap (show(Value.ref T !=Value.none)=true from by simp)];refine Aa (B5 Q w J ?_);rw[Ak (show ¬((Value.none==rawInt z.locals)=true) from by simp[rawInt])];refine Aa (HN Q w (Ch.mp J).1 ?_);have a2:T∉Em (z::a):=λ hm=>by
   obtain⟨_,o,L,R,S,_,m⟩:=St.mem hm;rw[Q] at S;cases S;rw[w] at m;cases m
  have h:∀b,b≠T->(s.heap.update T (Obj.mapFields (·.setIfInBounds 3 Value.none))).get? b=s.heap.get? b:=λ b C=>Ca _ _ (Ne.symm C)
  have Z:(Obj.mapFields (·.setIfInBounds 3 Value.none) oT).isFreed=false:=Dj (Dl w _)
  have H:=Bc (Obj.mapFields (·.setIfInBounds 3 Value.none)) Q Z
  have y:AQ W (s.heap.update T (Obj.mapFields (·.setIfInBounds 3 Value.none))) (z::a):=St.bi λ b o L R C g=>⟨o,L,R,by
   rw[h b λ q=>by subst q;rw[Q] at C;cases C;rw[w] at g;cases g];exact C,rfl,g⟩
  refine R8 (s:=#[s,s.heap.update T (Obj.mapFields (·.setIfInBounds 3 Value.none))]) i y ((h e (Ne.symm x)).trans t) G k I (Ch.mp l).1 λ O n p u v=>D O n ?_ u λ b o C V B=>?_
  ·by_cases q:n=T
   ·subst q;have N:(s.heap.update n (Obj.mapFields (·.setIfInBounds 3 Value.none))).get? n=none:=p
    rw[H] at N;cases N
   ·rw[<-h n q];exact p
  ·have r:b≠T:=λ q=>B (by rw[q]);exact v b o ((h b r).trans C) V
theorem VH (F:UD s.heap e a g (some T) d)
 (Z:∀H,UD H e a g (some T) .none->(∀b o,s.heap.get? b=some o->b≠T->H.get? b=some o)->c () #[s,H]):wpAny M A (setFlight (.ref e) none) c E s:=by
 obtain⟨i,j,Q,l,h,m,V,k,q,r,W,N,w,n⟩:=F;unfold setFlight;refine Aa (B5 Q h V ?_);rw[Ap (show(Value.ref T !=Value.none)=true from by simp)];have z:=(Ch.mp n).1;have C:=Dl w (·.setIfInBounds 3 ((none:Option Addr).elim Value.none λ f=>rawInt f))
 refine HN W w z (Z _ ⟨i,j,?_,l,h,m,V,k,_,_,Bc _ W (Dj C),(MZ _ _).trans N,C,by simp[z]⟩ λ b o p O=>?_)
 ·rw[Ca _ _ k];exact Q
 ·rw[Ca _ _ (Ne.symm O)];exact p
end
def It (o:BH)(h k:Heap)(e:Addr)(s v:Value):Prop:=
 A8 o h k/\h.get? e=none/\∃t n hd,k.get? t=some (JI #[v] n)/\UD k e s (.ref t) hd .none/\∀T,hd=some T->h.get? T=none
section
theorem A8.fv {hd:Option Addr}(B:A8 W c h)(St:AQ W h l)(K:Sw (Em l) e hd h H)(F:UD h e a f hd d)(D:a≠.none/\a≠.type "code")(G:c.get? e=none)(I:∀T,hd=some T->c.get? T=none):A8 W c H:=by
 obtain⟨Y,vs,p,O,J,h0,r⟩:=F;have step:∀b o,h.get? b=some o->b≠e->some b≠hd->H.get? b=some o\/(W.h0.get? b=none/\o.cls=.type "frame"/\(∃i j,o.data=.dict i j)/\∃E,H.get? b=some {o with slots:=E}):=λ b o s L M=>by
  rcases K b o s L M with k |⟨R,E,k⟩
  ·exact .inl k
  ·obtain⟨S,o',i,j,Q,u,C⟩:=St.mem R;rw[s] at Q;cases Q;exact .inr ⟨S,u,⟨i,j,C⟩,E,k⟩
 refine⟨λ b o s=>?_,λ t=>W.bz h H (λ b o ws s v N=>?_) (B.2 t)⟩
 ·have w:b≠e:=λ q=>by rw[q,G] at s;cases s
  have A:some b≠hd:=λ q=>by rw[I b q.symm] at s;cases s
  rcases B.1 b o s with k |⟨n,k,E,x⟩ |⟨n,U,V,k,x⟩
  ·rcases step b o k w A with z |⟨y,m,_,E,z⟩
   ·exact .inl z
   ·exact .inr (.inl ⟨y,m,E,z⟩)
  ·rcases step b _ x w A with z |⟨y,m,_,Z,z⟩
   ·exact .inr (.inl ⟨n,k,E,z⟩)
   ·exact .inr (.inl ⟨n,k,Z,z⟩)
  ·rcases step b _ x w A with z |⟨y,m,_,Z,z⟩
   ·exact .inr (.inr ⟨n,U,V,k,z⟩)
   ·cases m
 ·have w:b≠e:=λ q=>by
   subst q;rw[p] at s;cases s;rcases N with q |q
   ·exact D.1 (O.symm.trans q)
   ·exact D.2 (O.symm.trans q)
  have A:some b≠hd:=λ q=>by
   subst q;obtain⟨_,_,oT,ts,g,u,_⟩:=r;rw[s] at g;cases g;rw[u] at N;simp at N
  rcases step b o s w A with z |⟨_,_,⟨i,j,C⟩,_⟩
  ·exact z
  ·rw[v] at C;cases C
theorem Sw.stack {hd:Option Addr}(St:AQ W h a)(K:Sw (Em l) e hd h H)(F:UD h e b d hd c):AQ W H a:=by
 obtain⟨m,n,E,g,N,p,O⟩:=F;refine St.imp λ w f=>?_;obtain⟨o,Q,V,C,Z,s⟩:=f;have i:w.locals≠e:=λ q=>by rw[q,E] at C;cases C;rw[N] at s;cases s
 have j:some w.locals≠hd:=λ q=>by
  subst q;obtain⟨_,_,r,t,z,_,A,_⟩:=O;rw[C] at z;cases z;rw[s] at A;cases A
 rcases K _ o C i j with k |⟨_,u,k⟩
 ·exact⟨o,Q,V,k,Z,s⟩
 ·exact⟨_,Q,V,k,Z,s⟩
theorem Sw.seq {hd:Option Addr}(St:AQ W h l)(K:Sw (Em l) e hd h H)(F:UD h e a d hd b)(w:h.get? t=some o)(s:o.data=.seq c n):H.get? t=some o:=by
 obtain⟨i,j,N,V,O,m,Q⟩:=F;have Z:t≠e:=λ q=>by rw[q,N] at w;cases w;rw[O] at s;cases s
 have f:some t≠hd:=λ q=>by
  subst q;obtain⟨_,_,p,r,z,_,A,_⟩:=Q;rw[w] at z;cases z;rw[s] at A;cases A
 rcases K t o w Z f with k |⟨g,u,k⟩
 ·exact k
 ·obtain⟨_,v,x,y,C,_,E⟩:=St.mem g;rw[w] at C;cases C;rw[s] at E;cases E
theorem It.fs (V:b≠.none/\b≠.type "code")(C:A.frames=some (z::a))(St:AQ W s.heap (z::a))(F:It W c s.heap e b v)
 (Z:∀h t n T,A8 W c h->c.get? T=none->AQ W h (z::a)->h.get? t=some (JI #[v] n)->UD h e b (.ref t) (some T) (rawInt z.locals)->d () #[s,h]):wpAny M A (noteFrame (.ref e) z) d E s:=by
 obtain⟨H,f,t,n,hd,g,w,i⟩:=F;refine P6 C St w λ h T N O K=>?_;have Q:c.get? T=none:=by
  cases q:c.get? T with
  |none=>rfl
  |some o=>obtain⟨j,k⟩:=AP H ⟨o,q⟩;rw[N] at k;cases k
 exact Z h t n T (H.fv St K w V f i) Q (K.stack St w) (K.seq St w g rfl) O
theorem It.land (N:a≠.none/\a≠.type "code")(St:AQ W s.heap l)(O:A8 W c s.heap)(H:c.get? e=none)(w:c.get? T=none)(Q:s.heap.get? t=some (JI #[v] n))(F:UD s.heap e a (.ref t) (some T) f)
 (V:∀h,It W c h e a v->AQ W h l->d () #[s,h]):wpAny M A (setFlight (.ref e) none) d E s:=by
 refine VH F λ h z k=>?_;have K:Sw (Em l) e (some T) s.heap h:=λ b o Z _ C=>.inl (k b o Z λ q=>C (by rw[q]));exact V h ⟨O.fv St K F N H λ g q=>by cases q;exact w,H,t,n,some T,K.seq St F Q rfl,z,λ g q=>by cases q;exact w⟩ (K.stack St F)
theorem It.be (N:b≠.none/\b≠.type "code")(C:A.frames=some (z::a))(St:AQ W s.heap (z::a))(F:It W d s.heap e b v)
 (O:∀H,It W d H e b v->AQ W H (z::a)->c () #[s,H]):wpAny M A (leaving z (.ref e)) c E s:=by
 unfold leaving;refine Aa (F.fs N C St λ k t n T o Q h V w=>?_);exact It.land (s:=#[s,k]) N h o F.2.1 Q V w O
theorem It.ew (F:It W d h e c v)(z:A8 W b d):It W b h e c v:=by
 obtain⟨k,A,t,n,hd,C,E,H⟩:=F;have s:∀{a:Addr},d.get? a=none->b.get? a=none:=λ{a} N=>by
  cases q:b.get? a with
  |none=>rfl
  |some o=>obtain⟨O,w⟩:=AP z ⟨o,q⟩;rw[N] at w;cases w
 exact⟨z.trans k,s A,t,n,hd,C,E,λ T q=>s (H T q)⟩
theorem It.gc (m:Heap.MadeExcOf h H e a [v]):It W h H e a v:=by
 obtain⟨t,k,s,o⟩:=m.there;exact⟨.ad m.keeps,m.new,t,0,none,o,⟨_,_,k,rfl,rfl,rfl,rfl⟩,λ T q=>nomatch q⟩
end
variable {cd:ClassData}{sl:BL} in
inductive Hm (h:Heap)(name:Str)(bmB:List Value):List Value->Prop
 |base:Hm h name bmB bmB
 |own {A:Addr} {c0:Value} {dd:Option Addr} {cd:ClassData} {sl:Array (Option Value)} {mA:Str->Option Value} {tl:List Value}:
  h.get? A=some {cls:=c0,dict:=dd,data:=.cls cd,slots:=sl}->h.Ns cd.ns mA->mA name=none->Hm h name bmB tl->Hm h name bmB (.ref A::tl)
theorem SE (s:A8 W h H)(T:Hm h name a b):Hm H name a b:=by
 induction T with
 |base=>exact .base
 |own C w o _ z=>
  rcases s.1 _ _ C with k |⟨_,_,E,k⟩ |⟨_,N,A,k,_⟩
  ·exact .own k (B2 s w) o z
  ·exact .own k (B2 s w) o z
  ·injection k with _ _ k;cases k
structure D8 (W:BH)(mg:Str->Option Value)(x:Str)(C:Addr)(bm:List Value):Prop where
 br:mg x=some (.ref C)
 cls:∃nm q N bs hdct sn sub ab col dd k0 k1 k2 k3 k5 B newId initId bmB mN nm0,ExcBaseFacts B newId initId bmB/\W.h0.get? C=some (excClassObj nm q C N bs bm hdct sn sub ab col dd k0 k1 k2 k3 k5 newId)/\W.h0.Ns N mN/\mN "__init__"=none/\OwnTail W.h0 bmB bm/\
  mN "__str__"=none/\Hm W.h0 "__str__" bmB bm/\ExcStrFacts B nm0
theorem Rm (s:A8 W h H)(T:OwnTail h a b):OwnTail H a b:=by
 induction T with
 |base=>exact .base
 |own C w o _ z=>
  rcases s.1 _ _ C with k |⟨_,_,E,k⟩ |⟨_,N,A,k,_⟩
  ·exact .own k (B2 s w) o z
  ·exact .own k (B2 s w) o z
  ·injection k with _ _ k;cases k
variable {d:PV}{x:Str} in
inductive eC where
 |ret (d:PV)
 |gi (x:Str) (w:Str)
variable {a f:Addr}{args:List Expr}{c:Nat} in
def PZ:Stmt->Option (Str×Expr)
 | .Raise e c _=>match e,c with
   |some (.Call f args h _),none=>match args with
    |[a]=>if h.isEmpty&&Bk a then(Rq f).map λ x=>(x,a) else none
    |_=>none
   |_,_=>none
 |_=>none
variable {b:PV}{t:Expr}{st:Stmt} in
def Qn:Stmt->Option (Expr×Str×Expr)
 | .If t b o _=>match b,o with
   |[st],[]=>(PZ st).map λ p=>(t,p.1,p.2)
   |_,_=>none
 |_=>none
variable {a:Addr}{d:PV}{r:List Stmt}{t:Expr}{x:Str}{st:Stmt}{b:AC} in
def Wa (p:JV)(h:List Str)(k:Nat)(o:Scope)(n:Nat):List Stmt->AC->Option eC
 |[],_=>none
 |st::r,O=>match Qn st with
  |some (t,x,a)=>(p.ts o O t).bind λ c=>if c then(if h.contains x&&Bz o x&&(O.lookup x).isNone then(p.ev o O a).bind λ d=>(GE d).map λ w=>.gi x w else none) else Wa p h k o n r O
  |none=>(Ez p k o n O st).bind λ s=>match s with
   | .next b=>Wa p h k o n r b
   | .brk _=>none
   | .ret d=>some (.ret d)
theorem PY {st:Stmt}(h:PZ st=some (x,a)):∃k o z,st=.Raise (some (.Call (.Name x k) [a] [] o)) none z/\Bk a=true:=by
 unfold PZ at h;split at h
 ·split at h
  ·rename_i f args s o;split at h
   ·split at h
    ·rename_i w;rw[Ah] at w;obtain⟨y,A,q⟩:=As.mp h;obtain⟨k,rfl⟩:=Gq A;cases q;have:s=[]:=by simpa using w.1
     subst this;exact⟨k,o,_,rfl,w.2⟩
    ·cases h
   ·cases h
  ·cases h
 ·cases h
theorem Qm {st:Stmt}(h:Qn st=some (t,x,a)):∃k o s w,st=.If t [.Raise (some (.Call (.Name x k) [a] [] o)) none s] [] w/\Bk a=true:=by
 unfold Qn at h;split at h
 ·split at h
  ·obtain⟨q,z,e⟩:=As.mp h;obtain⟨y,b⟩:=q;cases e;obtain⟨k,o,s,rfl,A⟩:=PY z;exact⟨k,o,s,_,rfl,A⟩
  ·cases h
 ·cases h
theorem L8 {Cl:Addr}(T:Dh W C k mg mb)(U:Cg k A)(Y:JE W A p)(B:XB W V z N)(I:D8 W mg x Cl d)(S:XS W V z N Z X s O)(Q:Bk a=true)(hg:Bz V x=true)
 (ha:p.ev V O a=some (.str b))
 (hE:∀u J e t,A8 W s.heap u->s.toks<=J->PyData.strOk b=true->b.length<=Bi->It W s.heap u e (.ref Cl) (.str b t)->E (.ref e) #[s,u,J]):
 wpAny W.M A (exec (.Raise (some (.Call (.Name x i) [a] [] c)) none f) z) g E s:=by
 obtain⟨nm,q,a0,bs,j,sn,sub,ab,y,dd,k0,k1,k2,k3,k5,Bn,w,r,a1,mN,a2,L,hC,hN,D,M,_⟩:=I.cls;have o:(backTo c (starEach [a] z)).any (·.1)=false:=by rw[AN c z [a] (by simp[Q])];rfl
 have G:=S.gd B;refine wpAny_Raise_call_subT (C:=Cl) (nm:=nm) (q:=q) (N:=a0) (bs:=bs) (bm:=d) (hdct:=j) (sn:=sn) (sub:=sub) (ab:=ab) (col:=y) (dd:=dd) (k0:=k0) (k1:=k1) (k2:=k2) (k3:=k3) (k5:=k5) (newId:=w) L (M.hasType L.hasBase) U.handled o D (BM T S.F G hg (.inl I.br) ⟨rfl,?_⟩);rw[AN c z [a] (by simp[Q])];refine A1 (Av ((Y V z).ev O a _ ha Z X s S.F G _ _ λ v R H h l rv=>AV ⟨rfl,by simp[sizeLine],(G.am.trans h).keep hC (by simp[excClassObj]) (by simp[excClassObj]),B2 (G.am.trans h) hN,Rm (G.am.trans h) M,λ n e m=>?_⟩));cases rv with |str _ t o1 z1=>
 exact hE n H e t (h.trans (.ad m.keeps)) l o1 z1 ((It.gc m).ew h)
theorem JW (L:Dh W C k mg mb)(M:Cg k A)(a3:JE W A p)(B:XB W V z N){i:Str->Addr}{j:Str->List Value}(xo:∀x∈b,D8 W mg x (i x) (j x)):∀(R:List Stmt)(D:AC),Wa (Ku C p) b f V n R D=some g->
 ∀(Z X:List Addr)(s:Shared)(Q:Flow->Shared->Prop)(E:JD),XS W V z N Z X s D->
 (∀d,g=.ret d->∀v G T,A8 W N G->s.toks<=T->Rp W Z G v d->Q (.ret v) #[s,G,T])->
 (∀x w,g=.gi x w->x∈b->∀G T e t,CF z G->s.toks<=T->PyData.strOk w=true->w.length<=Bi->It W N G e (.ref (i x)) (.str w t)->E (.ref e) #[s,G,T])->
 wpAny W.M A (execs R z) Q E s
 |[],D,e=>by cases e
  |st::r,D,e=>λ Z X s Q E S hQ hE=>by
   have Hs:=FX L M a3;rw[Wa] at e;split at e
   ·rename_i t x a ho;obtain⟨np,cp,rp,a6,rfl,a4⟩:=Qm ho;obtain⟨c,hc,y⟩:=Ae.mp e;refine Al (Jz ((Hs V z).tst D t c hc Z X s S.F (S.gd B) _ _ λ b' q H U o a5=>?_));subst a5;have m:=S.ac U o;cases b' with
    |true=>
     simp only[A0] at y ⊢;split at y
     ·rename_i hq;rw[Ah,Ah] at hq;obtain⟨d,hd,e2⟩:=Ae.mp y;obtain⟨w,hw,e3⟩:=As.mp e2;have:=Nd hw;subst this;have J:x∈b:=by simpa using hq.1.1
      refine Al (L8 L M Hs B (xo x J) m a4 hq.1.2 hd λ Y I e' tt a0 a1 o1 z1 F=>?_);exact hE x w e3.symm J Y I e' tt ((m.fc).bb a0) (Ab o a1) o1 z1 (F.ew m.le)
     ·cases y
    |false=>
     simp only[Aq,AS] at y ⊢;refine AZ ?_;exact JW L M a3 B xo r D y Z X #[s,q,H] Q E m (λ d hd v O h u l rv=>hQ d hd v O h u (Ab o l) rv) λ x w hx J O h e' tt fc l o1 z1 F=>hE x w hx J O h e' tt fc (Ab o l) o1 z1 F
   ·obtain⟨f1,h1,y⟩:=Ae.mp e;refine Al (G8 L M a3 B f n st D f1 h1 Z X s _ _ S ?_);cases f1 with
    |next a2=>exact λ q H m kd o=>JW L M a3 B xo r a2 y Z X #[s,q,H] Q E m (λ d hd v O h u l rv=>hQ d hd v O h u (Ab o l) rv) λ x w hx J O h e' tt fc l o1 z1 F=>hE x w hx J O h e' tt fc (Ab o l) o1 z1 F
    |brk a2=>cases y
    |ret d'=>cases y;exact λ v q H u o r=>hQ d' rfl v q H u o r
def eA (p:JV)(h:List Str)(k:Nat)(w:Scope)(n:Nat)(s:List Str)(o:List Stmt)(args:List PV):Option eC:=
 if args.length=s.length then Wa p h k w n o (s.zip (args.map BL.aa)) else none
theorem cK (Gk:Dh W C k mg mb)(fo:EF W a fd q f){l:Str->Addr}{u:Str->List Value}(xo:∀x∈c,D8 W mg x (l x) (u x))
 (M:Cg (k+1) A) (R:A.frames=some i) (St:AQ W s.heap i) (G:Gd W s) (hX:∀b∈X,W.h0.get? b=none/\∃o,s.heap.get? b=some o) (r:RpL W X s.heap j args)
 (e:eA (By C (m+1)) c p fd.scope n q f args=some g)
 (hQ:∀d,g=.ret d->∀v V D,A8 W s.heap V->s.toks<=D->Rp W X V v d->Q v #[s,V,D])
 (hE:∀x w,g=.gi x w->x∈c->∀V D e t,s.toks<=D->PyData.strOk w=true->w.length<=Bi->It W s.heap V e (.ref (l x)) (.str w t)->AQ W V i->E (.ref e) #[s,V,D]):
 wpAny W.M A (call (.ref a) j) Q E s:=by
 unfold eA at e;split at e
 ·rename_i hl;refine Eg fo M G hX (ID.fj r) (by simpa using hl) λ z a0 T he B a1 O S=>?_;have I:(A.deeper z).frames=some (z::i):=by show A.frames.map (z::·)=_;rw[R];rfl
  refine JW Gk (M.down z) (A2 Gk (M.down z) m) B xo f _ e _ _ _ _ _ S (λ d hd v H h U N rv=>?_) λ x w hx hm H h e' t fc N o1 z1 F=>?_
  ·exact hQ d hd v H h U (Ab O N) (rv.ag λ b hb=>Au.mpr (.inr hb))
  ·have Z:W.h0.get? z.locals=none:=(S.F.alive z.locals (S.F.zx _ (S.F.aw _ Ac))).1;have Y:AQ W H (z::i):=⟨by rw[he];show fd.scope.kind≠_;rw[fo.kind];simp,by rw[he];rfl,Z,fc,St.bb F.1⟩;exact It.be (s:=#[s,H,h]) (_) I Y F λ J L y=>hE x w hx hm J h e' t (Ab O N) o1 z1 L y.2.2.2.2
 ·cases e
def E3 (h:Heap)(B:Addr):Heap:={h with objs:=h.objs.modify B λ o=>{o with data:=.freed}}
section
theorem GG:(E3 h B).get? B=none:=by
 unfold E3 Heap.get?;simp only[Ht,A0];cases h.objs[B]? with
 |none=>rfl
 |some o=>rfl
theorem EI (k:b≠B):(E3 h B).get? b=h.get? b:=by
 unfold E3 Heap.get?;simp only[Ht,Ak (Ne.symm k)]
theorem J5 (k:h.get? b=none):(E3 h B).get? b=none:=by
 by_cases q:b=B
 ·subst q;exact GG
 ·rw[EI q];exact k
theorem Qb:A8 W (E3 h B) h:=
 .ad λ b o e=>by
  by_cases q:b=B
  ·subst q;rw[GG] at e;cases e
  ·rw[EI q] at e;exact e
theorem Pc (R:A8 W W.h0 h)(s:W.h0.get? B=none)(w:∀o k,h.get? B=some o->o.data≠.fields k):A8 W W.h0 (E3 h B):=by
 refine⟨λ b o e=>?_,λ t=>W.bz h _ (λ b o k e hd _=>?_) (R.2 t)⟩
 ·have q:b≠B:=λ q=>by rw[q,s] at e;cases e
  rw[EI q];exact R.1 b o e
 ·have q:b≠B:=λ q=>w o k (q▸e) hd;rw[EI q];exact e
theorem KC (T:W.dc h)(s:∀o k,h.get? B=some o->o.data≠.fields k):W.dc (E3 h B):=
 W.bz h _ (λ b o k e hd _=>by
   have q:b≠B:=λ q=>s o k (q▸e) hd;rw[EI q];exact e) T
end
theorem BX.bf (S:Kg W (Ck V z) h H)(w:∀a,Ck V z a->a∈X)(A:¬Ck V z a):∀{d:PV},BX W X h a d->BX W X H a d
 | .list _,⟨C,n,e,k,r⟩=>⟨C,n,S.keep _ _ A e,k,r.bf w S⟩
  | .dict _,⟨s,e,y,k,q,r⟩=>⟨s,let⟨o,E,N,O,x⟩:=e;⟨o,E,N,S.keep _ _ A O,x⟩,y,k,q,r.bf w S⟩
theorem Bg.bf (F:FI W V z Z X h O)(S:Kg W (Ck V z) h H):∀{o:BL},Bg W Z X h v o->Bg W Z X H v o
 | .aa _,r=>Rp.bf (λ a k=>F.bo k) S r
  | .own _,⟨a,e,m,s,r⟩=>⟨a,e,m,s,r.bf S (λ a k=>F.bo k) λ q=>s (F.wr q)⟩
  | .al _,r=>r
  | .bl _ _,r=>⟨r.1,Rp.bf (λ a k=>F.bo k) S r.2⟩
theorem XS.fg (B:XB W V z N)(S:XS W V z N Z X s O)(i:AR V x=true)(H:Bg W Z X s.heap v sl)(o:∀d,sl=.own d->∀y e,O.lookup y=some (.own e)->y=x)
 (j:∀Q f,XS W V z N Z X #[s,Q,f] (AM O x sl)->Kg W (Ck V z) s.heap Q->s.toks<=f->a () #[s,Q,f]):wpAny W.M A (assign (.Name x c) z v) a E s:=by
 refine DD (FI.cq S.F (sl:=sl) (DJ i).2 (DJ i).1 H o λ w k C St h=>?_);refine j w k ⟨C.ap λ y l q=>?_,St.ik N (λ b g=>B.wr b g) S.le,Ab S.tk h,S.fr,S.fc.bi St.cls⟩ St h;rw[Aw] at q;by_cases e:y=x
 ·subst e;rw[Ap rfl] at q;rw[An];exact q
 ·rw[Ak e] at q;rw[Aj e];exact q
variable {a:List PV}{x:Str}{b:BL} in
def SQ:List (Str×Pos)->List BL->AC->AC
 |(x,_)::a,b::h,O=>SQ a h (AM O x b)
 |_,_,O=>O
variable {v:Value}{b:List Value}{a:BL} in
def Iq (k:BH)(o X:List Addr)(s:Heap):List Value->List BL->Prop
 |[],[]=>True
 |v::b,a::h=>Bg k o X s v a/\(∀d,a≠.own d)/\Iq k o X s b h
 |_,_=>False
theorem Iq.bf (F:FI W V z Z X h O)(S:Kg W (Ck V z) h H):∀{o:List Value}{k:List BL},Iq W Z X h o k->Iq W Z X H o k
 |[],[],_=>trivial
  |_::_,_::_,⟨a,b,c⟩=>⟨a.bf F S,b,Iq.bf F S c⟩
  |[],_::_,h=>h.elim
  |_::_,[],h=>h.elim
theorem XS.ga (B:XB W V z N):∀(a:List (Str×Pos))(l:List Value)(k:List BL)(w:AC)(s:Shared)(Q:Unit->Shared->Prop),XS W V z N Z X s w->a.all (λ x=>AR V x.1)=true->a.length=k.length->Iq W Z X s.heap l k->
 (∀m n,XS W V z N Z X #[s,m,n] (SQ a k w)->Kg W (Ck V z) s.heap m->s.toks<=n->Q () #[s,m,n])->
 wpAny W.M A (assignInOrder (List.map (λ x=>x.2) (assignEach (a.map λ x=>.Name x.1 x.2) z)) l) Q E s
 |[],[],[],w,s,Q,S,_,_,_,h=>wpAny_assignInOrder_none (h s.heap s.toks S .refl (Am _))
  |[],_::_,[],w,s,Q,S,_,_,r,h=>r.elim
  |[],_,_::_,w,s,Q,S,_,b,_,h=>by simp at b
  |_::_,_,[],w,s,Q,S,_,b,_,h=>by simp at b
  |_::_,[],_::_,w,s,Q,S,_,_,r,h=>r.elim
  |(x,u)::a,v::l,D::k,w,s,Q,S,p,b,⟨r,t,y⟩,h=>by
   rw[Dd,Ah] at p;refine wpAny_assignInOrder_more (S.fg B p.1 r (λ d q=>absurd q (t d)) λ c C e o f=>?_);exact XS.ga B a l k _ #[s,c,C] Q e p.2 (by simpa using b) (y.bf S.F o) λ g H i O j=>h g H i (o.trans O) (Ab f j)
theorem Me:∀(h:List (Str×Pos)),(assignEach (h.map λ x=>Expr.Name x.1 x.2) z).length=h.length/\List.findIdx? (λ x=>x.1) (assignEach (h.map λ x=>Expr.Name x.1 x.2) z)=none
 |[]=>⟨rfl,rfl⟩
  |x::h=>by
   obtain⟨k,o⟩:=Me h;refine⟨by simp[assignEach,k],?_⟩;rw[AL,assignEach,List.findIdx?_cons]
   ·simp[o]
   ·intro _ _ q;cases q
theorem XS.fp (i:A.handled=none)(B:XB W V z N)(S:XS W V z N Z X s O)(j:s.heap.get? T=some (JI vs.toArray n))(l:xs.all (λ x=>AR V x.1)=true)(m:xs.length=sls.length)
 (r:Iq W Z X s.heap vs sls) (p:vs.length=sls.length)
 (t:∀h f,XS W V z N Z X #[s,h,f] (SQ xs sls O)->Kg W (Ck V z) s.heap h->s.toks<=f->d () #[s,h,f]):wpAny W.M A (assign (.Tuple (xs.map λ x=>.Name x.1 x.2) c a) z (.ref T)) d E s:=by
 obtain⟨u,v⟩:=Me (z:=z) xs;refine wpAny_assign_Tuple i ⟨_,j,rfl,_,rfl⟩ (by rw[u];simp;omega) v λ h g=>?_;have k:∀b o,s.heap.get? b=some o->h.get? b=some o:=λ b o q=>g b o (BU (AO q)) q;have y:A8 W s.heap h:=.ad k;refine XS.ga B xs vs sls O #[s,h] d (S.ac (tk:=s.toks) y (Am _)) l m (r.bf S.F (.ad k)) λ H w Q C e=>t H w Q ((Kg.ad k).trans C) e
theorem JP {a:Type}(f:a->Bool):∀(l:List a)(i:Nat),(∀x,l[i]? =some x->f x=false)->(l.eraseIdx i).find? f=l.find? f
 |[],i,_=>(_)
  |x::l,0,h=>by
   have:=h x rfl;simp[Du,this]
  |x::l,i+1,h=>by
   rw[List.eraseIdx_cons_succ,Du,Du,JP f l i λ y k=>h y (by simpa using k)]
theorem Mt (k:a.findIdx? (λ e=>e.key.isStr name)=some i)(s:x≠name):nsFind (a.eraseIdxIfInBounds i) x=nsFind a x:=by
 obtain⟨l⟩:=a;simp only[nsFind,findBy,List.eraseIdxIfInBounds_toArray,List.find?_toArray,List.findIdx?_toArray] at k ⊢;rw[JP];intro e o;obtain⟨h,w,_⟩:=List.findIdx?_eq_some_iff_getElem.mp k;have:l[i]=e:=by rw[Bb h] at o;injection o
 rw[<-this];cases q:l[i].key.isStr x with
 |false=>rfl
 |true=>exact absurd (Value.isStr_inj _ _ _ q w) s
theorem PJ (x:s.heap.Ns a m)(C:(m name).isSome=true)
 (B:∀O p,O.Ns a p->(∀y,y≠name->p y=m y)->Heap.SameBut a s.heap O->Ex s.heap O->f true #[s,O]):wpAny M A (nsDel a name) f E s:=by
 obtain⟨o,z,D,Q,hd,r,u⟩:=id x;have v:z.any (·.refKey)=false:=by
  rw[F8];intro e G;obtain⟨n,t,h⟩:=r e G;simp[DictEntry.refKey,h]
 obtain⟨i,V⟩:∃i,z.findIdx? (λ e=>e.key.isStr name)=some i:=by
  cases q:z.findIdx? (λ e=>e.key.isStr name) with
  |some i=>exact⟨i,rfl⟩
  |none=>
   exfalso;rw[<-u name,nsFind,findBy_of_findIdx?,q] at C;cases C
 have H:z.any (λ e=>e.key.isStr name)=true:=by
  rw[Array.any_eq_true];obtain⟨W,I,_⟩:=Array.findIdx?_eq_some_iff_getElem.mp V;exact⟨i,W,I⟩
 have N:nsHas name o=pure true:=by
  rw[nsHas_eq];unfold nsHasByArray;rw[hd];simp only[H,A0]
 have k:(Obj.dropName name o).cls=o.cls/\(Obj.dropName name o).isFreed=false/\(Obj.dropName name o).data=.dict (z.eraseIdxIfInBounds i) (D+1):=by
  obtain⟨c,d,R,S⟩:=o;simp only at hd;subst hd;simp only[Obj.dropName_eq,Obj.dropNameByArray,V];exact⟨trivial,rfl,trivial⟩
 have w:=Bc (Obj.dropName name) Q k.2.1;unfold nsDel;refine Aa (K6 Q ?_);rw[N];refine Aa (Af ?_);simp only[A0];refine Aa (wpAny_updatePart Q (Af (B _ (nsFind (z.eraseIdxIfInBounds i)) ⟨_,_,_,w,k.2.2,r.erase i,λ _=>rfl⟩ (λ y J=>by rw[Mt V J,u]) (BA ..) λ b L Z g j l=>?_)));by_cases q:b=a
 ·subst q;rw[Q] at j;cases j;exact⟨_,_,_,w,k.1,k.2.2⟩
 ·exact⟨L,Z,g,by rw[Ca _ _ (Ne.symm q)];exact j,rfl,l⟩
def NS (h:AC)(n:Str):AC:=h.filter λ q=>!(q.1==n)
theorem Dr (n:Str):∀(h:AC)(y:Str),(NS h n).lookup y=if y=n then none else h.lookup y
 |[],y=>by simp[NS]
  |(z,t)::h,y=>by
   have k:=Dr n h y;unfold NS at k ⊢;rw[FQ];by_cases q:z=n
   ·subst q;simp only[DG,HK,Aq,AS];rw[k];by_cases r:y=z
    ·rw[Ap r,Ap r]
    ·rw[Ak r,Ak r,Aj r]
   ·have:(z==n)=false:=by simpa using q
    simp only[this,Bool.not_false,A0];by_cases r:y=z
    ·subst r;rw[An,An,Ak q]
    ·rw[Aj r,Aj r];exact k
theorem XS.fu (B:XB W V z N)(S:XS W V z N Z X s O)(hl:V.names.lookup n=some .local)(J:CC n=true)
 (a7:∀h' tk,XS W V z N Z X #[s,h',tk] (NS O n)->BY V z Z X s.heap h'->s.toks<=tk->f () #[s,h',tk]):wpAny W.M A (do bindName z n .none;unbindBehindTheSuite z n g) f E s:=by
 have a8:AR V n=true:=by unfold AR;rw[J,hl];rfl
 refine Aa (wpAny_bindName ?_);refine FI.cq S.F (sl:=.al .none) (.inl hl) J rfl (λ d q=>nomatch q) λ l H C Q D=>?_;have p:XS W V z N Z X #[s,l,H] ((n,.al .none)::O):=⟨C,Q.ik N (λ b a2=>B.wr b a2) S.le,Ab S.tk D,S.fr,S.fc.bi Q.cls⟩;unfold unbindBehindTheSuite;refine wpAny_onRaise ?_;unfold unbindName;refine Aa (wpAny_point (Aa ?_));have a3:z.kindOf n=some .local:=S.F.dy n hl;have hp:(z.scope.kind== .class||(z.scope.kind== .module&&z.locals !=z.globals))=false:=by rw[S.F.kind];rfl
 unfold deleteName;simp only[a3,hp];rw[Ak {_}];obtain⟨m,hn,hv⟩:=C.ns;obtain⟨v,a4,_⟩:=hv n (.al .none) hl An;refine Aa (PJ (s:=#[s,l,H]) hn (by rw[a4];rfl) λ j L t G w I=>?_);simp only[HK,Aq,AS];refine Af (wpAny_point ?_);have hz:z.locals∈Z:=S.F.aw _ Ac;have hX:=S.F.zx _ hz;have M:FI W V z Z X j (NS O n):=
  {C with
   ns:=⟨L,t,λ y R hy h=>by
    rw[Dr] at h;by_cases q:y=n
    ·rw[Ap q] at h;cases h
    ·rw[Ak q] at h;obtain⟨v,e,r⟩:=hv y R hy (by rw[Aj q];exact h);exact⟨v,by rw[G y q];exact e,r.az w hX hz⟩⟩
   cell:=λ y hy=>by
    obtain⟨c,ov,e,i,k⟩:=C.cell y hy;refine⟨c,ov,e,i.sameBut w (Kc i hn),λ R h=>?_⟩;rw[Dr] at h;by_cases q:y=n
    ·rw[Ap q] at h;cases h
    ·rw[Ak q] at h;obtain⟨u,e',r⟩:=k R (by rw[Aj q];exact h);exact⟨u,e',r.az w hX hz⟩
   dk:=λ y R h=>by
    rw[Dr] at h;by_cases q:y=n
    ·rw[Ap q] at h;cases h
    ·rw[Ak q] at h;exact S.F.dk y R h
   alive:=λ a ha=>⟨(C.alive a ha).1,EH w (by obtain⟨o,_,_,T,_⟩:=t;exact⟨o,T⟩) (C.alive a ha).2⟩
   bu:=λ y a6 d e U Y=>by
    rw[Dr] at U Y;by_cases q:y=n
    ·rw[Ap q] at U;cases U
    ·by_cases r:a6=n
     ·rw[Ap r] at Y;cases Y
     ·rw[Ak q] at U;rw[Ak r] at Y;exact S.F.bu y a6 d e U Y}
 have x:A8 W N j:=p.le.az (B.wr _ (.inl rfl)) (λ o vs T hd=>by
  obtain⟨o',es,ep,a0,a1,_⟩:=hn;have a5:l.get? z.locals=some o:=T;rw[a5] at a0;cases a0;rw[hd] at a1;cases a1) w
 have kd:BY V z Z X s.heap j:=(Q.af λ a ha=>S.F.bo ha).trans λ b o hc T=>(w.2 b λ q=>hc.elim (λ c=>c.1 (q▸hX)) λ c=>c.2.1 (.inl q)).trans T;exact a7 j H ⟨M,x,p.tk,S.fr,p.fc.bi I⟩ kd D
open Builtin Builtin.Str Builtin.BaseException Builtin.Exceptions
section
variable {C:Addr}
theorem Tx {os:OsState}(T:Hm h name a b)(k:lookupAlong a name=pure y)(s:c y ⟨h,g,d,t,os⟩):
 wpAny M A (lookupAlong b name) c E ⟨h,g,d,t,os⟩:=by
 induction T with
 |base=>rw[k];exact Af s
 |own w z o _ C=>
  rw[lookupAlong_cons];refine Aa (wpAny_classOwn_cls w z ?_);rw[o];exact C
theorem RC {os:OsState}{sub:List Value}(w:h.get? C=some (excClassObj nm q C i m j f n sub p l r u v x D G b))(H:h.Ns i c)(o:c name=none)(T:Hm h name a j)
 (s:mroOf (.type B)=pure a) (z:typeLookup (.type B) name=pure y) (N:e y ⟨h,g,d,t,os⟩):wpAny M A (typeLookup (.ref C) name) e E ⟨h,g,d,t,os⟩:=by
 have k:lookupAlong a name=pure y:=by rw[typeLookup_eq,s] at z;exact z
 rw[typeLookup_eq];refine Aa (wpAny_mroOf_exc w ?_);rw[lookupAlong_cons];refine Aa (wpAny_classOwn_exc w H ?_);rw[o];exact Tx T k N
end
section
variable {C:Addr}
theorem UV {os:OsState}{sub:List Value}(Z:A.units<cLine)(k:ExcStrFacts B b)
 (o:h.get? C=some (excClassObj nm q C v y c r D sub G x I J L M R S f)) (U:h.Ns v p) (s:p "__str__"=none) (T:Hm h "__str__" i c) (z:mroOf (.type B)=pure i) (H:c.contains (.type "BaseException")=true)
 (V:h.get? e=some a) (W:a.cls=.ref C) (hd:a.data=.fields j) (Y:j[0]? =some (.ref t0)) (ht:h.get? t0=some (JI #[.str m l] n)) (hq:Q (.str m l) ⟨h,g,d,t,os⟩):
 wpAny (model u w) A (Builtin.Str.strOf (.ref e)) Q E ⟨h,g,d,t,os⟩:=by
 have N:=k.str.lookup;unfold Builtin.Str.strOf
 repeat (first |with_reducible refine wpAny_cRoomFor Z ?_ |(with_reducible refine HP V ?_;rw[W]) |with_reducible refine RC o U s T z N ?_ |wp_step)
 refine AA (k.str.bind _) ?_;refine Aa (B7 (Ct k.str.plain F.entry_bexc_str ?_));have O:(Value.ref C::c).contains (.type "BaseException")=true:=by rw[List.contains_cons,H,Bool.or_true]
 have hk:builtinKind "BaseException.__str__"=some .slot:={_}
 have hs:splitId "BaseException.__str__"=some ("BaseException","__str__"):={_}
 simp only[checkBuiltinCall,hk,hs]
 repeat (first |(with_reducible refine HP V ?_;rw[W]) |with_reducible refine HP o ?_ |(with_reducible refine wpAny_isSubtype_exc o ?_;rw[O]) |wp_step)
 rw[hd];refine Af ?_;rw[Y];refine Af (Aa (wpAny_seqItems ht rfl ?_));refine Af ?_
 repeat wp_step
 exact hq
theorem YA {sub:List Value}(M:A.units+2<cLine)(S:ExcStrFacts B c)
 (U:s.heap.get? C=some (excClassObj nm q C r u j l v sub x t y D G I J L d)) (Y:s.heap.Ns r i) (o:i "__str__"=none) (T:Hm s.heap "__str__" f j) (z:mroOf (.type B)=pure f) (H:j.contains (.type "BaseException")=true)
 (he:s.heap.get? e=some a) (hc:a.cls=.ref C) (hd:a.data=.fields g) (h0:g[0]? =some (.ref t0)) (ht:s.heap.get? t0=some (JI #[.str m b] n)) (hq:Q (.str m b) s):
 wpAny (model p w) A (call (.type "str") [.ref e]) Q E s:=
 callType_new F.called_str {_} (F.typeCall_str_1 _) (F.newCall_str_1 _) (λ N=>F.args_object_init_2 N _) F.entry_str_new
  (meets_str_new (S:=λ O R k=>O.units+1<cLine/\k.heap=s.heap/\R (.ok (.ret (.str m b))) k)
   λ _ _ O _ k V=>by
    obtain⟨h',g',d',t',a0⟩:=k;obtain⟨W,h,Z⟩:=V;simp only at h;subst h;exact UV (A:=O.in1) W S U Y o T z H he hc hd h0 ht Z)
  ⟨(show A.units+1+1<cLine from M),rfl,IT _ _ _,hq⟩
end
section
variable {C:Addr}
theorem Rw {os:OsState}{sub:List Value}{e:Addr}{m:Obj}{b:Bool}{n:Bool->Shared->Prop}(z:h.get? C=some (excClassObj nm q C J L v p R sub S x T U Y k2 k3 k5 j))(o:h.get? c=some (excClassObj y q' c N' B a l D r G u I j0 j1 j2 j3 j5 i))
 (H:h.get? e=some m) (s:m.cls=.ref C) (k:a.contains (.type "BaseException")=true) (N:(Value.ref C::v).contains (.ref c)=b) (O:n b ⟨h,g,d,t,os⟩):
 wpAny M A (excMatches (.ref e) (.ref c)) n E ⟨h,g,d,t,os⟩:=by
 have w:(Value.ref c::a).contains (.type "BaseException")=true:=by rw[List.contains_cons,k,Bool.or_true]
 have f:=tc_notTuple;unfold excMatches
 repeat (first |(with_reducible refine HP H ?_;rw[s]) |with_reducible refine HP o ?_ |(with_reducible refine wpAny_isSubtype_exc o ?_;rw[w]) |(with_reducible refine wpAny_isSubtype_exc z ?_;rw[N]) |wp_step)
 cases b<;>(wp_walk;exact O)
end
section
theorem It.again (O:a≠.none/\a≠.type "code")(St:AQ W s.heap l)(F:It W c s.heap e a v)
 (z:∀h,It W c h e a v->AQ W h l->A8 W c h->b () #[s,h]):wpAny M A (setFlight (.ref e) none) b E s:=by
 obtain⟨H,Q,t,n,hd,V,C,Z⟩:=id F;cases hd with
 |some T=>exact It.land O St H Q (Z T rfl) V C λ h N o=>z h N o N.1
 |none=>
  obtain⟨f,g,w,i,k,j,d⟩:=C;unfold setFlight;refine Aa (B5 w k d ?_);rw[Ak {_}];exact Af (z s.heap F St H)
def Gn (k:Heap)(e:Addr)(s v:Value):Prop:=∃h o t n,k.get? e=some h/\h.cls=s/\h.data=.fields o/\o[0]? =some (.ref t)/\k.get? t=some (JI #[v] n)
theorem It.is (F:It W b h e a v):Gn h e a v:=by
 obtain⟨H,E,t,n,hd,s,⟨w,z,o,A,k,C,_⟩,N⟩:=F;exact⟨w,z,t,n,o,A,k,C,s⟩
theorem Gn.bf (x:Gn h e a v)(F:FI W V z Z X h O)(S:Kg W (Ck V z) h H):Gn H e a v:=by
 obtain⟨Q,j,t,n,C,l,k,p,r⟩:=x;have A:∀b o,h.get? b=some o->(∀d f,o.data≠.dict d f)->(∀g,o.data≠.cell g)->H.get? b=some o:=λ b o E u y=>S.keep b o (λ q=>by
  rcases q with rfl |⟨x,B,N⟩
  ·obtain⟨m,⟨D,d,f,s,w,_⟩,_⟩:=F.ns;rw[E] at s;cases s;exact u _ _ w
  ·obtain⟨c,g,i,⟨D,s,w⟩,_⟩:=F.cell x (.inl B);rw[N] at i;cases i;rw[E] at s;cases s;exact y _ w) E
 exact⟨Q,j,t,n,A e Q C (λ _ _ q=>by rw[k] at q;cases q) (λ _ q=>by rw[k] at q;cases q),l,k,p,A t _ r (λ _ _ q=>by cases q) λ _ q=>by cases q⟩
theorem Gn.bb (x:Gn h e a v)(w:a≠.none/\a≠.type "frame")(z:A8 W h H):Gn H e a v:=by
 obtain⟨A,C,t,n,s,k,o,E,N⟩:=x;exact⟨A,C,t,n,z.keep s (by rw[k];exact w.2) (by rw[k];exact w.1),k,o,E,z.keep N (_) (_)⟩
theorem XS.putName (B:XB W V z N)(S:XS W V z N Z X s O)(g:AR V x=true)(H:Bg W Z X s.heap v sl)(o:∀d,sl=.own d->∀y e,O.lookup y=some (.own e)->y=x)
 (i:∀Q c,XS W V z N Z X #[s,Q,c] (AM O x sl)->Kg W (Ck V z) s.heap Q->s.toks<=c->a () #[s,Q,c]):wpAny W.M A (storeName z x v) a E s:=by
 refine FI.cq S.F (sl:=sl) (DJ g).2 (DJ g).1 H o λ w k C St h=>?_;refine i w k ⟨C.ap λ y j q=>?_,St.ik N (λ b f=>B.wr b f) S.le,Ab S.tk h,S.fr,S.fc.bi St.cls⟩ St h;rw[Aw] at q;by_cases e:y=x
 ·subst e;rw[Ap rfl] at q;rw[An];exact q
 ·rw[Ak e] at q;rw[Aj e];exact q
end
theorem YB {Cl:Addr}(V:D8 W mg x Cl b)(R:A8 W W.h0 s.heap)(Z:A.units+2<cLine)(I:Gn s.heap e (.ref Cl) (.str m a))(c:Q (.str m a) s):
 wpAny W.M A (call (.type "str") [.ref e]) Q E s:=by
 obtain⟨nm,q,N,B,H,D,sub,G,d,J,L,M,S,T,U,Y,o,k,f,mN,g,O,i,j,l,p,w,z,r⟩:=V.cls;obtain⟨oe,vs,t,n,C,u,h,v,y⟩:=I;exact YA Z r (R.keep i (by simp[excClassObj]) (by simp[excClassObj])) (B2 R j) w (SE R z) O.mroIs (p.hasType O.hasBase) C u h v y c
theorem Vd {Cl:Addr}(B:D8 W mg x Cl j)(w:D8 W mg i a c)(R:A8 W W.h0 s.heap)(I:Gn s.heap e (.ref Cl) v)(D:(Value.ref Cl::j).contains (.ref a)=b)(G:f b s):
 wpAny W.M A (excMatches (.ref e) (.ref a)) f E s:=by
 obtain⟨nm,q,N,bs,Z,sn,sub,ab,J,dd,k0,k1,k2,k3,k5,Bn,z,k,L,mN,M,Fx,S,hN,T,hT,_⟩:=B.cls;obtain⟨U,q',N',Y,C,a0,l,a1,m,a2,j0,j1,j2,j3,j5,a3,o,h,p,a4,r,H,O,a5,u,Q,_⟩:=w.cls;obtain⟨oe,vs,t,n,V,hc,y,h0,ht⟩:=I;obtain⟨hh,g,d,tk,os⟩:=s;exact Rw (R.keep S (by simp[excClassObj]) (by simp[excClassObj])) (R.keep O (by simp[excClassObj]) (by simp[excClassObj])) V hc (Q.hasType H.hasBase) D G
theorem H8 {Cl:Addr}(Gk:Dh W C k mg mb)(B:XB W V z N)(xo:D8 W mg x Cl y)(M:D8 W mg m j p)(a3:(Value.ref Cl::y).contains (.ref j)=b)
 (S:XS W V z N Z X #[s,r,tk0] O) (l0:tk0<=s.toks) (F:It W r s.heap e (.ref Cl) v) (St:AQ W s.heap l) (hg:Bz V m=true) (hn:AR V n=true)
 (a4:b=true->∀R tk,XS W V z N Z X #[s,R,tk] (AM O n (.al (.ref e)))->BY V z Z X r R->Gn R e (.ref Cl) v->AQ W R l->s.toks<=tk->
  wpAny W.M (A.mark (some (.ref e))) (execs (g::c) z) (λ f w=>wpAny W.M A (do bindName z n .none;unbindBehindTheSuite z n u) (λ _ T=>t f T) E w) (λ _ _=>False) #[s,R,tk])
 (a5:b=false->wpAny W.M A (handleBy (.ref e) z i) t E s):
 wpAny W.M A (handleBy (.ref e) z (.ExceptHandler (some (.Name m D)) (some n) (g::c) u::i)) t E s:=by
 have H:XS W V z N Z X s O:=S.ac F.1 l0;have Q:=H.gd B;refine wpAny_handleBy_cons (codeAny_handlers_test (BM Gk H.F Q hg (.inl M.br) ?_)) (by intro q;cases q);refine Vd xo M Q.am F.is a3 ?_;cases b with
 |false=>exact a5 rfl
 |true=>
  refine codeAny_handlers_suite_as (F.again (_) St λ U Y J G=>?_);have o:XS W V z N Z X #[s,U] O:=S.ac (tk:=s.toks) G l0;refine o.putName B hn (sl:=.al (.ref e)) rfl (λ d q=>nomatch q) λ I L a0 h a1=>?_;have kd:BY V z Z X r I:=(A8.af G).trans (h.af λ a ha=>o.F.bo ha);exact BP (a4 rfl I L a0 kd (Y.is.bf o.F h) (J.bi h.cls) a1) (λ f w a2=>a2) λ _ _ f=>f.elim
theorem PL (O:b≠.none/\b≠.type "code")(H:A.frames=some (z::a))(St:AQ W s.heap (z::a))(F:It W d s.heap e b v)
 (Q:∀N,It W d N e b v->AQ W N (z::a)->c () #[s,N]):wpAny W.M A (noteFrame (.ref e) z) (λ _ k=>wpAny W.M A (setFlight (.ref e) none) c E k) f s:=
 F.fs O H St λ o t n T w V h Z C=>It.land (s:=#[s,o]) O h w F.2.1 V Z C Q
theorem FI.al (F:FI W V z Z X s.heap O)(k:O.lookup x=some (.al v))(o:Q v s):wpAny W.M A (eval (.Name x a) z) Q E s:=by
 obtain⟨u,h,w⟩:=F.at k;have:u=v:=w;subst this;exact F.bp k h o
theorem QW (F:FI W V z Z X s.heap O)(u:O.lookup x=some (.al v))(y:Bk b=true)(B:Bk a=true)(D:BR W A (eval b z) s λ v C=>Rp W X C v e)
 (G:∀k h,A8 W s.heap k->s.toks<=h->BR W A (eval a z) #[s,k,h] λ v C=>Rp W X C v d)
 (I:∀C r t n v2 v3,A8 W s.heap C->s.toks<=r->s.heap.get? t=none->C.get? t=some (JI [v,v2,v3].toArray n)->Rp W X C v2 e->Rp W X C v3 d->Q (.ref t) #[s,C,r]):
 wpAny W.M A (eval (.Tuple [.Name x f,b,a] g c) z) Q E s:=by
 rw[Lx,AN c z [.Name x f,b,a] (by rw[Dd,Dd,Dd,y,B];rfl)];refine Aa (AI (Aa ?_));refine Av (F.al u ?_);refine Av (D _ _ λ v2 k h H N J=>?_);refine Av (G k h H N _ _ λ v3 w j i l L=>?_);refine AV ?_;have m:A8 W s.heap w:=H.trans i;have M:s.heap.get? w.objs.size=none:=by
  cases q:s.heap.get? w.objs.size with
  |none=>rfl
  |some o=>obtain⟨R,p⟩:=AP m ⟨o,q⟩;rw[Bl] at p;cases p
 refine Bj (I _ j w.objs.size 0 v2 v3 (m.trans (.push _ _)) (Ab N l) M (Ar _ rfl) ((J.ac i).ac (.push _ _)) (L.ac (.push _ _))) (by show 3<=sizeLine;simp[sizeLine])
theorem Jr (F:FI W V z Z X s.heap O)(h:O.lookup x=some (.aa d)):BR W A (eval (.Name x a) z) s (λ v k=>Rp W X k v d):=
 λ Q E o=>F.name h λ v r=>o v s.heap s.toks (.refl _) (Am _) r
theorem Si (F:FI W V z Z X s.heap O)(t:O.lookup x=some (.aa (.list a)))(y:Bk e=true)(B:BR W A (eval e z) s λ v p=>Rp W X p v d)(D:a.length+1<=Bi):
 BR W A (eval (.BinOp (.Name x f) .Add (.List [e] b) c) z) s (λ v p=>Rp W X p v (.list (a++[d]))):=λ Q E G=>by
 refine MH (F.name t λ v I=>?_);rw[Ol,AN b z [e] (by simp[y])];refine Aa (AI (Aa (Av (B _ _ λ u N o h g J=>AV ?_))));refine BR.newList (s:=#[s,N,o]) (F.ac h).ah (RpL.bt J) (by simp[Bi]) _ _ λ w i C k j q=>?_;have L:EY .Add (.list a) (.list [d])=some (.list (a++[d])):=by simp[EY,D]
 exact Ke (s:=#[s,i,C]) ((F.ac h).ac k).ah ((Rp.ac h I).ac k) q L _ _ λ v3 l H m n r=>G v3 l H ((h.trans k).trans m) (Ab g (Ab j n)) r
theorem KQ {Cl:Addr}(h:Dh W C k mg mb)(F:FI W V z Z X s.heap O)(G:Gd W s)(o:O.lookup n=some (.al (.ref e)))(w:Bz V "str"=true)(H:D8 W mg x Cl d)(N:A.units+2<cLine)
 (I:Gn s.heap e (.ref Cl) (.str m b)) (g:Q (.str m b) s):wpAny W.M A (eval (.Call (.Name "str" f) [.Name n a] [] c) z) Q E s:=by
 refine BG (BM h F G w (.inr (h.bx .str)) ?_);rw[AN c z [.Name n a] rfl];refine Jj rfl (A1 (Av (F.al o (AV ?_))));exact YB H G.am N I g
variable {b:PV} in
def Bp (p:Program)(i:Nat):List Stmt:=match p.main.body[i]? with
 |some (.FunctionDef _ _ b _ _ _ _ _ _ _)=>b
 |_=>[]
theorem XS.ft (h:XB W V z s.heap)(S:XS W V z s.heap Z X #[s,c,b] O)(w:∀o A,s.heap.get? B=some o->o.data≠.fields A)(C:W.h0.get? B=none):
 XB W V z (E3 s.heap B)/\XS W V z (E3 s.heap B) Z X #[s,c,b] O:=
 ⟨⟨Pc h.am C w,KC h.ea w,λ a k=>J5 (h.wr a k)⟩,⟨S.F,Qb.trans S.le,S.tk,λ a k E=>J5 (S.fr a k E),S.fc⟩⟩
def Rz {a:Type}(k:BH)(z:Around)(t:Sem a)(h:Shared)(A:List Env)(Cl:Addr)(o:Str):Prop:=
 ∀(Q:a->Shared->Prop)(E:JD),(∀s w e t,h.toks<=w->PyData.strOk o=true->o.length<=Bi->It k h.heap s e (.ref Cl) (.str o t)->AQ k s A->E (.ref e) #[h,s,w])->wpAny k.M z t Q E h
section
variable {w:Str}
theorem Rz.ba {Cl:Addr}{c:Type}{t:Sem c}(h:A8 W s.heap b)(k:s.toks<=a)(R:Rz W A t #[s,b,a] f Cl w){d:c->Shared->Prop}
 (C:∀o z e t,s.toks<=z->PyData.strOk w=true->w.length<=Bi->It W s.heap o e (.ref Cl) (.str w t)->AQ W o f->E (.ref e) #[s,o,z]):wpAny W.M A t d E #[s,b,a]:=
 R d E λ o z e t l H N F St=>C o z e t (Ab k l) H N (F.ew h) St
theorem Up {Cl:Addr}(r:Dh W C k mg mb)(t:JE W A p)(F:FI W V z Z X s.heap O)(G:Gd W s)(u:Bz V f=true)(j:CZ p V O args=some b)(v:mg f=some (.ref a))(x:W.h0.get? a=some o)(hd:o.data=.func fd)(m:o.cls≠.type "frame")(n:o.cls≠.none)
 (i:∀H h l,A8 W s.heap H->s.toks<=h->RpL W X H l b->Rz W A (call (.ref a) l) #[s,H,h] c Cl w):Rz W A (eval (.Call (.Name f e) args [] d) z) s c Cl w:=λ Q E y=>by
 refine BG (BM r F G u (.inl v) ?_);rw[AN d z args (Dt args b j)];refine Cm (o:=o) (fd:=fd) (Gx args (Ej t args b s j F G _ _ λ l H h N g q=>⟨⟨(G.am.trans N).keep x m n,hd⟩,?_⟩));exact(i H h l N g q).ba N g y
theorem YZ {Cl:Addr}(h:Bk e=true)(k:Rz W A (eval e z) s b Cl w):Rz W A (eval (.List [e] a) z) s b Cl w:=λ Q E o=>by
 rw[Ol,AN a z [e] (by simp[h])];exact Aa (AI (Aa (Av (k _ _ o))))
theorem dN {Cl:Addr}(F:FI W V z Z X s.heap O)(h:O.lookup x=some (.aa d))(k:Rz W A (eval e z) s c Cl w):Rz W A (eval (.BinOp (.Name x f) b e a) z) s c Cl w:=λ Q E o=>
 MH (F.name h λ v C=>k _ _ o)
theorem aW {Cl:Addr}(F:FI W V z Z X s.heap O)(h:O.lookup x=some (.al v))(k:Bk b=true)(o:Bk a=true)(C:Rz W A (eval b z) s d Cl w):Rz W A (eval (.Tuple [.Name x e,b,a] f c) z) s d Cl w:=λ Q E H=>by
 rw[Lx,AN c z [.Name x e,b,a] (by rw[Dd,Dd,Dd,k,o];rfl)];exact Aa (AI (Aa (Av (F.al h (Av (C _ _ H))))))
theorem bM {Cl:Addr}(h:Rz W A (eval e z) s a Cl w):Rz W A (exec (.Return (some e) b) z) s a Cl w:=λ Q E k=>CW (h _ _ k)
theorem NK {Cl:Addr}{st:Stmt}(h:Rz W A (exec st z) s a Cl w):Rz W A (execs (st::r) z) s a Cl w:=λ Q E k=>Al (h _ _ k)
end
structure HS (W:BH)(sc:Scope)(env:Env)(hb:Heap)(Z X:List Addr)(D:Addr)(es:List (Str×PV))(l:List Env)(s:Shared)(ρ:AC):Prop where
 S:XS W sc env hb Z X s ρ
 dD:BX W X s.heap D (.dict es)
 St:AQ W s.heap l
 zD:D∈Z
 fD:D∉Ay env
 bD:hb.get? D=none
theorem HS.ac (h:HS W V z N Z X D a l s O)(K:A8 W s.heap H)(k:s.toks<=tk):HS W V z N Z X D a l #[s,H,tk] O:=⟨h.S.ac K k,h.dD.ac K,h.St.bb K,h.zD,h.fD,h.bD⟩
theorem HS.dw (h:HS W V z N Z X D a l s O):¬Ck V z D:=λ q=>h.fD (by
 rcases q with q |⟨x,_,q⟩
 ·exact q▸Ac
 ·exact Bq q)
theorem HS.bf (h:HS W V z N Z X D c l s O)(k:XS W V z N Z X #[s,H,d] b)(K:Kg W (Ck V z) s.heap H):HS W V z N Z X D c l #[s,H,d] b:=
 ⟨k,h.dD.bf K (λ a o=>h.S.F.bo o) h.dw,h.St.bi K.cls,h.zD,h.fD,h.bD⟩
theorem S4 (G:A.handled=none)(B:XB W V z N)(Q:HS W V z N Z X D p l s O)(I:O.lookup y=some (.al (.ref T)))(J:s.heap.get? T=some (JI [b,v1,v2].toArray n))(L:Rp W X s.heap v1 d1)(M:Rp W X s.heap v2 d2)
 (H:(AR V a&&AR V c&&AR V e)=true)
 (R:∀x v,HS W V z N Z X D p l #[s,x,v] (AM (AM (AM O a (.al b)) c (.aa d1)) e (.aa d2))->s.toks<=v->g .next #[s,x,v]):
 wpAny W.M A (exec (.Assign [.Tuple [.Name a i,.Name c j,.Name e m] r f] (.Name y u) t) z) g E s:=by
 rw[Ah,Ah] at H;refine Bf (t:=.Tuple [.Name a i,.Name c j,.Name e m] r f) rfl rfl rfl (Q.S.F.al I ?_);refine XS.fp (xs:=[(a,i),(c,j),(e,m)]) (vs:=[b,v1,v2]) (sls:=[.al b,.aa d1,.aa d2]) G B Q.S J (by simp[H.1.1,H.1.2,H.2]) rfl ⟨rfl,(λ d q=>nomatch q),L,(λ d q=>nomatch q),M,(λ d q=>nomatch q),trivial⟩ rfl λ o h w k C=>?_;exact R o h (Q.bf w k) C
theorem V8:typeOf (.type "object")=pure (.type "type"):=⋯
theorem Kp:typeOf (.type "type")=pure (.type "type"):=⋯
theorem T6:isType (.type "object")=pure true:=⋯
theorem RJ:isType (.type "type")=pure true:=⋯
theorem SF:isSubtype (.type "type") (.type "type")=pure true:=⋯
theorem YL:opaqueClassAbove (.type "type")=pure none:=⋯
theorem cA:Frag.In [] h:=λ _ _ e=>nomatch e
theorem U4:findCls [] (.type "type") (.type "type") "__prepare__"=some (.get (.builtin "classmethod_descriptor.__get__") (.builtin "type.__prepare__") .none (.type "type")):=⋯
theorem I0:PySem.Slot "classmethod_descriptor" "__get__" "classmethod_descriptor.__get__":=
 PySem.Slot.of (owner:="classmethod_descriptor") (n:="__get__") (by rw[Bx,AY];kernel_rfl) {_} {_} {_}
  (by first |exact .inl {_} |exact .inr {_}) (by rw[Ls];kernel_rfl)
theorem Pw:entryFor table "classmethod_descriptor.__get__"=some Builtin.«classmethod_descriptor.__get__»:=Jd ⋯
theorem Sl (a b c:Value):argsOk "classmethod_descriptor.__get__" ⟨[a,b,c],[]⟩:=by unfold argsOk;kernel_rfl
theorem NO:entryFor table "type.__prepare__"=some Builtin.«type.__prepare__»:=Jd ⋯
theorem Tz:typeOf (.builtin "type.__prepare__")=pure (.type "classmethod_descriptor"):=by show builtinType _=_;rw[builtinType_eq_fast];kernel_rfl
abbrev DO:Obj:={cls:=.type "builtin_function_or_method",data:=.fields #[.builtin "type.__prepare__",.type "type"]}
theorem Zx {g:Array GenState}{os:OsState}{a:Program}{d:Drawn}{t:Nat}(k:Q (.ref h.objs.size) ⟨h.push DO,g,d,t,os⟩):wpAny (model a w) A (call (.builtin "classmethod_descriptor.__get__") [.builtin "type.__prepare__",.none,.type "type"]) Q E ⟨h,g,d,t,os⟩:=by
 refine B7 (Ct I0.plain Pw (I0.check _ _ _ _ _ _ _ _ (by
  first |exact Tz |(show _=_;exact Tz)) (Sl _ _ _) ?_))
 unfold Builtin.«classmethod_descriptor.__get__»
 repeat lk
 exact k
theorem WG {g:Array GenState}{os:OsState}{b:Program}{d:Drawn}{t:Nat}{a:Option Value->Shared->Prop}(o:a (some (.ref h.objs.size)) ⟨h.push DO,g,d,t+1,os⟩):wpAny (model b w) A (getAttr? (.type "type") "__prepare__") a E ⟨h,g,d,t,os⟩:=by
 unfold getAttr?;refine Aa (HO ?_);unfold getAttrBy? getAttrBy;refine Aa (Jm (AF ?_));have k:=KF.slot_tga.lookup;refine Aa (AA Kp (Aa (AA k ?_)));dsimp only;rw[Ak (by simp[onTheHeap])];unfold getAttrByItsOwn;refine Aa (AA (show hookBefore (.type "type")=pure none from rfl) ?_);refine Aa (Jm (AF ?_));unfold callGetattribute;rw[Ak (by simp[onTheHeap])];unfold boundAndCalled;rw[KF.slot_tga.bind];refine Aa (Af ?_);show wpAny _ _ (call (.builtin "type.__getattribute__") [.type "type",.str "__prepare__" _]) _ _ _;refine B7 (Ct KF.slot_tga.plain KF.entry_tga (KF.slot_tga.check _ _ _ _ _ _ _ _ Kp (KF.args_tga _ _) ?_));refine tga_run (s:=⟨h,g,d,t+1,os⟩) (K:=[]) (name:="__prepare__") cA (A4 YL) (A4 Kp) U4 ?_;unfold CFound.run;refine Aa (AF (Zx (Af ?_)));exact Af (Af o)
theorem dX {a:Addr}{g:Array GenState}{os:OsState}{b:Program}{d:Drawn}{t:Nat}{x y:Value}(o:h.get? a=some DO)(k:Q (.ref h.objs.size) ⟨h.push emptyDict,g,d,t,os⟩):wpAny (model b w) A (call (.ref a) [x,y]) Q E ⟨h,g,d,t,os⟩:=by
 refine B7 (Kb ?_);show wpAny _ _ (callAny (.ref a) _) _ _ _;unfold callAny
 repeat (first |with_reducible refine B7 ?_ |with_reducible refine wpAny_runValue ?_ |with_reducible refine wpAny_run ?_ |lk)
 refine⟨D4 _ {_},Fu NO ?_⟩;unfold Builtin.«type.__prepare__»
 repeat lk
 exact k
structure BW (h:Heap)(c P:Addr)(ps:Array Value):Prop where
 hd:CodeHd h c P
 bh:h.get? P=some (tabObj ps)
 ok:TriplesOk ps.toList
theorem BW.keeps (T:BW h c P a)(k:∀b o,h.get? b=some o->H.get? b=some o):BW H c P a:=⟨T.hd.keeps k,k _ _ T.bh,T.ok⟩
theorem BW.ne (T:BW h c P a):c≠P:=by
 obtain⟨o,C,w,E,k,H,A,z,N,O,Q,V,W,Z,b,d,e,f,s⟩:=T.hd;exact s
theorem BW.extBut (T:BW h c P b)(A:Heap.ExtBut a h H)(C:c≠a)(E:P≠a):BW H c P b:=by
 obtain⟨o,N,s,O,k,Q,z,w,V,W,r⟩:=T.hd;exact⟨⟨o,N,s,O,k,Q,z,w,V,A _ _ C W,r⟩,A _ _ E T.bh,T.ok⟩
theorem BW.more (T:BW h c P d)(C:Heap.ExtBut P h H)(hP:H.get? P=some (tabObj (d++ #[rawInt a,rawInt b,v]))):BW H c P (d++ #[rawInt a,rawInt b,v]):=by
 have z:=T.ne;obtain⟨o,E,s,N,k,O,A,w,Q,V,r⟩:=T.hd;refine⟨⟨o,E,s,N,k,O,A,w,Q,C _ _ z V,r⟩,hP,?_⟩;have:(d++ #[rawInt a,rawInt b,v]).toList=d.toList++[rawInt a,rawInt b,v]:=(_)
 rw[this];exact TriplesOk_snoc _ _ _ _ T.ok
section
theorem N3 (j:z.code=.ref c)(T:BW s.heap c P d)
 (m:∀S(s:Shared)(Q:JD)(E:JD),(∀h H w t,(∀b o,s.heap.get? b=some o->w.get? b=some o)->s.heap.objs.size<=h->s.heap.objs.size<=H->w.IsCode h H #[]->w.TableAt h H #[]->w.CodeRec (.ref h) qual->Q (.ref h) #[s,w,t])->wpAny M A (f S) Q E s)
 (u:∀R,codeAmong a d.toList=some R->Q R s)
 (n:codeAmong a d.toList=none->∀h H w t,Heap.ExtBut P s.heap w->s.heap.objs.size<=h->s.heap.objs.size<=H->h<w.objs.size->H<w.objs.size->BW w c P (d++ #[rawInt a.line,rawInt a.col,.ref h])->BW w h H #[]->w.CodeRec (.ref h) qual->s.toks<=t->Q (.ref h) #[s,w,t]):
 wpAny M A (codeAt z a f) Q E s:=by
 obtain⟨o,C,a3,tf,U,tg,a6,a4,tt,op,ho,hd,Y,h2,h7,h9,a0,N,p,a1,a7⟩:=T.hd.code T.bh T.ok;unfold codeAt;rw[j,Ak (show ¬((Value.ref c==Value.none)=true) from Bool.false_ne_true)];refine Aa (wpAny_fieldsOf ho hd ?_);rw[Y];refine Aa (wpAny_fieldsOf N p ?_);cases O:codeAmong a d.toList with
 |some R=>exact Af (u R O)
 |none=>
 rw[h2,h7,h9,a0];refine Bw (n:=s.toks) (Am _) (Aa (m _ _ _ _ λ h H w t hk v x k V q=>?_));have Z:=hk _ _ N;refine Aa (wpAny_updateFieldsOfTheText Z p ?_);have g:(Obj.mapFields (λ C=>if(codeAmong a C.toList).isSome=true then C else C++ #[rawInt a.line,rawInt a.col,.ref h]) op).data=
  .fields (d++ #[rawInt a.line,rawInt a.col,.ref h]):=by
  rw[Dl p,O];rfl
 have i:=Bc (h:=w) (λ o=>Obj.mapFields (λ C=>if(codeAmong a C.toList).isSome=true then C else
  C++ #[rawInt a.line,rawInt a.col,.ref h]) o) Z (Dj g)
 refine Aa (wpAny_fieldsOf i g ?_);have hl:(d++ #[rawInt a.line,rawInt a.col,Value.ref h]).toList=d.toList++[rawInt a.line,rawInt a.col,.ref h]:=(_)
 rw[hl,codeAmong_snoc _ a1 O];have y:h≠P:=Cy (C3 (AO N) v);have a2:H≠P:=Cy (C3 (AO N) x);have W:=(BA w P λ o=>Obj.mapFields (λ C=>if(codeAmong a C.toList).isSome=true then C else C++ #[rawInt a.line,rawInt a.col,Value.ref h]) o).extBut;refine Af λ l=>n O h H _ _ (λ b B hb e=>W b B hb (hk b B e)) v x (by rw[QM];exact k.lt.1) (by rw[QM];exact k.lt.2) ?_ ?_ ?_ l
 ·refine T.more (λ b B hb e=>W b B hb (hk b B e)) ?_;have e1:op=tabObj d:=BC (N.symm.trans T.bh);rw[i,e1];simp only[Obj.mapFields,O];rfl
 ·have T':BW w h H #[]:=⟨CodeHd.of k V,V.2,trivial⟩;exact T'.extBut W y a2
 ·obtain⟨a5,D,r,G,I,J,L⟩:=q;cases I;exact⟨_,D,r,G,rfl,W _ _ y J,L⟩
theorem Jg:∀(l m:List Value),TriplesOk l->codeAmong d l=some c->codeAmong d (l++m)=some c:=by
 intro l m
 fun_induction TriplesOk l with
 |case1=>intro _ h;simp[codeAmong] at h
 |case2 a w b z v o s=>
  intro k h;simp only[FR,codeAmong] at h ⊢;split at h
  ·rename_i q;rw[Ap q];exact h
  ·rename_i q;rw[Ak q];exact s k h
 |case3=>intro k;exact k.elim
abbrev Tm (name h:Str)(params:Arguments)(k:List Stmt)(scope:Scope)(o:List (Str×Addr))(s w z:Value):FuncData:=
 {name,qualname:=h,params,body:=.stmts k,scope,globals:=mainGlobals,closure:=o,defaults:=.none,kwdefaults:=.none,pyModule:=s,code:=w,closureTuple:=z,builtins:=builtinsNs}
abbrev Zw (name o:Str)(h:Arguments)(s:List Stmt)(k:Scope)(w:List (Str×Addr))(z A C:Value):Obj:=
 {cls:=.type "function",data:=.func (Tm name o h s k w z A C)}
abbrev Qh (name h:Str)(params:Arguments)(k:Expr)(scope:Scope)(o:List (Str×Addr))(s w z:Value):FuncData:=
 {name,qualname:=h,params,body:=.expr k,scope,globals:=mainGlobals,closure:=o,defaults:=.none,kwdefaults:=.none,pyModule:=s,code:=w,closureTuple:=z,builtins:=builtinsNs}
def Bd (k:Heap)(s:Value)(q:Str):Prop:=∃c o h t,s=.ref c/\k.get? c=some o/\o.cls=.type "code"/\o.data=.fields h/\h[1]? =some (.str q t)
theorem Bd.dm (x:Bd h f q):h.CodeRec f q:=let⟨c,o,k,t,a,b,_,d,e⟩:=x;⟨c,o,k,t,a,b,d,e⟩
theorem Bd.bh (x:Bd h f q)(s:∀b o,h.get? b=some o->o.cls=.type "code"->H.get? b=some o):Bd H f q:=let⟨c,o,w,t,a,b,k,d,e⟩:=x;⟨c,o,w,t,a,s _ _ b k,k,d,e⟩
theorem Bd.of (x:h.CodeRec (.ref c) q)(T:BW h c P a):Bd h (.ref c) q:=by
 obtain⟨Q,o,C,t,e,s,hd,E⟩:=x;cases e;obtain⟨V,H,w,W,k,Z,N,z,b,A,O,r⟩:=T.hd;rw[s] at A;cases A;exact⟨c,o,C,t,rfl,s,O,hd,E⟩
structure dS (h h':Heap)(P c:Addr)(ps ps':Array Value)(pos:Pos)(qual:Str)(f:Addr)(o:Obj)(cv:Value):Prop where
 ext:Heap.ExtBut P h h'
 new:h.get? f=none
 bh:h'.get? f=some o
 ff:BW h' c P ps'
 hit:codeAmong pos ps'.toList=some cv
 dm:Bd h' cv qual
 more:∀pos' cv',codeAmong pos' ps.toList=some cv'->codeAmong pos' ps'.toList=some cv'
 only:∀pos' cv',codeAmong pos' ps'.toList=some cv'->codeAmong pos' ps.toList=some cv'\/(cv'=cv/\codeAmong pos ps.toList=none/\pos'.line=pos.line/\pos'.col=pos.col)
 same:(codeAmong pos ps.toList).isSome=true->ps'=ps
 pre:∃more,ps'=ps++more
theorem GP {e:Pos}:∀(l:List Value),TriplesOk l->codeAmong d (l++[rawInt e.line,rawInt e.col,c])=some f->codeAmong d l=some f\/(f=c/\d.line=e.line/\d.col=e.col):=by
 intro l
 fun_induction TriplesOk l with
 |case1=>
  intro _ h;simp only[DX,codeAmong,rawInt] at h;split at h
  ·rename_i q;simp only[Ah,JB] at q;cases h;exact .inr ⟨rfl,by have:=q.1;omega,by have:=q.2;omega⟩
  ·cases h
 |case2 a w b z v o s=>
  intro k h;simp only[FR,codeAmong] at h ⊢;split at h
  ·rename_i q;rw[Ap q];exact .inl h
  ·rename_i q;rw[Ak q];exact s k h
 |case3=>intro k;exact k.elim
theorem V3 {c:List (Str×Addr)}(k:∀w h,(∀b o,s.heap.get? b=some o->h.get? b=some o)->s.heap.objs.size<=h.objs.size->Q w #[s,h]):
 wpAny M A (if c.isEmpty then pure .none else newTextTuple ((c.mergeSort λ a b=>a.1.cps.toList<=b.1.cps.toList).map (.ref ·.2))) Q E s:=by
 cases c with
 |nil=>
  simp only[FP,A0];exact Af (k .none s.heap (λ _ _ e=>e) (Am _))
 |cons q r=>
  simp only[Kj,Aq,AS];exact wpAny_newTextTuple (k _ _ (λ b o e=>Ai _ e) (by rw[Bh];omega))
theorem No
 (a3:closureFor scope z=pure clos) (a4:z.globals=mainGlobals) (hg:s.heap.Ns mainGlobals mg) (D:z.code=.ref c) (T:BW s.heap c P m) (a5:mainGlobals≠P) (L:s.heap.BuiltinsAt mg P) (u:∀b,body=.stmts b->docOf b=none)
 (a6:∀Z,codeAmong j m.toList=some Z->Bd s.heap Z i)
 (b5:∀f Z p W v H,dS s.heap W P c m H j i f {cls:=.type "function",data:=.func {name,qualname:=i,params,body,scope,globals:=mainGlobals,closure:=clos,defaults:=.none,kwdefaults:=.none,pyModule:=(mg "__name__").getD .none,code:=Z,closureTuple:=p,builtins:=builtinsNs}} Z->s.toks<=v->s.heap.objs.size<=f->
  Q (.ref f) #[s,W,v]):
 wpAny M A (makeFunction name i params body scope z [] [] [] j n) Q E s:=by
 rw[makeFunction_eq];simp only[List.zip_nil_right,List.filterMap_nil,FP,A0,pure_bind];obtain⟨bm,ob,a7,R,_,S,a8,U,G,I⟩:=L;have y:∀(p:Value)(h:Heap)(w:Nat),(∀b o,s.heap.get? b=some o->h.get? b=some o)->s.heap.objs.size<=h.objs.size->s.toks<=w->
  wpAny M A (do
   let Y <-functionCode z j n name i params scope body
   let J <-builtinsFor mainGlobals z.builtins
   let nm <-nsGet mainGlobals "__name__"
   newObj (.type "function") (.func {name,qualname:=i,params,body,scope,globals:=mainGlobals,closure:=clos,defaults:=.none,kwdefaults:=.none,annotations:=none,pyModule:=nm.getD .none,code:=Y,closureTuple:=p,builtins:=J,doc:=.none})) Q E #[s,h,w]:=λ p h w C O x=>by
  have B:=T.keeps C;have y:∀(Z:Value)(W:Heap)(v:Nat)(H:Array Value),Heap.ExtBut P h W->h.objs.size<=W.objs.size->BW W c P H->codeAmong j H.toList=some Z->Bd W Z i->(∀k V,codeAmong k m.toList=some V->codeAmong k H.toList=some V)->
   (∀k V,codeAmong k H.toList=some V->codeAmong k m.toList=some V\/(V=Z/\codeAmong j m.toList=none/\k.line=j.line/\k.col=j.col))->((codeAmong j m.toList).isSome=true->H=m)->(∃a0,H=m++a0)->s.toks<=v->
   wpAny M A (do
    let J <-builtinsFor mainGlobals z.builtins
    let nm <-nsGet mainGlobals "__name__"
    newObj (.type "function") (.func {name,qualname:=i,params,body,scope,globals:=mainGlobals,closure:=clos,defaults:=.none,kwdefaults:=.none,annotations:=none,pyModule:=nm.getD .none,code:=Z,closureTuple:=p,builtins:=J,doc:=.none})) Q E #[s,W,v]:=λ Z W v H hx hz T' a9 rc a1 only same b0 l=>by
   have a2:=(hg.keeps C).extBut hx a5;refine Aa (wpAny_builtinsFor a2 a7 R (hx _ _ S (C _ _ a8)) U G I (Aa (B4 a2 ?_)));have b1:Heap.ExtBut P s.heap W:=λ b o L e=>hx b o L (C b o e);have fr:s.heap.get? W.objs.size=none:=Fn (Ab O hz);exact Bj (b5 W.objs.size Z p _ v H ⟨λ b o L e=>Ai _ (b1 b o L e),fr,Ar _ rfl,T'.keeps λ b o e=>Ai _ e,a9,rc.bh λ b o e _=>Ai _ e,a1,only,same,b0⟩ l (Ab O hz)) (by size_fits)
  unfold functionCode;refine Aa (N3 (s:=#[s,h,w]) (qual:=i) D B (λ b6 s Q E hQ=>wpAny_newCodeX λ c' P' W v a b d e f g=>hQ c' P' W v a b d e f g) (λ Z hc=>?_) λ hn c' P' W v hx b2 b7 b3 b8 T' b4 rc l=>?_)
  ·exact y Z h w m (λ _ _ _ e=>e) (Am _) B hc ((a6 Z hc).bh λ b o e _=>C b o e) (λ _ _ e=>e) (λ _ _ e=>.inl e) (λ _=>rfl) ⟨#[],(_)⟩ x
  ·have hl:(m++ #[rawInt j.line,rawInt j.col,Value.ref c']).toList=m.toList++[rawInt j.line,rawInt j.col,.ref c']:=(_)
   refine y (.ref c') W v _ hx (Jl (C4 b2 b3)) T' ?_ (.of rc b4) (λ k V e=>?_) (λ k V e=>?_) (λ q=>by rw[hn] at q;cases q) ⟨_,rfl⟩ (Ab x l)
   ·rw[hl];exact codeAmong_snoc _ T.ok hn
   ·rw[hl];exact Jg _ _ T.ok e
   ·rw[hl] at e;exact(GP _ T.ok e).imp id λ q=>⟨q.1,hn,q.2⟩
 unfold makeTail;rw[a3,a4];refine Aa (Af ?_);have go:∀(p:Value)(h:Heap),(∀b o,s.heap.get? b=some o->h.get? b=some o)->s.heap.objs.size<=h.objs.size->wpAny M A (do
  let Y <-functionCode z j n name i params scope body
  let J <-builtinsFor mainGlobals z.builtins
  let nm <-nsGet mainGlobals "__name__"
  match body with
   | .stmts b=>
     match docOf b with
     |some s=>do
      let t <-mkText s
      newObj (.type "function") (.func {name,qualname:=i,params,body,scope,globals:=mainGlobals,closure:=clos,defaults:=.none,kwdefaults:=.none,annotations:=none,pyModule:=nm.getD .none,code:=Y,closureTuple:=p,builtins:=J,doc:=t})
     |none=>do
      let t <-pure .none
      newObj (.type "function") (.func {name,qualname:=i,params,body,scope,globals:=mainGlobals,closure:=clos,defaults:=.none,kwdefaults:=.none,annotations:=none,pyModule:=nm.getD .none,code:=Y,closureTuple:=p,builtins:=J,doc:=t})
   | .expr _=>do
    let t <-pure .none
    newObj (.type "function") (.func {name,qualname:=i,params,body,scope,globals:=mainGlobals,closure:=clos,defaults:=.none,kwdefaults:=.none,annotations:=none,pyModule:=nm.getD .none,code:=Y,closureTuple:=p,builtins:=J,doc:=t})) Q E #[s,h]:=λ p h C O=>by
  have N:=y p h s.toks C O (Am _);cases body with
  |stmts b=>simp only[u b rfl,pure_bind];exact N
  |expr e=>simp only[pure_bind];exact N
 cases clos with
 |nil=>
  simp only[FP,A0];refine Aa (Af ?_);have N:=go .none s.heap (λ _ _ e=>e) (Am _);cases body with
  |stmts b=>simp only[u b rfl,pure_bind] at N ⊢;exact N
  |expr e=>exact N
 |cons q r=>
  simp only[Kj,Aq,AS];refine Aa (wpAny_newTextTuple ?_);have N:=λ o:Obj=>go (.ref s.heap.objs.size) (s.heap.push o) (λ b o' e=>Ai _ e) (by rw[Bh];omega);cases body with
  |stmts b=>simp only[u b rfl,pure_bind] at N ⊢;exact N _
  |expr e=>exact N _
end
abbrev Ic (h:Array DictEntry)(k:Nat):Obj:={cls:=.type "dict",data:=.dict h k}
structure GT (h:Heap)(a:Addr)(m:Str->Option Value):Prop where
 obj:∃es ep,h.get? a=some (Ic es ep)/\StrKeys es/\UniqKeys es/\∀name,nsFind es name=m name
theorem GT.iw (x:GT h a m):h.Ns1 a m:=let⟨k,o,e,a,b,c⟩:=x.obj;⟨_,k,o,e,rfl,a,b,c⟩
theorem GT.ns (x:GT h a m):h.Ns a m:=x.iw.ns
theorem GT.keeps (x:GT h a m)(k:∀o,h.get? a=some o->H.get? a=some o):GT H a m:=let⟨s,w,e,r⟩:=x.obj;⟨s,w,k _ e,r⟩
theorem GT.lt (x:GT h a m):a<h.objs.size:=x.ns.lt
theorem GT.new (e:h.get? a=some emptyDict):GT h a λ _=>none:=⟨#[],0,e,λ _ h=>by simp at h,List.Pairwise.nil,λ _=>rfl⟩
def El (m:Str->Option Value)(name:Str)(v:Value):Str->Option Value:=λ x=>if x=name then some v else m x
def KS (m:Str->Option Value)(name:Str):Str->Option Value:=λ x=>if x=name then none else m x
section
theorem ST (W:GT s.heap a m)
 (N:∀w,GT w a (El m name v)->Heap.SameBut a s.heap w->b () #[s,w,s.toks+1]):wpAny M A (nsSet a name v) b E s:=by
 have O:=wpAny_nsSet1 (M:=M) (A:=A) (E:=E) (name:=name) (v:=v) W.iw (Q:=λ _ Z=>(∃h z,Z.heap.get? a=some (Ic h z))->b () Z) λ w g j l=>N w (by
  obtain⟨h,z,e⟩:=l;obtain⟨o,q,u,c,d,r⟩:=g;have f:w.get? a=some (Ic h z):=e;rw[f] at c;cases c;cases d;exact⟨h,z,f,r⟩) j
 intro x p Q;have k:=O x p Q;obtain⟨h,z,V,y,D,G⟩:=W.obj;have C:h.any (·.refKey)=false:=by
  rw[F8];intro e B;obtain⟨n,t,N⟩:=y e B;simp[DictEntry.refKey,N]
 simp only[nsSet,strHash,Sem.wp_bind',Sem.wp_cmd_ask,Sem.wp_pure',Sem.wp_cmd_mkText] at k ⊢;rw[Sem.wp_loadPart_of _ _ _ _ {s with toks:=s.toks+1} (o:=Ic h z) _ V] at k ⊢;simp only[aRefKeyMayBeTheName_eq,aRefKeyMayBeTheNameByArray,C,Bool.and_false,Aq,AS,Sem.wp_cmd_updatePart] at k ⊢;refine⟨k.1,k.2 ?_⟩;cases H:h.findIdx? (λ e=>e.key.isStr name) with
 |some i=>exact⟨_,_,Bc _ V (by simp only[LA,Obj.putNameByArray,H];rfl) |>.trans (by simp only[LA,Obj.putNameByArray,H];rfl)⟩
 |none=>exact⟨_,_,Bc _ V (by simp only[LA,Obj.putNameByArray,H];rfl) |>.trans (by simp only[LA,Obj.putNameByArray,H];rfl)⟩
theorem Ph (k:GT s.heap z.locals m)
 (o:∀h,GT h z.locals (El m name v)->Heap.SameBut z.locals s.heap h->a () #[s,h,s.toks+1]):wpAny M A (localSet z name v) a E s:=by
 obtain⟨C,H,w,r⟩:=k.obj;unfold localSet;refine Aa (Hd w ?_);rw[Ap (_)];exact ST k o
def Ds (h:Env)(name:Str):Bool:=h.scope.kind== .class&&(h.kindOf name==some .local||(h.kindOf name==none&&compilersOwnNames.contains name))
theorem E2 (w:Ds z name=true)(H:GT s.heap z.locals m)
 (N:∀C,GT C z.locals (El m name v)->Heap.SameBut z.locals s.heap C->a () #[s,C,s.toks+1]):wpAny M A (storeName z name v) a E s:=by
 unfold Ds at w;rw[Ah,BN,Ah] at w;obtain⟨Q,o⟩:=w;have h:z.scope.kind=.class:=Bo Q;unfold storeName;have O:z.blockKind=.class:=by unfold Env.blockKind;rw[h];rfl
 rcases o with o |⟨o,V⟩
 ·have k:z.kindOf name=some .local:=Bo o;simp only[k,h,O];exact Ph H N
 ·have k:z.kindOf name=none:=Bo o;simp only[k,h,O,V];exact Ph H N
end
variable {args:List Expr}{pos:Pos} in
abbrev Jn (x y:Str)(h k:Pos):Arguments:={posonlyargs:=[],args:=[{arg:=x,annotation:=none,pos:=h},{arg:=y,annotation:=none,pos:=k}],vararg:=none,kwonlyargs:=[],kw_defaults:=[],kwarg:=none,defaults:=[]}
section
theorem X0 {a:List Stmt}{b:Pos}{x y:Str}{M:Model}{name bind:Str}{c d:Pos}{e:Flow->Shared->Prop}
 (C:wpAny M A (makeFunction name (qualnameIn z name bind) (Jn x y c d) (.stmts a) V z [] [] [] b b.line) (λ f w=>wpAny M A (storeName z bind f) (λ _ h=>e .next h) E w) E s):
 wpAny M A (exec (.FunctionDef name (Jn x y c d) a [] none [] V none bind b) z) e E s:=by
 rw[arm_exec_FunctionDef];unfold defStmt;simp only[FP,HK,JG,Aq,AS,GY,evalEach,List.zip_nil_right,List.reverse_nil];refine Aa (Af (Aa (AI (Aa (AF ?_)))));refine Aa (Af (Aa (AF (Af (AF (Aa (Af ?_)))))));refine BP C (λ f w k=>?_) λ _ _ k=>k;refine Aa (Af (Aa (AI (Aa (wpAny_bindName ?_)))));exact BP k (λ _ h o=>Af o) λ _ _ k=>k
variable {body:List Stmt}{clos:List (Str×Addr)}{pos:Pos}{x y:Str} in
structure FM where
 name:Str
 x:Str
 y:Str
 px:Pos
 py:Pos
 body:List Stmt
 sc:Scope
 pos:Pos
 clos:List (Str×Addr)
def FM.dn (r:FM):Stmt:=.FunctionDef r.name (Jn r.x r.y r.px r.py) r.body [] none [] r.sc none r.name r.pos
def FS (k:Heap)(f:Addr)(h:Str)(s:Value)(r:FM):Prop:=∃o w,k.get? f=some (Zw r.name h (Jn r.x r.y r.px r.py) r.body r.sc r.clos s o w)/\Bd k o h
def Hn (h k:Heap):Prop:=∀b o,h.get? b=some o->(o.cls=.type "function"\/o.cls=.type "code")->k.get? b=some o
theorem Hn.trans (a:Hn h H)(b:Hn H d):Hn h d:=λ x o e c=>b x o (a x o e c) c
theorem FS.bh (x:FS h f a d r)(k:Hn h H):FS H f a d r:=let⟨s,w,e,c⟩:=x;⟨s,w,k _ _ e (.inl rfl),c.bh λ b o e z=>k b o e (.inr z)⟩
structure UG (h₁:Heap)(mg:Str->Option Value)(nsA c P:Addr)(h:Heap)(m:Str->Option Value)(ps:Array Value):Prop where
 keep:∀b o,b≠nsA->b≠P->h₁.get? b=some o->h.get? b=some o
 ij:GT h nsA m
 ff:BW h c P ps
 hP:nsA≠P
theorem I1 (d:GT h a m)(w:Heap.SameBut a h H):Hn h H:=λ b o e k=>(w.2 b (λ q=>by
 obtain⟨z,A,s,_⟩:=d.obj;subst q;rw[e] at s;cases s;rcases k with k |k<;>simp at k)).trans e
theorem Td (T:BW h c P a)(s:Heap.ExtBut P h H):Hn h H:=λ b o e k=>s b o (λ q=>by
 subst q;rw[T.bh] at e;cases e;rcases k with k |k<;>simp at k) e
theorem Sf {i:Str->Str}(V:g.locals=d)(a0:g.globals=mainGlobals)(W:g.code=.ref c)(hg:h₁.Ns mainGlobals mg)(a7:mainGlobals≠d)(I:mainGlobals≠P)(hb:h₁.BuiltinsAt mg P)(J:mg "__builtins__"=some (.ref bm))(a8:bm≠d)
 (hq:∀n,qualnameIn g n n=i n):∀(Z:List FM)(w:List Stmt)(m:Str->Option Value)(B:Array Value)(s:Shared)(Q:Flow->Shared->Prop),UG h₁ mg d c P s.heap m B->
 (∀r∈Z,Ds g r.name=true/\closureFor r.sc g=pure r.clos/\docOf r.body=none)->(Z.map (·.name)).Nodup->
 (∀r∈Z,∀z,codeAmong r.pos B.toList=some z->Bd s.heap z (i r.name))->(Z.Pairwise λ a b=>¬(a.pos.line=b.pos.line/\a.pos.col=b.pos.col))->
 (∀y tk m' C,UG h₁ mg d c P y m' C->Hn s.heap y->(∀b o,b≠d->b≠P->s.heap.get? b=some o->y.get? b=some o)->(∀x,x∉Z.map (·.name)->m' x=m x)->(∀r∈Z,∃f,m' r.name=some (.ref f)/\FS y f (i r.name) ((mg "__name__").getD .none) r/\s.heap.get? f=none)->
  (∀r∈Z,∃z,codeAmong r.pos C.toList=some z/\Bd y z (i r.name))->(∀j z,codeAmong j B.toList=some z->codeAmong j C.toList=some z)->((∀r∈Z,(codeAmong r.pos B.toList).isSome=true)->C=B)->s.toks<=tk->wpAny M A (execs w g) Q E #[s,y,tk])->
 wpAny M A (execs (Z.map FM.dn++w) g) Q E s
 |[],w,m,B,s,Q,H,_,_,_,_,h=>h s.heap s.toks m B H (λ _ _ e _=>e) (λ _ _ _ _ e=>e) (λ _ _=>rfl) (λ _ h=>nomatch h) (λ _ h=>nomatch h) (λ _ _ e=>e) (λ _=>rfl) (Am _)
  |r::Z,w,m,B,s,Q,H,hr,nd,a9,pw,h=>by
   obtain⟨b4,b5,b0⟩:=hr r Ac;rw[AL,CN] at nd;rw[DI] at pw;have L:s.heap.Ns mainGlobals mg:=let⟨o,es,ep,e,x⟩:=hg;⟨o,es,ep,H.keep _ _ a7 I e,x⟩;have R:s.heap.BuiltinsAt mg P:=by
    obtain⟨c8,ob,a1,a2,a3,a4,a5,a6⟩:=hb;rw[J] at a1;cases a1;exact⟨bm,ob,J,a2,a3,a4,H.keep _ _ a8 a4 a5,a6⟩
   rw[AL,FR];unfold FM.dn;refine Al (X0 ?_);refine No (mg:=mg) (clos:=r.clos) b5 a0 L W H.ff I R (λ b q=>by cases q;exact b0) (λ z e=>by rw[hq];exact a9 r Ac z e) λ f z ct y tk C O lt hf=>?_;have l:GT y g.locals m:=by rw[V];exact H.ij.keeps λ o e=>O.ext _ _ H.hP e
   refine E2 (s:=#[s,y,tk]) b4 l λ N S sb=>?_;rw[V] at S sb l;have c9:f≠d:=λ q=>by obtain⟨es,ep,e,_⟩:=H.ij.obj;rw[<-q,O.new] at e;cases e
   have d0:f≠P:=λ q=>by have:=H.ff.bh;rw[<-q,O.new] at this;cases this
   have b6:=Td H.ff O.ext;have T:=I1 l sb;have kf:=b6.trans T;have kb:∀b o,b≠d->b≠P->s.heap.get? b=some o->N.get? b=some o:=λ b o u v e=>(sb.2 b u).trans (O.ext b o v e);have b7:c≠d:=λ q=>by
    obtain⟨es,ep,e,_⟩:=H.ij.obj;obtain⟨o',d1,c6,tf,b8,tg,d2,c7,tt,e1,hc,_⟩:=H.ff.hd;rw[q,e] at e1;cases e1;simp at hc
   have p:BW N c P C:=O.ff.extBut sb.extBut b7 (Ne.symm H.hP);have U:FS N f (i r.name) ((mg "__name__").getD .none) r:=by
    rw[<-hq];exact FS.bh ⟨z,ct,O.bh,O.dm⟩ T
   refine Sf V a0 W hg a7 I hb J a8 hq Z w _ C #[s,N,tk+1] Q ⟨λ b o u v e=>kb b o u v (H.keep b o u v e),S,p,H.hP⟩ (λ t k=>hr t (Ad _ k)) nd.2 (λ t k b1 e=>?_) pw.2 λ h3 b9 m3 c0 c1 Y c2 b2 c3 c4 b3 c5 l3=>?_
   ·rcases O.only t.pos b1 e with q |⟨_,_,q⟩
    ·exact(a9 t (Ad _ k) b1 q).bh λ b o e hc=>kf b o e (.inr hc)
    ·exact absurd ⟨q.1.symm,q.2.symm⟩ (pw.1 t k)
   ·refine h h3 b9 m3 c0 c1 (kf.trans Y) (λ b o u v e=>c2 b o u v (kb b o u v e)) (λ x hx=>?_) (λ t k=>?_) (λ t k=>?_) (λ j z e=>b3 j z (O.more j z e)) (λ q=>by
     have e1:=O.same (q r Ac);subst e1;exact c5 λ t k=>q t (Ad _ k)) (Ab lt (Ab (A6 _) l3))
    ·rw[b2 x λ q=>hx (by rw[AL];exact Ad _ q)];exact Ak λ q=>hx (by rw[q];exact Ac)
    ·rcases Ag.mp k with rfl |k
     ·exact⟨f,by rw[b2 _ nd.1];exact Ap rfl,U.bh Y,O.new⟩
     ·obtain⟨D,a,b,c⟩:=c3 t k;exact⟨D,a,b,by
       cases q:s.heap.get? D with
       |none=>rfl
       |some o=>
        exfalso;by_cases u:D=d
        ·obtain⟨es,ep,e,_⟩:=S.obj;have G:N.get? D=none:=c;rw[u,e] at G;cases G
        ·by_cases v:D=P
         ·have e:=p.bh;have G:N.get? D=none:=c;rw[v,e] at G;cases G
         ·have:=kb D o u v q;have G:N.get? D=none:=c;rw[this] at G;cases G⟩
    ·rcases Ag.mp k with rfl |k
     ·exact⟨z,b3 _ _ O.hit,by rw[<-hq];exact O.dm.bh λ b o e hc=>(T.trans Y) b o e (.inr hc)⟩
     ·exact c4 t k
end
theorem OK (C:Ds z x=true)(H:GT s.heap z.locals m)
 (N:∀h O o,GT h z.locals (El m x (.str c O))->Heap.SameBut z.locals s.heap h->s.toks<=o->b .next #[s,h,o]):wpAny (model a w) A (exec (.Assign [.Name x e] (.Constant (.str c) k f) g) z) b E s:=by
 refine Bf (W:=⟨a,w,s.heap,[],λ _=>True,λ _ _ _ _=>trivial⟩) (t:=.Name x e) rfl rfl rfl ?_;rw[arm_eval_Constant];refine HO (DD (E2 (s:={s with toks:=s.toks+1}) C H λ h d Q=>N h _ _ d Q (by show s.toks<=s.toks+1+1;omega)))
theorem N5 (C:Ds z x=true)(H:GT s.heap z.locals m)
 (N:∀h o,GT h z.locals (El m x .none)->Heap.SameBut z.locals s.heap h->s.toks<=o->b .next #[s,h,o]):wpAny (model a w) A (exec (.Assign [.Name x c] (.Constant .none k e) f) z) b E s:=by
 refine Bf (W:=⟨a,w,s.heap,[],λ _=>True,λ _ _ _ _=>trivial⟩) (t:=.Name x c) rfl rfl rfl ?_;rw[arm_eval_Constant];exact Af (DD (E2 C H λ h d O=>N h _ d O (A6 _)))
theorem VS (Q:Ds z x=true)(N:GT s.heap z.locals m)
 (V:∀h a W C,GT h z.locals (El m x (.ref a))->s.heap.get? a=none->h.get? a=some (Fz #[.str c W] 0)->(∀b o,b≠z.locals->s.heap.get? b=some o->h.get? b=some o)->s.toks<=C->g .next #[s,h,C]):
 wpAny (model f w) A (exec (.Assign [.Name x i] (.List [.Constant (.str c) k j] l) n) z) g E s:=by
 refine Bf (W:=⟨f,w,s.heap,[],λ _=>True,λ _ _ _ _=>trivial⟩) (t:=.Name x i) rfl rfl rfl ?_;rw[Ol,AN l z [.Constant (.str c) k j] rfl];refine Aa (AI (Aa (Av ?_)));rw[arm_eval_Constant];refine HO (AV ?_);refine Bj ?_ (by size_fits);refine DD (E2 (s:=#[s,s.heap.push _,s.toks+1]) Q (N.keeps λ o e=>Ai _ e) λ h d O=>?_);have H:s.heap.objs.size≠z.locals:=Cy N.lt;exact V h s.heap.objs.size s.toks _ d (Bl _) ((O.2 _ H).trans (Ar _ rfl)) (λ b o Z e=>(O.2 b Z).trans (Ai _ e)) (by show s.toks<=s.toks+1+1;omega)
local macro_rules |`(tactic|walk_at "kx")=> `(tactic|first
 |with_reducible refine AA V8 ?_ |with_reducible refine AA T6 ?_ |with_reducible refine AA RJ ?_ |with_reducible refine AA SF ?_ |with_reducible refine AA Kp ?_
 |with_reducible refine WG ?_
 |with_reducible refine B7 ?_ |lk)
section
theorem QD (k:z.scope.kind=.class)(C:z.kindOf "__name__"=none)(o:GT s.heap z.locals m)(H:m "__name__"=none)(h:z.globals=mainGlobals)(N:s.heap.Ns mainGlobals mg)(O:mg "__name__"=some v)(V:Q v s):
 wpAny (model a w) A (loadName z "__name__") Q E s:=by
 unfold loadName;have W:z.blockKind=.class:=by unfold Env.blockKind;rw[k];rfl
 have Z:z.scope.kind.isAnnotationScope=false:=by rw[k];rfl
 obtain⟨c,d,b,r⟩:=o.obj;simp only[Z,W,C,JG,Aq,AS];rw[show(!compilersOwnNames.contains ("__name__":Str))=false from by decide+kernel];refine Aa ?_;unfold localGet;refine Aa (Hd b ?_);rw[Ap (_)];refine B4 o.ns ?_;rw[H];unfold loadGlobal;rw[h];refine Aa (B4 N ?_);rw[O];exact Af V
theorem UG.dt (H:UG a mg b c P d m l)(N:BW a c P j)(k:GT a b e)(T:BW a g i f)(O:i≠b)(hP:i≠P):BW d g i f:=by
 obtain⟨o,Q,s,V,h,W,A,w,Z,z,C,r⟩:=T.hd;have n:g≠b:=λ q=>by
  obtain⟨t,u,E,_⟩:=k.obj;rw[q,E] at z;cases z;simp at C
 have p:g≠P:=λ q=>by
  have E:=N.bh;rw[q,E] at z;cases z;simp at C
 exact⟨⟨o,Q,s,V,h,W,A,w,Z,H.keep _ _ n p z,C,r⟩,H.keep _ _ O hP T.bh,T.ok⟩
theorem U5 {a:Addr}{R:Result->Shared->Prop}{g:Array GenState}{os:OsState}{b:Program}{d:Drawn}{t:Nat}{x y:Value}{kw:List (Str×Value)}(s:h.get? a=some DO)(o:R (.ok (.ret (.ref h.objs.size))) ⟨h.push emptyDict,g,d,t,os⟩)(k:kw=[]:=by rfl):codeAny (model b w) A (.call (.ref a) ⟨[x,y],kw⟩) R ⟨h,g,d,t,os⟩:=by
 subst k;refine Kb ?_;show wpAny _ _ (callAny (.ref a) _) _ _ _;unfold callAny
 repeat (first |with_reducible refine B7 ?_ |with_reducible refine wpAny_runValue ?_ |with_reducible refine wpAny_run ?_ |lk)
 refine⟨D4 _ {_},Fu NO ?_⟩;unfold Builtin.«type.__prepare__»
 repeat lk
 exact o
def Co:List Str:=["__module__","__qualname__","__firstlineno__","__slots__","__hash__","__static_attributes__"]
def dQ (w:Heap)(P:Addr)(h:Array Value)(z:Pos)(k:Str)(E:List FM)(H:Str->Str):Prop:=
 ∃A C o,codeAmong z h.toList=some (.ref A)/\BW w A C o/\C≠P/\Bd w (.ref A) k/\∀r∈E,∃s,codeAmong r.pos o.toList=some s/\Bd w s (H r.name)
variable {st:Stmt}{sl:BL} in
structure Yp (h h':Heap)(mg:Str->Option Value)(P c:Addr)(ps jK:Array Value)(pos:Pos)(qual modn slotn:Str)(rs:List FM)(qf:Str->Str)(bT nsA:Addr)(m:Str->Option Value):Prop where
 keep:∀b o,b≠P->h.get? b=some o->h'.get? b=some o
 ff:BW h' c P jK
 hit:dQ h' P jK pos qual rs qf
 more:∀pos' cv',codeAmong pos' ps.toList=some cv'->codeAmong pos' jK.toList=some cv'
 only:∀pos' cv',codeAmong pos' jK.toList=some cv'->codeAmong pos' ps.toList=some cv'\/(codeAmong pos ps.toList=none/\pos'.line=pos.line/\pos'.col=pos.col)
 same:(codeAmong pos ps.toList).isSome=true->jK=ps
 ij:GT h' nsA m
 newA:h.get? nsA=none
 newB:h.get? bT=none
 bases:h'.get? bT=some {cls:=.type "tuple",data:=.seq #[.type "object"]}
 modv:∃tk,m "__module__"=some (.str modn tk)
 qv:∃tk,m "__qualname__"=some (.str qual tk)
 lv:∃i tk,m "__firstlineno__"=some (.int i tk)
 sl:∃a tk,m "__slots__"=some (.ref a)/\h'.get? a=some (Fz #[.str slotn tk] 0)
 hv:m "__hash__"=some .none
 st:∃a vs,m "__static_attributes__"=some (.ref a)/\h'.get? a=some {cls:=.type "tuple",data:=.seq vs}
 cg:∀r∈rs,∃f,m r.name=some (.ref f)/\FS h' f (qf r.name) ((mg "__name__").getD .none) r/\h.get? f=none
 eh:∀x:Str,Co.contains x=false->x∉rs.map (·.name)->m x=none
 ext:∃ms,jK=ps++ms
theorem Zy {P:Addr}{G:List Stmt}{k1 t:Nat}{clos:List (Str×Addr)}{i q1 L q3 q4 q5 q6 q7 q8:Pos}{g:Array GenState}{os:OsState}{I:Program}{j:Str}{d:Drawn}{name:Str}{scope:Scope}{statics:List Str}{B:Nat}{D u:Str}{S U:Nat}{Y M:Pos}{c:Addr}{p:Array Value}{J:Obj}
 (n9:scope.names.lookup ("__class__":Str)=none) (o0:scope.names.lookup ("__classdict__":Str)=none) (hh:A.handled=none)
 (o1:z.globals=mainGlobals) (i7:z.code=.ref c) (hg:h.Ns mainGlobals mg) (hb:h.BuiltinsAt mg P) (o2:closureFor scope z=pure clos) (T:BW h c P p) (j8:h.get? sysModules=some J)
 (e5:scope.kind=.class) (o3:scope.names.lookup ("__name__":Str)=none) {R:Value} (o4:mg "__name__"=some R) (o5:mainGlobals≠P) (o6:cStatics≠P) (h0:∀x,Co.contains x=true->(scope.kind== .class&&(scope.names.lookup x==some .local||(scope.names.lookup x==none&&compilersOwnNames.contains x)))=true) (j9:h.NoLimit) (k0:A.depth<recursionLimit) {rs:List FM} {qf:Str->Str} (o7:∀cv,codeAmong i p.toList=some cv->∃c' P' b1,cv=.ref c'/\BW h c' P' b1/\P'≠P/\Bd h cv j/\∀r∈rs,∃N,codeAmong r.pos b1.toList=some N/\Bd h N (qf r.name))
 (k4:hasAnns G=false) (e6:G=.Assign [.Name "__module__" q1] (.Constant (.str D) k1 L) q3::.Assign [.Name "__slots__" q4] (.List [.Constant (.str u) S q5] q6) q7::(rs.map FM.dn++[.Assign [.Name "__hash__" q8] (.Constant .none U Y) M]))
 (o8:∀n:Str,(if(scope.names.lookup n==some .globalExplicit)=true then n else(j++".")++n)=qf n)
 (i8:∀r∈rs,scope.names.lookup r.name=some .local/\(∀(l1 l2:Addr)(q:Str)(cd:Value)(f:Option Addr)(bn:Addr),closureFor r.sc {scope,locals:=l1,globals:=l2,cells:=clos,qual:=q,code:=cd,frame:=f,builtins:=bn}=pure r.clos)/\docOf r.body=none)
 (o9:(rs.map (·.name)).Nodup) (p0:rs.Pairwise λ a b=>¬(a.pos.line=b.pos.line/\a.pos.col=b.pos.col))
 (i2:∀r∈rs,Co.contains r.name=false)
 (k5:∀h' tk C m H nm,t<=tk->Yp h h' mg P c p H i j D u rs qf h.objs.size C m->wpAny (model I w) A (call (.type "type") [.str name nm,.ref h.objs.size,.ref C] []) Q E ⟨h',g,d,tk,os⟩):
 wpAny (model I w) A (buildClass name j [.type "object"] [] G scope statics B z i none) Q E ⟨h,g,d,t,os⟩:=by
 unfold buildClass;refine Aa ?_
 repeat walk_at "kx"
 refine U5 (kw:=[]) (by heap_get) ?_;dsimp only;generalize hH:(h.push {cls:=.type "tuple",data:=.seq #[.type "object"]})=hT;have k6:hT.objs.size=h.objs.size+1:=by rw[<-hH,Bh]
 have kT:∀b o,h.get? b=some o->hT.get? b=some o:=λ b o e=>hH▸Ai _ e;have bT:hT.get? h.objs.size=some {cls:=.type "tuple",data:=.seq #[.type "object"]}:=hH▸Ar _ rfl;have k7:((hT.push DO).objs.size==sysModules)=false:=by
  have h1:=AO j8;have h2:(hT.push DO).objs.size=h.objs.size+2:=by rw[Bh,k6]
  rw[h2];simp only[beq_eq_false_iff_ne,ne_eq];intro q;rw[<-q] at h1;exact absurd h1 (EM.mpr (Nat.le_add_right h.objs.size 2))
 have hn:((hT.push DO).push emptyDict).get? (hT.push DO).objs.size=some emptyDict:=Ar _ rfl;have b3:∀b o,h.get? b=some o->((hT.push DO).push emptyDict).get? b=some o:=λ b o e=>Ai _ (Ai _ (kT b o e));have kB:((hT.push DO).push emptyDict).get? h.objs.size=some {cls:=.type "tuple",data:=.seq #[.type "object"]}:=Ai _ (Ai _ bT);have h4:h.objs.size<(hT.push DO).objs.size:=by rw[Bh,k6];exact C3 (Eu _) (A6 _)
 have b8:h.get? (hT.push DO).objs.size=none:=Fn (Jl h4);have c8:h.objs.size<=((hT.push DO).push emptyDict).objs.size:=by rw[Bh];exact Jl (GV h4)
 generalize r6:(hT.push DO).push emptyDict=d7 at hn b3 kB c8 ⊢;generalize r7:(hT.push DO).objs.size=C at hn k7 h4 b8 ⊢;have k8:=hn;unfold notTheModulesDict;refine Aa ?_;rw[Ak (by rw[k7];decide)];refine Af ?_;have p1:Looks (model I w) d7 (specialOf (.ref C) "__getitem__") (some (.builtin "dict.__getitem__")):=by
  refine((Cf hn).andThen .now).andThen (A4 ?_);show typeLookup (.type "dict") "__getitem__"=_;rw[Bx,AY];kernel_rfl
 refine Aa (p1.at ?_);simp only[Option.isNone_some,Aq,AS];refine AF ?_;rw[n9,o0];simp only[show((none:Option NameKind)==some NameKind.cell)=false from rfl,Aq,AS];refine Aa (Af (Aa (Af ?_)));refine Aa ?_;unfold classCode;refine BP (Q:=λ cv s'=>∃(k:Heap)(tk:Nat)(H:Array Value)(c' P':Addr)(b1:Array Value),s'=⟨k,g,d,tk,os⟩/\cv=.ref c'/\Heap.ExtBut P d7 k/\BW k c P H/\codeAmong i H.toList=some (.ref c')/\(∀V N,codeAmong V p.toList=some N->codeAmong V H.toList=some N)/\
  (∀V N,codeAmong V H.toList=some N->codeAmong V p.toList=some N\/(N=cv/\codeAmong i p.toList=none/\V.line=i.line/\V.col=i.col))/\((codeAmong i p.toList).isSome=true->H=p)/\BW k c' P' b1/\Bd k cv j/\
  (∀r∈rs,∀N,codeAmong r.pos b1.toList=some N->Bd k N (qf r.name))/\((b1= #[]/\h.get? P'=none)\/(∀r∈rs,(codeAmong r.pos b1.toList).isSome=true))/\P'≠C/\P'≠P/\t<=tk/\∃ms,H=p++ms) (N3 (s:=⟨d7,g,d,t+2,os⟩) (qual:=j) i7 (T.keeps b3) (λ r8 s Q E hQ=>wpAny_newCodeX λ c' P' h' tk a b d e f g=>hQ c' P' h' tk a b d e f g) (λ cv hc=>?_) λ hn c' P' h' tk hx r9 i9 s0 s1 T' k9 rc l=>?_) (λ cv s' hq=>?_) λ _ _ x=>x
 ·obtain⟨c',P',b1,rfl,TP,h5,rc,hm⟩:=o7 cv hc;refine⟨d7,t+2,p,c',P',b1,rfl,rfl,λ _ _ _ e=>e,T.keeps b3,hc,λ _ _ e=>e,λ _ _ e=>.inl e,λ _=>rfl,TP.keeps b3,rc.bh λ b o e _=>b3 b o e,λ r hr N e=>?_,.inr λ r hr=>?_,?_,?_,∅,#[],(_)⟩
  ·obtain⟨l0,e',i3⟩:=hm r hr;rw[e] at e';cases e';exact i3.bh λ b o e _=>b3 b o e
  ·obtain⟨l0,e',i3⟩:=hm r hr;rw[e'];rfl
  ·intro q;have e0:=TP.bh;rw[q,b8] at e0;cases e0
  ·exact h5
 ·have hl:(p++ #[rawInt i.line,rawInt i.col,Value.ref c']).toList=p.toList++[rawInt i.line,rawInt i.col,.ref c']:=(_)
  have p2:P<h.objs.size:=AO T.bh;refine⟨h',tk,_,c',P',#[],rfl,rfl,hx,T',?_,λ V N e=>?_,λ V N e=>?_,(λ q=>by rw[hn] at q;cases q),k9,.of rc k9,λ r hr N e=>?_,.inl ⟨rfl,Fn (Ab c8 i9)⟩,?_,?_,by have:t+2<=tk:=l;omega,_,rfl⟩
  ·rw[hl];exact codeAmong_snoc _ T.ok hn
  ·rw[hl];exact Jg _ _ T.ok e
  ·rw[hl] at e;exact(GP _ T.ok e).imp id λ q=>⟨q.1,hn,q.2⟩
  ·simp[codeAmong] at e
  ·exact Cy (C3 (AO k8) i9)
  ·exact Cy (C3 p2 (Ab c8 i9))
 obtain⟨k,tk,H,c',P',b1,rfl,rfl,hx,l3,h6,e7,e8,e9,TP,rc,hm,l4,c9,h5,s2,l5⟩:=hq;obtain⟨bm,ob,h7,i4,l6,f0,f1,f2,f3,f4⟩:=id hb;have p3:mainGlobals≠P:=o5;have kx:∀b o,b≠P->h.get? b=some o->k.get? b=some o:=λ b o hb e=>hx b o hb (b3 b o e);have b9:k.Ns mainGlobals mg:=let⟨o,es,ep,e,x⟩:=hg;⟨o,es,ep,kx _ _ p3 e,x⟩;rw[o1];refine Aa (wpAny_builtinsFor (s:=⟨k,g,d,tk,os⟩) b9 h7 i4 (kx _ _ f0 f1) f2 f3 f4 (Aa ?_));unfold newBodyFrame;refine Aa (B4 b9 (MG ?_));dsimp only;rw[o2];refine Aa (Af (AF (Aa ?_)));simp only[Option.map_none,Option.toList_none,DX,Cj];generalize s3:({cls:=.type "frame",slots:= #[some (.ref c'),some (.ref mainGlobals),some (.ref C),none,some ((mg "__name__").getD .none),none,some (.ref builtinsNs)]}:Obj)=fr;have Z:∀b o,k.get? b=some o->(k.push fr).get? b=some o:=λ b o e=>Ai _ e;have f5:(k.push fr).NoLimit:=let⟨mc,⟨o,es,ep,e,x⟩,hc⟩:=j9;⟨mc,⟨o,es,ep,Z _ _ (kx _ _ o6 e),x⟩,hc⟩;refine wpAny_enterFrame f5 k0 (Aa (wpAny_onRaise ?_));have c5:C≠P:=λ q=>by have e0:=T.bh;rw[<-q,b8] at e0;cases e0
 generalize e3:({scope,locals:=C,globals:=mainGlobals,cells:=clos,qual:=j++".",code:=.ref c',frame:=some k.objs.size,builtins:=builtinsNs}:Env)=a0;have a7:a0.locals=C:=by rw[<-e3]
 have l7:a0.globals=mainGlobals:=by rw[<-e3]
 have p4:a0.code=.ref c':=by rw[<-e3]
 have e4:a0.scope=scope:=by rw[<-e3]
 have d0:GT (k.push fr) a0.locals (λ _=>none):=by rw[a7];exact(GT.new hn).keeps λ o e=>Z _ _ (hx _ _ c5 e)
 have f6:(k.push fr).Ns mainGlobals mg:=b9.keeps Z;have d1:∀x,Co.contains x=true->Ds a0 x=true:=λ x p5=>by
  have:=h0 x p5;unfold Ds at this ⊢;rw[e4];have e1:a0.kindOf x=scope.names.lookup x:=by unfold Env.kindOf;rw[e4]
  rw[e1];exact this
 refine Aa (QD (s:=⟨k.push fr,g,d,tk,os⟩) (by rw[e4];exact e5) (by unfold Env.kindOf;rw[e4];exact o3) d0 rfl l7 f6 o4 (Aa (E2 (s:=⟨k.push fr,g,d,tk,os⟩) (d1 _ {_}) d0 λ l8 f7 f8=>?_)));refine Aa (HO (Aa (E2 (s:=⟨l8,g,d,tk+1+1,os⟩) (d1 _ {_}) f7 λ l9 f9 g0=>?_)));refine Aa (wpAny_mkInt' ?_);refine Aa (E2 (s:=⟨l9,g,d,tk+1+1+1+1,os⟩) (d1 _ {_}) f9 λ O c1 g1=>Af ?_);have j0:mainGlobals≠C:=λ q=>by obtain⟨o,es,ep,e,_⟩:=hg;rw[q,b8] at e;cases e
 have j1:bm≠C:=λ q=>by rw[q,b8] at f1;cases f1
 rw[a7] at d0 f8 g0 g1 f7 f9 c1;have b4:∀b o,b≠C->(k.push fr).get? b=some o->O.get? b=some o:=λ b o hb e=>(g1.2 b hb).trans ((g0.2 b hb).trans ((f8.2 b hb).trans e));have g2:∀b o,b≠P->h.get? b=some o->O.get? b=some o:=λ b o hb e=>b4 b o (λ q=>by rw[q,b8] at e;cases e) (Z _ _ (kx b o hb e));have j2:O.Ns mainGlobals mg:=let⟨o,es,ep,e,x⟩:=f6;⟨o,es,ep,b4 _ _ j0 e,x⟩;have d8:∀{c0 P0:Addr}{b5:Array Value},BW k c0 P0 b5->P0≠C->BW O c0 P0 b5:=λ{c0 P0 b5} T0 g3=>by
  have g4:c0≠C:=λ q=>by
   obtain⟨o',m0,a8,tf,W,tg,c6,a9,tt,e1,hc,_⟩:=T0.hd;have e2:=hx _ _ c5 hn;rw[q,e2] at e1;cases e1;simp at hc
  obtain⟨o,vs,a8,tf,W,tg,c6,a9,tt,e1,r⟩:=T0.hd;exact⟨⟨o,vs,a8,tf,W,tg,c6,a9,tt,b4 _ _ g4 (Z _ _ e1),r⟩,b4 _ _ g3 (Z _ _ T0.bh),T0.ok⟩
 have i5:BW O c P H:=d8 l3 (Ne.symm c5);have d2:BW O c' P' b1:=d8 TP c9;have i6:∀{cv q},Bd k cv q->Bd O cv q:=λ x=>x.bh λ b o e hc=>b4 b o (λ q=>by
  have e2:=hx _ _ c5 hn;rw[q,e2] at e;cases e;simp at hc) (Z _ _ e)
 have m1:O.BuiltinsAt mg P':=by
  refine⟨bm,ob,h7,i4,l6,λ q=>?_,b4 _ _ j1 (Z _ _ (kx _ _ f0 f1)),f2,f3,f4⟩;have e0:=TP.bh;rw[<-q,kx _ _ f0 f1] at e0;cases e0;simp at f2
 have m2:mainGlobals≠P':=λ q=>by
  obtain⟨o,es,ep,e,p6,_⟩:=b9;have e0:=TP.bh;rw[<-q,e] at e0;cases e0;simp at p6
 refine Aa (wpAny_run (codeAny_body k4 (by rw[e6];rfl) ?_));rw[e6];refine Al (OK (s:=⟨O,g,d,tk+1+1+1+1+1,os⟩) (d1 _ {_}) (by rw[a7];exact c1) λ m3 j3 c2 d3 d4 m4=>?_);refine Al (VS (s:=⟨m3,g,d,c2,os⟩) (d1 _ {_}) d3 λ b7 sl j4 c3 d5 b2 p7 g5 m5=>?_);rw[a7] at d3 d5 d4 g5;have b0:∀b o,b≠C->O.get? b=some o->b7.get? b=some o:=λ b o hb e=>g5 b o hb ((d4.2 b hb).trans e);have d9:∀{c0 P0:Addr}{b5:Array Value},BW O c0 P0 b5->P0≠C->BW b7 c0 P0 b5:=λ{c0 P0 b5} T0 g3=>by
  have g4:c0≠C:=λ q=>by
   obtain⟨o',m0,a8,tf,W,tg,c6,a9,tt,e1,hc,_⟩:=T0.hd;obtain⟨es,ep,e2,_⟩:=c1.obj;rw[q,e2] at e1;cases e1;simp at hc
  obtain⟨o,vs,a8,tf,W,tg,c6,a9,tt,e1,r⟩:=T0.hd;exact⟨⟨o,vs,a8,tf,W,tg,c6,a9,tt,b0 _ _ g4 e1,r⟩,b0 _ _ g3 T0.bh,T0.ok⟩
 have g6:∀{cv q},Bd O cv q->Bd b7 cv q:=λ x=>x.bh λ b o e hc=>b0 b o (λ q=>by
  obtain⟨es,ep,e2,_⟩:=c1.obj;rw[q,e2] at e;cases e;simp at hc) e
 refine Sf (h₁:=b7) (mg:=mg) (bm:=bm) (s:=⟨b7,g,d,c3,os⟩) a7 l7 p4 (let⟨o,es,ep,e,x⟩:=j2;⟨o,es,ep,b0 _ _ j0 e,x⟩) j0 m2 (let⟨p8,p9,a1,a2,a3,a4,a5,a6⟩:=m1;⟨p8,p9,a1,a2,a3,a4,b0 _ _ (by rw[h7] at a1;cases a1;exact j1) a5,a6⟩) h7 j1 (λ n=>by rw[<-e3];exact o8 n) rs _ _ b1 _ ⟨λ _ _ _ _ e=>e,d5,d9 d2 c9,Ne.symm c9⟩ (λ r hr=>⟨?_,by rw[<-e3];exact(i8 r hr).2.1 _ _ _ _ _ _,(i8 r hr).2.2⟩) o9 (λ r hr cv e=>g6 (i6 (hm r hr cv e))) p0 λ c7 d6 m6 j5 cb kf kb g7 q0 r0 s4 r1 m7=>?_
 ·have:=(i8 r hr).1;unfold Ds;rw[e4];have e1:a0.kindOf r.name=scope.names.lookup r.name:=by unfold Env.kindOf;rw[e4]
  rw[e1,e5,this];rfl
 refine Al (N5 (s:=⟨c7,g,d,d6,os⟩) (d1 _ {_}) (by rw[a7];exact cb.ij) λ hA m8 h8 j6 lA=>AZ ?_);rw[a7] at h8 j6;dsimp only;refine Aa (wpAny_onRaise (Aa (wpAny_mkStrs λ m9=>Aa (wpAny_newTextTuple ?_))));generalize n0:({cls:=.type "tuple",dict:=none,data:=.seq m9.toArray}:Obj)=h9;have r2:GT (hA.push h9) a0.locals (El m6 "__hash__" .none):=by rw[a7];exact h8.keeps λ o e=>Ai _ e
 refine Aa (E2 (s:=⟨hA.push h9,g,d,_,os⟩) (name:="__static_attributes__") (d1 _ {_}) r2 λ hB n4 i0=>Af (Aa ?_));rw[a7] at n4 i0;have kC:∀b o,b≠C->c7.get? b=some o->hB.get? b=some o:=λ b o hb e=>(i0.2 b hb).trans (Ai _ ((j6.2 b hb).trans e));have n5:Hn c7 hB:=(I1 cb.ij j6).trans (Hn.trans (λ b o e _=>Ai _ e) (I1 (h8.keeps λ o e=>Ai _ e) i0));have c4:∀x:Str,Co.contains x=true->x∉rs.map (·.name):=λ x hx q=>by
  obtain⟨r,hr,e⟩:=At.mp q;have:=i2 r hr;rw[e,hx] at this;cases this
 have g8:∀{c0 P0:Addr}{b5:Array Value},BW c7 c0 P0 b5->P0≠C->BW hB c0 P0 b5:=λ{c0 P0 b5} T0 g3=>by
  have g4:c0≠C:=λ q=>by
   obtain⟨o',m0,a8,tf,W,tg,c6,a9,tt,e1,hc,_⟩:=T0.hd;obtain⟨es,ep,e2,_⟩:=cb.ij.obj;rw[q,e2] at e1;cases e1;simp at hc
  obtain⟨o,vs,a8,tf,W,tg,c6,a9,tt,e1,r⟩:=T0.hd;exact⟨⟨o,vs,a8,tf,W,tg,c6,a9,tt,kC _ _ g4 e1,r⟩,kC _ _ g3 T0.bh,T0.ok⟩
 have n6:∀{cv q},Bd c7 cv q->Bd hB cv q:=λ x=>x.bh λ b o e hc=>n5 b o e (.inr hc);have g9:∀b o,b≠P'->h.get? b=some o->b≠P->hB.get? b=some o:=λ b o h1 e h2=>by
  have h3:b≠C:=λ q=>by rw[q,b8] at e;cases e
  exact kC b o h3 (cb.keep b o h3 h1 (b0 b o h3 (g2 b o h2 e)))
 have n7:sl≠C:=λ q=>by
  obtain⟨es,ep,e2,_⟩:=d3.obj;rw[q,e2] at b2;cases b2
 have r3:sl≠P':=λ q=>by
  have e2:=(d4.2 _ c9).trans d2.bh;rw[q,e2] at b2;cases b2
 have i1:(hA.push h9).get? hA.objs.size=some h9:=Ar _ (by rw[<-n0];rfl);have r4:hA.objs.size≠C:=Cy h8.lt;refine BP (k5 hB _ C _ H t ?_ ⟨λ b o hb e=>?_,g8 (cb.dt (d9 d2 c9) d5 (d9 i5 (Ne.symm c5)) (Ne.symm c5) (Ne.symm h5)) (Ne.symm c5),⟨c',P',j5,h6,g8 cb.ff c9,h5,n6 ((g6 (i6 rc)).bh λ b o e hc=>kf b o e (.inr hc)),λ r hr=>?_⟩,e7,λ V N e=>(e8 V N e).imp id λ q=>q.2,e9,n4,b8,Bl h,?_,?_,?_,?_,?_,?_,?_,λ r hr=>?_,λ x n8 r5=>?_,l5⟩) (λ v s' hv=>Af hv) λ _ _ x=>x
 ·have a1:tk+1+1+1+1+1<=c2:=m4;have a2:c2<=c3:=m5;have a3:c3<=d6:=m7;have a4:d6<=m8:=lA;show t<=m8+statics.length+1;omega
 ·by_cases q:b=P'
  ·subst q;rcases l4 with⟨_,L⟩ |L
   ·rw[L] at e;cases e
   ·have e1:=r1 L;have e2:=kx _ _ hb e;rw[TP.bh] at e2;cases e2;rw[<-e1];exact(g8 cb.ff c9).bh
  ·exact g9 b o q e hb
 ·obtain⟨N,a1,a2⟩:=r0 r hr;exact⟨N,a1,n6 a2⟩
 ·have n1:h.objs.size≠P:=Cy (AO T.bh);have n2:h.objs.size≠C:=BU h4;have e1:=hx _ _ n1 kB;have n3:h.objs.size≠P':=λ q=>by
   have e2:=TP.bh;rw[<-q,e1] at e2;cases e2
  exact kC _ _ n2 (cb.keep _ _ n2 n3 (b0 _ _ n2 (b4 _ _ n2 (Z _ _ e1))))
 ·refine⟨j3,?_⟩;unfold El;rw[Ak {_},Ak {_},g7 _ (c4 _ {_})];unfold El;rw[Ak {_},Ap rfl]
 ·refine⟨tk+1,?_⟩;unfold El;rw[Ak {_},Ak {_},g7 _ (c4 _ {_})];unfold El;rw[Ak {_},Ak {_},Ak {_},Ap rfl]
 ·refine⟨(B:Int),tk+1+1+1,?_⟩;unfold El;rw[Ak {_},Ak {_},g7 _ (c4 _ {_})];unfold El;rw[Ak {_},Ak {_},Ap rfl]
 ·refine⟨sl,j4,?_,kC _ _ n7 (cb.keep _ _ n7 r3 p7)⟩;unfold El;rw[Ak {_},Ak {_},g7 _ (c4 _ {_})];unfold El;rw[Ap rfl]
 ·unfold El;rw[Ak {_},Ap rfl]
 ·refine⟨hA.objs.size,m9.toArray,?_,?_⟩
  ·unfold El;rw[Ap rfl]
  ·rw[n0];exact(i0.2 _ r4).trans i1
 ·obtain⟨f,a1,a2,a3⟩:=q0 r hr;have b6:∀y:Str,Co.contains y=true->r.name≠y:=λ y hy q=>by
   have:=i2 r hr;rw[q,hy] at this;cases this
  refine⟨f,?_,a2.bh n5,?_⟩
  ·unfold El;rw[Ak (b6 _ {_}),Ak (b6 _ {_})];exact a1
  ·cases q:h.get? f with
   |none=>rfl
   |some o=>
    exfalso;have n1:f≠C:=λ e0=>by rw[e0,b8] at q;cases q
    have j7:b7.get? f=none:=a3;by_cases n2:f=P
    ·have:=(d9 i5 (Ne.symm c5)).bh;rw[<-n2,j7] at this;cases this
    ·rw[b0 _ _ n1 (g2 _ _ n2 q)] at j7;cases j7
 ·have b6:∀y:Str,Co.contains y=true->x≠y:=λ y hy q=>by rw[q,hy] at n8;cases n8
  unfold El;rw[Ak (b6 _ {_}),Ak (b6 _ {_}),g7 _ r5];unfold El;rw[Ak (b6 _ {_}),Ak (b6 _ {_}),Ak (b6 _ {_}),Ak (b6 _ {_}),Ak (b6 _ {_})]
end
theorem Zz (a b c:Value):checkBuiltinCall "type.__new__" ⟨[.type "type",a,b,c],[]⟩=pure ():=⋯
theorem Tg:entryFor table "type.__new__"=some Builtin.«type.__new__»:=Jd ⋯
theorem SU:Builtin.notOverATurnedClass [.type "object"]=pure ():=⋯
theorem Zp:Builtin.extendedBase [.type "object"]=pure (.type "object"):=⋯
theorem Yf:Builtin.Slots.bestBase [.type "object"]=pure (.type "object"):=⋯
theorem UX:Builtin.Slots.slotNamesOf (.type "object")=pure []:=⋯
theorem XD:Builtin.Slots.givesDict (.type "object")=pure false:=⋯
theorem Xw:Builtin.Slots.givesWeak (.type "object")=pure false:=⋯
theorem V7:Builtin.Slots.varSize (.type "object")=pure false:=⋯
theorem Vx:Builtin.mroHook? (.type "type")=pure none:=⋯
theorem Y1:Builtin.linearize [.type "object"] mroOf=pure [.type "object"]:=⋯
theorem WZ:Bind.madeBy (.type "object")=pure (some "object.__new__"):=⋯
theorem WQ (a:Addr):Builtin.noteSubclassOfBuiltin "object" a=pure ():=⋯
abbrev gv:List Value:=((some #[Value.type "object"]).getD #[]).toList
abbrev gB:List Value:=if gv.isEmpty=true then[Value.type "object"] else gv
theorem Pq:gB=[.type "object"]:=rfl
theorem Ro:Builtin.notOverATurnedClass gB=pure ():=by rw[Pq];exact SU
theorem W5:Builtin.linearize gB mroOf=pure [.type "object"]:=by rw[Pq];exact Y1
theorem XN:Builtin.extendedBase gB=pure (.type "object"):=by rw[Pq];exact Zp
theorem M2 {M:Model}{d a:Type}{x:d}{b:a}{f:d->a->Sem (ForInStep a)}{c:a->Shared->Prop}
 (o:wpAny M A (f x b) (λ r h=>match r with | .done b=>c b h | .yield b=>c b h) E s):wpAny M A (forIn [x] b f) c E s:=by
 rw[Bt];refine Aa (BP o (λ r h k=>?_) λ _ _ x=>x);cases r with
 |done b=>exact Af k
 |yield b=>exact Af k
section
abbrev Rh (h:Str):Builtin.Slots.Plan:={names:=[h],dict:=false,weak:=false,inherited:=[]}
theorem SK {j t:Nat}{g:Array GenState}{os:OsState}{c:Program}{a:Str}{d:Drawn}{name:Str}{i:Array DictEntry}{e:DictEntry}{f:Addr}{l:Builtin.Slots.Plan->Shared->Prop}(y:A.handled=none)
 (Z:i.find? (λ x=>x.key.isStr "__slots__")=some e) (m:e.val=.ref f) (z:h.get? f=some (Fz #[.str a j] 0)) (H:i.any (λ x=>x.key.isStr a)=false)
 (n:∀s C,(∀b o,h.get? b=some o->s.get? b=some o)->h.objs.size<=s.objs.size->t<=C->l (Rh a) ⟨s,g,d,C,os⟩) (q:a.length<=sizeLine) (N:Builtin.Slots.isIdentifier a=some true) (O:Builtin.Slots.mangle name a=a) (r:(a==("__dict__":Str))=false) (u:(a==("__weakref__":Str))=false) (v:(a==("__del__":Str))=false):
 wpAny (model c w) A (Builtin.Slots.read name [.type "object"] i) l E ⟨h,g,d,t,os⟩:=by
 unfold Builtin.Slots.read;refine Aa (AA Yf (Aa (AA UX (Aa (AA XD (Aa (AA Xw (Aa (AA V7 ?_)))))))));simp only[Z,m];have Q:h.IsList f [Value.str a j].toArray:=⟨_,z,rfl,0,rfl⟩;have B:Looks (model c w) h (asStr? (.ref f)) none:=by
  refine((Cf (part:=none) z).andThen ?_);exact A4 ⋯
 have V:[Value.str a j].length<=sizeLine:=by rw[CG];simp
 repeat (first |with_reducible refine collect_list Q ?_ V |lk)
 generalize W:(h.push (seqObj "list" #[] 0)).update h.objs.size (Obj.mapSeq (·++[Value.str a j].toArray))=s
 have k:∀b o,h.get? b=some o->s.get? b=some o:=λ b o e=>by
  rw[<-W,Ca _ _ (Cy (AO e))];exact Ai _ e
 simp only[Kj,Bool.not_false,A0]
 repeat (first |with_reducible refine AA V7 ?_ |with_reducible refine M2 ?_ |lk)
 rw[N];refine Aa (Af ?_);rw[Ak {_},Ak (by rw[r];decide),Ak (by rw[u];decide)]
 repeat lk
 simp only[show ∀p,((#[]:Array Str).push a)[((#[]:Array Str).push a).size-1-0]'p=a from λ _=>rfl,O];rw[Ak (by show ¬(0+a.length>sizeLine);rw[MC];exact EM.mpr q)];simp only[H,v,JG,Aq,AS]
 repeat lk
 exact n s t k (by rw[<-W,QM,Bh];exact A6 _) (Am _)
theorem Q4 {l t:Nat}{g:Array GenState}{os:OsState}{j:Program}{a:Str}{d:Drawn}{name:Str}{c:Array DictEntry}{e:DictEntry}{f:Addr}{i:Builtin.Slots.Plan->Shared->Prop}(O:A.handled=none)
 (Q:c.find? (λ x=>x.key.isStr "__slots__")=some e) (V:e.val=.ref f) (s:h.get? f=some (Fz #[.str a l] 0)) (z:c.any (λ x=>x.key.isStr a)=false)
 (W:a.length<=sizeLine) (C:Builtin.Slots.isIdentifier a=some true) (H:Builtin.Slots.mangle name a=a) (Z:(a==("__dict__":Str))=false) (m:(a==("__weakref__":Str))=false) (n:(a==("__del__":Str))=false)
 (p:∀N k,(∀b o,h.get? b=some o->N.get? b=some o)->h.objs.size<=N.objs.size->t<=k->i (Rh a) ⟨N,g,d,k,os⟩):
 wpAny (model j w) A (Builtin.Slots.read name gB c) i E ⟨h,g,d,t,os⟩:=by
 rw[Pq];exact SK O Q V s z p W C H Z m n
end
theorem RI (N:StrKeys c)(O:UniqKeys c)(L:List Str)(Q:∀x,(nsFind c x).isSome=true->x∈L):c.size<=L.length:=by
 obtain⟨l⟩:=c;have o:∀(l:List DictEntry)(L:List Str),(∀e∈l,∃n t,e.key=.str n t)->l.Pairwise (λ a b=>∀n,a.key.isStr n=true->b.key.isStr n=true->False)->(∀e∈l,∀n,e.key.isStr n=true->n∈L)->l.length<=L.length:=by
  intro l;induction l with
  |nil=>intro L _ _ _;exact BT _
  |cons a r V=>
   intro L A s C;obtain⟨n,t,w⟩:=A a Ac;have E:a.key.isStr n=true:=by rw[w];simp[Value.isStr]
   have H:=C a Ac n E;rw[DI] at s;have:=V (L.erase n) (λ e h=>A e (Ad _ h)) s.2 (λ e h z k=>by
    have W:=C e (Ad _ h) z k;have Z:z≠n:=by rintro rfl;exact s.1 e h z E k
    exact(List.mem_erase_of_ne Z).mpr W)
   rw[Ea H] at this;have:0<L.length:=List.length_pos_of_mem H;simp only[Cr];omega
 refine o l L (λ e h=>N e (by simpa using h)) O λ e h n w=>Q n ?_;unfold nsFind findBy;rw[Option.isSome_map,List.find?_toArray];rw[List.find?_isSome];exact⟨e,h,w⟩
theorem VA (e:h.get? a=some o):o.isFreed=false:=(Heap.get?_some_iff.mp e).2
section
def Ep (h:Array (Option Value))(i:Nat)(v:Option Value):Array (Option Value):=(h++Array.replicate (i+1-h.size) none).setIfInBounds i v
theorem P3 (h:Array (Option Value))(i:Nat)(v:Option Value):((Ep h i v)[i]?).join=v:=by
 unfold Ep;have:i<(h++Array.replicate (i+1-h.size) none).size:=by simp only[Array.size_append,Array.size_replicate];omega
 rw[Array.getElem?_setIfInBounds_self,Ap this];rfl
theorem SP (h:Array (Option Value))(i j:Nat)(v:Option Value)(o:i<h.size)(k:j≠i):(Ep h j v)[i]? =h[i]? :=by
 unfold Ep;rw[Array.getElem?_setIfInBounds_ne k,Array.getElem?_append_left o]
theorem P2 (h:Array (Option Value))(i:Nat)(v:Option Value):i<(Ep h i v).size:=by
 unfold Ep;simp only[Array.size_setIfInBounds,Array.size_append,Array.size_replicate];omega
theorem En (h:s.heap.get? a=some o)(H:i<1000)
 (w:∀k,k.get? a=some {o with slots:=Ep o.slots i v}->Heap.SameBut a s.heap k->b () #[s,k]):wpAny M A (setSlotAt a i v) b E s:=by
 unfold setSlotAt;rw[Ak (by rw[CG];omega)];refine Aa (Af (wpAny_updatePart h (w _ ?_ (BA ..))));refine Bc (λ o=>{o with slots:=(o.slots++Array.replicate (i+1-o.slots.size) none).setIfInBounds i v}) h ?_;have z:o.isFreed=false:=VA h;obtain⟨c,d,C,N⟩:=o;cases C<;>first |rfl |exact z
theorem Ko (h:s.heap.get? a=some o)(hd:o.data=.cls b)(z:(decide ((f b).subclasses.length>sizeLine)||decide ((f b).slotNames.length>sizeLine))=false)
 (C:∀k,k.get? a=some {o with data:=.cls (f b)}->Heap.SameBut a s.heap k->g () #[s,k]):wpAny M A (updateCls a f) g E s:=by
 unfold updateCls;refine Aa (Hd h ?_);rw[hd];have e:Obj.mapCls f o={o with data:=.cls (f b)}:=by
  obtain⟨c,d,H,N⟩:=o;simp only at hd;subst hd;rfl
 have w:=Bc (h:=s.heap) (Obj.mapCls f) h (by rw[e];rfl);rw[e] at w;refine Aa (wpAny_update h (wpAny_lookBehind w (by show(if(decide ((f b).subclasses.length>sizeLine)||decide ((f b).slotNames.length>sizeLine))=true then _ else _)=_;rw[z];rfl) (C _ w (BA ..))))
theorem bU (g:GT s.heap a m)(z:(m name).isSome=true)
 (j:∀N,GT N a (KS m name)->Heap.SameBut a s.heap N->b true #[s,N]):wpAny M A (nsDel a name) b E s:=by
 obtain⟨w,O,Q,Z,c,d⟩:=g.obj;have f:w.any (·.refKey)=false:=by
  rw[F8];intro e l;obtain⟨n,t,h⟩:=Z e l;simp[DictEntry.refKey,h]
 obtain⟨i,V⟩:∃i,w.findIdx? (λ e=>e.key.isStr name)=some i:=by
  cases q:w.findIdx? (λ e=>e.key.isStr name) with
  |some i=>exact⟨i,rfl⟩
  |none=>
   exfalso;rw[<-d name,nsFind,findBy_of_findIdx?,q] at z;cases z
 have C:w.any (λ e=>e.key.isStr name)=true:=by
  rw[Array.any_eq_true];obtain⟨W,p,_⟩:=Array.findIdx?_eq_some_iff_getElem.mp V;exact⟨i,W,p⟩
 have H:nsHas name (Ic w O)=pure true:=by
  rw[nsHas_eq];unfold nsHasByArray;simp only[C,A0]
 have k:Obj.dropName name (Ic w O)=Ic (w.eraseIdxIfInBounds i) (O+1):=by
  simp only[Obj.dropName_eq,Obj.dropNameByArray,V]
 have o:=Bc (Obj.dropName name) Q (by rw[k];rfl);rw[k] at o;unfold nsDel;refine Aa (K6 Q ?_);rw[H];refine Aa (Af ?_);simp only[A0];exact Aa (wpAny_updatePart Q (Af (j _ ⟨_,_,o,Z.erase i,c.erase i,λ x=>by rw[nsFind_erase c V x,d];rfl⟩ (BA ..))))
end
theorem YU:mroOf (.type "object")=pure [.type "object"]:=⋯
theorem Pg (N:h.get? a=some o)(hd:o.data=.cls b)(w:b.mro=[.ref a,.type "object"])(V:h.Ns b.ns m)
 (C:(match m name with |some v=>pure (some v) |none=>typeLookup (.type "object") name)=pure r):Looks M h (typeLookup (.ref a) name) r:=by
 intro A Q E s k q;rw[typeLookup_eq];refine Aa (Aa (Aa (Hd (k _ _ N) ?_)));rw[hd];refine Af (Af ?_);rw[w,lookupAlong_cons];refine Aa ?_;show wpAny M A (do return <-nsGet (<-classData a).ns name) _ _ _;refine Aa (Aa (Hd (k _ _ N) ?_));rw[hd];refine Af ?_;refine B4 (V.keeps k) ?_;cases O:m name with
 |some v=>rw[O] at C;injection C with e;subst e;exact Af q
 |none=>
  rw[O] at C;have z:typeLookup (.type "object") name=pure r:=C;rw[typeLookup_eq,YU] at z;have H:lookupAlong [.type "object"] name=pure r:=z;rw[H];exact Af q
theorem JK (z:h.get? a=some o)(hd:o.data=.cls c)(w:c.mro=[.ref a,.type "object"])(C:([Value.ref a,.type "object"]:List Value).contains b=r):Looks M h (isSubtype (.ref a) b) r:=by
 intro A Q E s k q;unfold isSubtype;refine Aa (Aa (Aa (Hd (k _ _ z) ?_)));rw[hd];refine Af (Af ?_);rw[w];dsimp only;rw[Ak (_)];rw[C];exact Af q
theorem YQ:typeLookup (.type "object") "__new__"=pure (some (.builtin "object.__new__")):=by rw[Bx,AY];kernel_rfl
section
theorem SN {a:Addr}{v:Value}{c:ClassData}{g:Array GenState}{m:Str->Option Value}{os:OsState}{M:Model}{d:Drawn}{t:Nat}{b:Unit->Shared->Prop}(w:h.get? a=some o)(hd:o.data=.cls c)(k:c.mro=[.ref a,.type "object"])(z:h.Ns c.ns m)(s:m "__new__"=none)(C:(o.slots[4]?).join=some v)
 (H:b () ⟨h,g,d,t,os⟩):wpAny M A (Bind.refreshMaker a) b E ⟨h,g,d,t,os⟩:=by
 unfold Bind.refreshMaker slotAt;refine Aa (Aa (K6 w ?_));rw[C];refine Af ?_;refine BI (by rfl) ?_;refine Aa ((Pg (name:="__new__") w hd k z (by rw[s];exact YQ)).at ?_);dsimp only;refine BI {_} ?_;exact Af H
abbrev Hh (h:Str)(k:Nat)(a:Addr):Obj:={cls:=.type "member_descriptor",data:=.fields #[.str h k,.ref a,.builtin "proto.slot",.builtin "proto.slot#set",rawInt 0]}
theorem OG (k:GT s.heap a m)(L:List Str)(o:∀x,(m x).isSome=true->x∈L)(w:L.length<=1000)
 (z:∀h,GT h a (El m name v)->Heap.SameBut a s.heap h->b () #[s,h,s.toks+1]):wpAny M A (nsSetByValue a name v) b E s:=by
 obtain⟨C,W,H,N,O,Q⟩:=k.obj;unfold nsSetByValue;have Z:=RI N O L λ x V=>o x (by rw[<-Q];exact V);refine Aa (K6 H ?_);dsimp only;rw[Ak (by
  have:¬C.size>sizeLine:=by rw[CG];omega
  simp[this])]
 exact ST k z
theorem S3 {a:Addr}{j:ClassData}{g:Array GenState}{m:Str->Option Value}{os:OsState}{c:Str}{M:Model}{d:Drawn}{t:Nat}{f:Addr}{i:Unit->Shared->Prop}(y:h.get? a=some o)(hd:o.data=.cls j)(w:f≠a)(Z:GT h f m)(l:m c=none)(B:c.length<=sizeLine)(N:j.subclasses=[])(L:List Str)(D:∀x,(m x).isSome=true->x∈L)(n:L.length<=1000)
 (G:∀O p I Q,GT O f (El m c (.ref p))->O.get? a=some {o with data:=.cls {j with hasDict:=false,slotNames:=[c]}}->h.get? p=none->O.get? p=some (Hh c I a)->(∀b z,b≠a->b≠f->h.get? b=some z->O.get? b=some z)->t<=Q->i () ⟨O,g,d,Q,os⟩):
 wpAny M A (Builtin.Slots.install (.ref a) f gB (Rh c)) i E ⟨h,g,d,t,os⟩:=by
 rw[Pq];unfold Builtin.Slots.install;simp only[List.filter_nil,List.length_nil,Cr,MC,DX];refine Aa ?_;rw[Bt];refine Aa ?_;refine Aa (B4 (s:=⟨h,g,d,t,os⟩) Z.ns ?_);rw[l];refine HT (by rfl) ?_;refine Aa (wpAny_mkStr' ?_ B);refine Aa ?_;unfold newFields;refine Bj (s:=⟨h,g,d,t+1,os⟩) ?_ (by show 5<=sizeLine+2;rw[CG];omega);have q:(h.push (Hh c t a)).get? h.objs.size=some (Hh c t a):=Ar _ rfl;have J:GT (h.push (Hh c t a)) f m:=Z.keeps λ o e=>Ai _ e;have r:h.objs.size≠f:=Cy Z.lt;have u:h.objs.size≠a:=Cy (AO y);have v:(h.push (Hh c t a)).get? a=some o:=Ai _ y;have R:∀b z,h.get? b=some z->(h.push (Hh c t a)).get? b=some z:=λ b z e=>Ai _ e;refine Aa (OG (s:=⟨h.push (Hh c t a),g,d,t+1,os⟩) J L D n λ V C k=>?_);refine Af ?_;dsimp only;rw[Fv];refine Af (Aa ?_);rw[Bt];refine Aa (Aa (AA XD ?_));refine BI (by rfl) (Af ?_);dsimp only;rw[Fv];refine Af ?_;refine BI (by rw[CG];decide) ?_;refine Ko (s:=⟨V,g,d,t+1+1,os⟩) ((k.2 _ (Ne.symm w)).trans v) hd (by simp[N,CG]) λ W H s=>?_;exact G W h.objs.size t _ (C.keeps λ o e=>(s.2 _ w).trans e) H (Bl h) ((s.2 _ u).trans ((k.2 _ r).trans q)) (λ b z S T e=>(s.2 b S).trans ((k.2 b T).trans (R b z e))) (by show t<=t+1+1;omega)
end
section
abbrev We (a:Addr):Obj:={cls:=.type "super",dict:=none,data:=.fields #[.ref a,.ref a,.ref a],slots:= #[]}
theorem Tp {a:Addr}{c:ClassData}{g:Array GenState}{os:OsState}{b:Program}{d:Drawn}{t:Nat}(i:h.get? a=some o)(hd:o.data=.cls c)(N:Looks (model b w) h (isSubtype (.ref a) (.ref a)) true)
 (j:∀z,z.get? h.objs.size=some (We a)->(∀y o,h.get? y=some o->z.get? y=some o)->Q (.ref h.objs.size) ⟨z,g,d,t,os⟩):
 wpAny (model b w) A (call (.type "super") [.ref a,.ref a]) Q E ⟨h,g,d,t,os⟩:=by
 refine ks_callType_codesW (Q₁:=λ O s=>O=.ref h.objs.size/\s=⟨h.push {cls:=.type "super",data:=.fields #[.none,.none,.none]},g,d,t,os⟩) F.ks_called_super (ks_wpAny_checkTypeCall_super i hd) F.ks_entry_super_init
  (ks_code_super_new _ _ ⟨rfl,rfl⟩) λ O s V=>?_
 obtain⟨rfl,rfl⟩:=V;have Z:∀y o,h.get? y=some o->(h.push {cls:=.type "super",data:=.fields #[.none,.none,.none]}).get? y=some o:=λ y o e=>Ai _ e;have C:(h.push {cls:=.type "super",data:=.fields #[.none,.none,.none]}).get? h.objs.size=some {cls:=.type "super",dict:=none,data:=.fields #[.none,.none,.none],slots:= #[]}:=Heap.get?_push_at rfl rfl;have f:=Z _ _ i;have H:=N.keeps Z;refine⟨⟨_,C,rfl⟩,F.ks_initArgs_super _ _ _,?_⟩;unfold Builtin.«super.__init__» noKeywords
 repeat (first |(with_reducible refine ks_wpAny_isType_cls f hd ?_) |(with_reducible refine DR H ?_) |(with_reducible refine ks_wpAny_super_set3 C ?_) |wp_step)
 all_goals first
  |(intro z e k;exact⟨rfl,j z e λ y o W=>k y o (BU (AO W)) (Z y o W)⟩)
  |(refine ks_wpAny_super_set3 C ?_;intro z e k;exact⟨rfl,j z e λ y o W=>k y o (BU (AO W)) (Z y o W)⟩)
theorem Xn:classOwn (.type "object") "__init_subclass__"=pure (some (.builtin "object.__init_subclass__")):=by show pure (builtinOwn _ _)=_;rw[builtinOwn_eq_fast];kernel_rfl
theorem Qj:typeOf (.builtin "object.__init_subclass__")=pure (.type "classmethod_descriptor"):=by show builtinType _=_;rw[builtinType_eq_fast];kernel_rfl
theorem Xo:typeLookup (.type "classmethod_descriptor") "__get__"=pure (some (.builtin "classmethod_descriptor.__get__")):=I0.lookup
theorem QS {a:Addr}{M:Model}{c:Type}{b:c}{f:Value->c->Sem (ForInStep c)}{d:c->Shared->Prop}
 (o:wpAny M A (f (.type "object") b) (λ r h=>match r with | .done b=>d b h | .yield b=>d b h) E s):wpAny M A (forIn (List.drop 1 (List.dropWhile (λ x=>x !=Value.ref a) [Value.ref a,Value.type "object"])) b f) d E s:=by
 have:List.drop 1 (List.dropWhile (λ x=>x !=Value.ref a) [Value.ref a,Value.type "object"])=[.type "object"]:=by simp[List.dropWhile]
 rw[this,Bt];refine Aa (BP o (λ r h k=>?_) λ _ _ x=>x);cases r with
 |done b=>exact Af k
 |yield b=>exact Af k
abbrev Na (a:Addr):Obj:={cls:=.type "builtin_function_or_method",data:=.fields #[.builtin "object.__init_subclass__",.ref a]}
theorem Wd {a:Addr}{cd:ClassData}{g:Array GenState}{os:OsState}{b:Program}{d:Drawn}{t:Nat}{so:Addr}(f:A.handled=none)(H:h.get? a=some o)(hd:o.data=.cls cd)(s:cd.mro=[.ref a,.type "object"])(k:h.get? so=some (We a))(z:Looks (model b w) h (opaqueClassAbove (.ref a)) none)
 (N:Looks (model b w) h (isSubtype (.ref a) (.type "object")) true) (O:Q (.ref h.objs.size) ⟨h.push (Na a),g,d,t+1,os⟩):
 wpAny (model b w) A (getAttr (.ref so) "__init_subclass__") Q E ⟨h,g,d,t,os⟩:=by
 have V:Looks (model b w) h (typeOf (.ref so)) (.type "super"):=(Cf k).andThen .now;have C:=F.ks_slot_super_ga.lookup;unfold getAttr getAttrBy;refine Aa (HO (AF (Aa (DR (V) (Aa (AA C ?_))))));dsimp only;rw[Ak (by simp[onTheHeap])];unfold getAttrByItsOwn;refine Aa (AA (show hookBefore (.type "super")=pure none from rfl) ?_);refine Aa (Jm (AF ?_));unfold callGetattribute;rw[Ak (by simp[onTheHeap])];unfold boundAndCalled;rw[F.ks_slot_super_ga.bind];refine Aa (Af ?_);show wpAny _ _ (call (.builtin "super.__getattribute__") [.ref so,.str "__init_subclass__" _]) _ _ _;refine B7 (Ct F.ks_slot_super_ga.plain F.ks_entry_super_ga (F.ks_slot_super_ga.check _ _ _ _ _ _ _ _ ⟨_,k,rfl⟩ (F.ks_gaArgs_super _ _) ?_));unfold Builtin.«super.__getattribute__»;have W:Looks (model b w) h (mroOf (.ref a)) [.ref a,.type "object"]:=by
  rw[<-s];refine((Cf (part:=none) H).andThen (b:=cd) ?_).andThen .now;rw[hd];exact .now
 have Z:=EB (M:=model b w) k 0 (v:=.ref a) rfl;have c:=EB (M:=model b w) k 1 (v:=.ref a) rfl;have e:=EB (M:=model b w) k 2 (v:=.ref a) rfl
 repeat (first |with_reducible refine DR Z ?_ |with_reducible refine DR c ?_ |with_reducible refine DR e ?_ |with_reducible refine DR W ?_ |with_reducible refine QS ?_ |with_reducible refine ks_wpAny_notOpaque z ?_ |with_reducible refine AA Xn ?_ |with_reducible refine AA Qj ?_ |with_reducible refine AA Xo ?_ |with_reducible refine B7 ?_ |lk)
 rw[Ap (_)];refine Ct I0.plain Pw (I0.check _ _ _ _ _ _ _ _ (by
  first |exact Qj |(show _=_;exact Qj)) (Sl _ _ _) ?_)
 unfold Builtin.«classmethod_descriptor.__get__»
 repeat (first |with_reducible refine DR N ?_ |with_reducible refine ks_wpAny_isType_cls H hd ?_ |lk)
 exact O
variable {params:Arguments} in
def Oq (q:Str):Prop:=∀a:Addr,Bind.checkArgs "object.__init_subclass__" {machinery:=.noArgs,full:=toString q.toString++toString "."++toString (Bind.lastOf "object.__init_subclass__"),short:="__init_subclass__",receiver:=.cls,params:=[]} ⟨[.ref a],[]⟩=pure ()
theorem Vu:Oq (Str.ofString "cmp_to_key.<locals>.K"):=λ a=>⋯
theorem bC:isSubtype (.type "type") (.type "module")=pure false:=⋯
theorem Th:entryFor table "object.__init_subclass__"=some Builtin.«object.__init_subclass__»:=Jd ⋯
theorem Xp {a:Addr}{e:ClassData}{g:Array GenState}{os:OsState}{b:Program}{d:Drawn}{t:Nat}{c:Unit->Shared->Prop}(z:Oq e.qualname)(s:h.get? a=some o)(C:o.cls=.type "type")(hd:o.data=.cls e)(H:c () ⟨h,g,d,t,os⟩):
 wpAny (model b w) A (checkBoundCall "object.__init_subclass__" ⟨[.ref a],[]⟩) c E ⟨h,g,d,t,os⟩:=by
 have N:Looks (model b w) h (isInstance (.ref a) (.type "module")) false:=by
  refine(JU (a:=o.cls) ((Cf s).andThen .now) ?_);rw[C];exact A4 bC
 have O:Looks (model b w) h (classData a) e:=by
  refine(Cf (part:=none) s).andThen ?_;rw[hd];exact .now
 have Q:Looks (model b w) h (typeOf (.ref a)) (.type "type"):=by
  refine(JU (a:=o) (Cf s) ?_);rw[C];exact .now
 have k:=z a;unfold checkBoundCall
 repeat (first |with_reducible refine AA k ?_ |with_reducible refine DR N ?_ |with_reducible refine DR O ?_ |with_reducible refine DR Q ?_ |with_reducible refine ks_wpAny_isType_cls s hd ?_ |lk)
 trace_state
 all_goals (first |exact H |(refine AA k (Af ?_);exact H))
theorem Vt {a:Addr}{cd:ClassData}{g:Array GenState}{os:OsState}{c:Program}{d:Drawn}{t:Nat}{b:Addr}(k:Oq cd.qualname)(s:h.get? a=some o)(z:o.cls=.type "type")(hd:o.data=.cls cd)(H:h.get? b=some (Na a))(C:Q .none ⟨h,g,d,t,os⟩):
 wpAny (model c w) A (call (.ref b) [] []) Q E ⟨h,g,d,t,os⟩:=by
 refine B7 (Kb ?_);show wpAny _ _ (callAny (.ref b) _) _ _ _;unfold callAny
 repeat (first |refine Xp k s z hd ?_ |lk)
 refine⟨D4 _ {_},Fu Th ?_⟩;unfold Builtin.«object.__init_subclass__»
 repeat lk
 exact C
end
theorem LK {M:Model}{c a:Type}{d:Array c}{b:a}{f:c->a->Sem (ForInStep a)}{e:a->Shared->Prop}
 (k:∀x∈d,∀h:ForInStep a->Shared->Prop,h (.yield b) s->wpAny M A (f x b) h E s) (w:e b s):wpAny M A (forIn d b f) e E s:=by
 obtain⟨l⟩:=d;rw[List.forIn_toArray];have o:∀l:List c,(∀x∈l,∀h:ForInStep a->Shared->Prop,h (.yield b) s->wpAny M A (f x b) h E s)->wpAny M A (forIn l b f) e E s:=by
  intro l;induction l with
  |nil=>intro _;rw[Fv];exact Af w
  |cons x l z=>
   intro k;rw[Bt];exact Aa (k x Ac _ (z λ y C=>k y (Ad _ C)))
 exact o l λ x H=>k x (by simpa using H)
def Fq (h:Heap)(v:Value):Prop:=(∃s t,v=.str s t)\/(∃i t,v=.int i t)\/v=.none\/∃b o T,v=.ref b/\h.get? b=some o/\o.cls=.type T/\(T="function"\/T="list"\/T="tuple"\/T="member_descriptor")
theorem bH:typeLookup (.type "str") "__set_name__"=pure none:=by rw[Bx,AY];kernel_rfl
theorem bJ:typeLookup (.type "int") "__set_name__"=pure none:=by rw[Bx,AY];kernel_rfl
theorem YE:typeLookup (.type "NoneType") "__set_name__"=pure none:=by rw[Bx,AY];kernel_rfl
theorem bK:typeLookup (.type "function") "__set_name__"=pure none:=by rw[Bx,AY];kernel_rfl
theorem YF:typeLookup (.type "list") "__set_name__"=pure none:=by rw[Bx,AY];kernel_rfl
theorem bG:typeLookup (.type "tuple") "__set_name__"=pure none:=by rw[Bx,AY];kernel_rfl
theorem bI:typeLookup (.type "member_descriptor") "__set_name__"=pure none:=by rw[Bx,AY];kernel_rfl
theorem Fq.gf (x:Fq h v):Looks M h (specialOf v "__set_name__") none:=by
 rcases x with⟨s,t,rfl⟩ |⟨i,t,rfl⟩ |rfl |⟨b,o,T,rfl,k,w,z⟩
 ·exact A4 bH
 ·exact A4 bJ
 ·exact A4 YE
 ·refine JU (a:=o.cls) ((Cf k).andThen .now) ?_;rw[w];rcases z with rfl |rfl |rfl |rfl
  ·exact A4 bK
  ·exact A4 YF
  ·exact A4 bG
  ·exact A4 bI
theorem Fq.ic (x:Fq h v)(k:Value):Builtin.laidUnderItsOwnName k v=false:=by
 rcases x with⟨s,t,rfl⟩ |⟨i,t,rfl⟩ |rfl |⟨b,o,T,rfl,_⟩<;>(cases k<;>rfl)
theorem Fq.keeps (x:Fq h v)(k:∀b o,h.get? b=some o->H.get? b=some o):Fq H v:=by
 rcases x with x |x |x |⟨b,o,T,e,s,r⟩
 ·exact .inl x
 ·exact .inr (.inl x)
 ·exact .inr (.inr (.inl x))
 ·exact .inr (.inr (.inr ⟨b,o,T,e,k _ _ s,r⟩))
theorem XV {m:Str->Option Value}(z:StrKeys c)(A:UniqKeys c)(C:∀name,nsFind c name=m name)(k:e∈c):∃n t,e.key=.str n t/\m n=some e.val:=by
 obtain⟨n,t,s⟩:=z e k;refine⟨n,t,s,?_⟩;rw[<-C n];unfold nsFind findBy;obtain⟨l⟩:=c;have w:e.key.isStr n=true:=by rw[s];simp[Value.isStr]
 rw[List.find?_toArray];have o:∀l:List DictEntry,l.Pairwise (λ a b=>∀n,a.key.isStr n=true->b.key.isStr n=true->False)->e∈l->l.find? (λ x=>x.key.isStr n)=some e:=by
  intro l;induction l with
  |nil=>intro _ h;cases h
  |cons x l E=>
   intro h k;rw[DI] at h;rw[Du];rcases Ag.mp k with rfl |k
   ·rw[w]
   ·cases q:x.key.isStr n with
    |true=>exact(h.1 e k n q w).elim
    |false=>exact E h.2 k
 rw[o l A (by simpa using k)];rfl
abbrev hG (a k:Addr)(name h:Str):ClassData:={name:=name,bases:=gB,mro:=[.ref a,.type "object"],ns:=k,qualname:=h,hasDel:=false}
theorem UI {M:Model}{a:Type}{b:a}{f:Value->a->Sem (ForInStep a)}{c:a->Shared->Prop}
 (o:wpAny M A (f (.type "object") b) (λ r h=>match r with | .done b=>c b h | .yield b=>c b h) E s):wpAny M A (forIn gB b f) c E s:=by
 rw[Pq,Bt];refine Aa (BP o (λ r h k=>?_) λ _ _ x=>x);cases r with
 |done b=>exact Af k
 |yield b=>exact Af k
def Sr (k:Heap)(a:Addr)(name h s:Str)(m:Str->Option Value):Prop:=∃o z A w,k.get? a=some o/\o.cls=.type "type"/\o.dict=none/\o.data=.cls {hG a z name h with hasDict:=false,slotNames:=[s]}/\(o.slots[4]?).join=some (.builtin "object.__new__")/\
 GT k z (El (El (KS m "__qualname__") s (.ref A)) "__doc__" .none)/\k.get? A=some (Hh s w a)
local macro_rules |`(tactic|walk_at "kn")=> `(tactic|first
 |with_reducible refine Aa ?_
 |with_reducible refine AF ?_
 |with_reducible refine Af ?_
 |with_reducible refine AA V8 ?_ |with_reducible refine AA T6 ?_ |with_reducible refine AA RJ ?_ |with_reducible refine AA SF ?_ |with_reducible refine AA Kp ?_
 |with_reducible refine AA Ro ?_ |with_reducible refine AA XN ?_
 |with_reducible refine DR (by assumption) ?_
 |with_reducible refine M2 ?_
 |((with_reducible refine BI ?_ ?_);focus (rfl;done))
 |((with_reducible refine HT ?_ ?_);focus (rfl;done))
 |wp_delta)
section
theorem WS {R:Result->Shared->Prop}{g:Array GenState}{m:Str->Option Value}{os:OsState}{l:Program}{j p:Str}{d:Drawn}{t:Nat}{name:Str}{nm:Nat}{u r:Addr}{sl:Addr}{stk:Nat}(hh:A.handled=none)(hb:h.get? u=some {cls:=.type "tuple",data:=.seq #[.type "object"]})(hn:GT h r m)(d9:(r==sysModules)=false)(b1:m "__slots__"=some (.ref sl))(h6:h.get? sl=some (Fz #[.str p stk] 0))(e4:m p=none)
 (hz:p.length<=sizeLine) (h7:Builtin.Slots.isIdentifier p=some true) (h8:Builtin.Slots.mangle name p=p) (h1:(p==("__dict__":Str))=false) (h2:(p==("__weakref__":Str))=false) (h3:(p==("__del__":Str))=false) (L:List Str) (e5:(name.cps.any λ c=>decide (55296<=c)&&decide (c<=57343))=false) (e6:name.cps.contains 0=false) {y:Nat} (e7:(m "__module__").isSome=true) (c5:m "__qualname__"=some (.str j y)) (b5:m "__doc__"=none) (U:∀x:Str,x="__doc__"\/x="__eq__"\/x="__hash__"->x≠p) (b6:m "__new__"=none) (e8:m "__init_subclass__"=none) (f0:m "__class_getitem__"=none) (h9:m "__classcell__"=none) (i0:m "__classdictcell__"=none) (f1:m "__del__"=none) (i1:(m "__eq__").isSome=true) (c6:(m "__hash__").isSome=true) (i2:Oq j) (f2:∀x v,m x=some v->Fq h v) (i3:∃mc,h.Ns cStatics mc/\mc "thirdparty.any"=none)
 (hq:∀hZ a f3,(∀b o,h.get? b=some o->hZ.get? b=some o)->h.get? a=none->Sr hZ a name j p m->t<=f3->R (.ok (.ret (.ref a))) ⟨hZ,g,d,f3,os⟩) (hL:∀x,(m x).isSome=true->x∈L) (f4:L.length<=1000):
 codeAny (model l w) A (.call (.builtin "type.__new__") ⟨[.type "type",.str name nm,.ref u,.ref r],[]⟩) R ⟨h,g,d,t,os⟩:=by
 refine codeAny_call_builtin_at (D4 _ {_}) Tg (AA (Zz _ _ _) ?_);have c7:(A.under (.builtin "type.__new__" ⟨[.type "type",.str name nm,.ref u,.ref r],[]⟩)).handled=none:=hh;generalize A.under (.builtin "type.__new__" ⟨[.type "type",.str name nm,.ref u,.ref r],[]⟩)=A' at c7 ⊢;generalize i4:(λ(i5:Fin)(s':Shared)=>(match i5 with | .done f=>R (.ok f) s' | .again c'=>c'.quiet=true/\codeAny (model l w) A c' R s':Prop))=QQ;generalize (λ(e:Value)(s':Shared)=>R (.error e) s')=EE;obtain⟨es,ep,c8,hk,hu,hm⟩:=hn.obj;have L1:Looks (model l w) h (isInstance (.ref u) (.type "tuple")) true:=((Cf hb).andThen .now).andThen (A4 (by show isSubtype (.type "tuple") (.type "tuple")=_;rw[Ls];kernel_rfl));have L2:Looks (model l w) h (isInstance (.ref r) (.type "dict")) true:=((Cf c8).andThen .now).andThen (A4 (by show isSubtype (.type "dict") (.type "dict")=_;rw[Ls];kernel_rfl));have L3:Looks (model l w) h (seqItems? (.ref u)) (some #[.type "object"]):=(Cf (part:=none) hb).andThen .now;have L4:Looks (model l w) h (specialOf (.ref r) "__iter__") (some (.builtin "dict.__iter__")):=((Cf c8).andThen .now).andThen (A4 (by show typeLookup (.type "dict") "__iter__"=_;rw[Bx,AY];kernel_rfl));have L5:Looks (model l w) h (dictEntries r) es:=(Cf c8).andThen .now
 delta Builtin.«type.__new__»
 iterate 53 (try walk_at "kn")
 refine BI (by simp[d9]) ?_;refine Aa (DR L5 (Aa (DR L4 ?_)))
 wp_delta
 refine HT (_) ?_;refine Aa (Af ?_)
 wp_delta
 have f5:es.size<=sizeLine:=Ab (RI hk hu L λ x G=>hL x (by rw[<-hm];exact G)) (Ab f4 (by rw[CG];omega));obtain⟨e0,i6,f6⟩:∃e,es.find? (λ x=>x.key.isStr "__slots__")=some e/\e.val=.ref sl:=by
  have:=hm "__slots__";rw[b1] at this;unfold nsFind findBy at this;obtain⟨e,a,b⟩:=As.mp this;exact⟨e,a,b⟩
 have Y:∀x:Str,m x=none->es.any (λ e=>e.key.isStr x)=false:=λ x G=>by
  have:=hm x;rw[G] at this;unfold nsFind findBy at this;rw[Option.map_eq_none_iff,Array.find?_eq_none] at this;rw[F8];exact this
 refine Aa (AF (Q4 (A:=A') c7 i6 f6 h6 (Y _ e4) hz h7 h8 h1 h2 h3 λ Z z f7 b7 f8=>?_));refine Aa (Bj (s:=⟨Z,g,d,z,os⟩) ?_ (by unfold sizeOk;exact BD f5))
 wp_delta
 have b2:∀x:Str,(m x).isSome=true->es.any (λ e=>e.key.isStr x)=true:=λ x G=>by
  rw[<-hm] at G;unfold nsFind findBy at G;rw[Option.isSome_map,Array.find?_isSome] at G;obtain⟨e,he,hp⟩:=G;rw[Array.any_eq_true];obtain⟨i,hi,rfl⟩:=Array.mem_iff_getElem.mp he;exact⟨i,hi,hp⟩
 refine BI (by simp[b2 _ e7]) ?_;have H:GT (Z.push (Ic es 0)) Z.objs.size m:=⟨es,0,Ar _ rfl,hk,hu,hm⟩;generalize f9:Z.push (Ic es 0)=W at H ⊢;generalize a0:Z.objs.size=B at H ⊢
 wp_delta
 refine Aa ?_
 wp_delta
 refine BI (by simp only[e5];rfl) ?_;refine Af ?_
 wp_delta
 refine BI (by simp only[e6];rfl) ?_
 wp_delta
 refine Aa (B4 H.ns ?_);rw[c5]
 wp_delta
 refine Aa (B4 H.ns ?_);rw[c5]
 wp_delta
 refine Aa (AA (show asStr? (.str j y)=pure (some j) from rfl) ?_)
 wp_delta
 refine Aa (Af ?_)
 wp_delta
 refine Aa (B4 H.ns ?_);rw[b5]
 wp_delta
 refine Aa (MG ?_);have ha:(W.push {cls:=.type "type",data:=.cls {name:=name,bases:=gB,mro:=[],ns:=B,qualname:=j}}).get? W.objs.size=some {cls:=.type "type",data:=.cls {name:=name,bases:=gB,mro:=[],ns:=B,qualname:=j}}:=Ar _ rfl;have a1:GT (W.push {cls:=.type "type",data:=.cls {name:=name,bases:=gB,mro:=[],ns:=B,qualname:=j}}) B m:=H.keeps λ o e=>Ai _ e;have C:B≠W.objs.size:=BU H.lt;generalize i7:W.push {cls:=.type "type",data:=.cls {name:=name,bases:=gB,mro:=[],ns:=B,qualname:=j}}=b8 at ha a1 ⊢;generalize i8:W.objs.size=a at ha C ⊢
 wp_delta
 refine HT {_} ?_;refine Aa (En (s:=⟨b8,g,d,z,os⟩) ha {_} λ g0 c9 a2=>?_)
 wp_delta
 refine Aa (En (s:=⟨g0,g,d,z,os⟩) c9 {_} λ g1 d0 a3=>?_)
 wp_delta
 refine Aa (En (s:=⟨g1,g,d,z,os⟩) d0 {_} λ b9 d1 a4=>?_);have d2:GT b9 B m:=a1.keeps λ o e=>(a4.2 _ C).trans ((a3.2 _ C).trans ((a2.2 _ C).trans e));refine Aa (bU (s:=⟨b9,g,d,z,os⟩) d2 (by rw[c5];rfl) λ D O a5=>?_);have nv:∀x:Str,m x=none->KS m "__qualname__" x=none:=λ x G=>by unfold KS;split<;>first |rfl |exact G
 refine Aa (B4 O.ns ?_);rw[nv _ b6]
 wp_delta
 refine Aa ?_;rw[Bt];refine Aa (Aa (B4 (s:=⟨D,g,d,z,os⟩) O.ns ?_));rw[nv _ e8];refine Af ?_
 wp_delta
 rw[Bt];refine Aa (Aa (B4 (s:=⟨D,g,d,z,os⟩) O.ns ?_));rw[nv _ f0];refine Af ?_
 wp_delta
 rw[Fv];refine Af ?_;refine Aa (B4 (s:=⟨D,g,d,z,os⟩) O.ns ?_);rw[nv _ h9]
 wp_delta
 refine Aa (B4 (s:=⟨D,g,d,z,os⟩) O.ns ?_);rw[nv _ i0]
 wp_delta
 refine Aa (AA Vx ?_)
 wp_delta
 refine Aa (AA W5 ?_);refine Aa (Af ?_)
 wp_delta
 have d3:∀f:Value->Sem Bool,f (.type "object")=pure false->List.anyM f (List.filter (λ x=>x !=Value.ref a) [Value.ref a,.type "object"])=pure false:=λ f hf=>by
  have:List.filter (λ x=>x !=Value.ref a) [Value.ref a,.type "object"]=[.type "object"]:=(_)
  rw[this,List.anyM,hf];rfl
 refine Aa (AA (d3 _ ?_) ?_)
 ·kernel_rfl
 have d4:=(a5.2 _ (Ne.symm C)).trans d1;refine Aa (Ko (s:=⟨D,g,d,z,os⟩) d4 rfl (_) λ c0 a6 a7=>?_);simp only[Y _ f1,Bool.false_or] at a6;have d5:GT c0 B (KS m "__qualname__"):=O.keeps λ o e=>(a7.2 _ C).trans e;refine Aa (AA WZ ?_);refine Aa (En (s:=⟨c0,g,d,z,os⟩) a6 {_} λ c1 N a8=>?_);have I:GT c1 B (KS m "__qualname__"):=d5.keeps λ o e=>(a8.2 _ C).trans e;dsimp only at N;generalize a9:Ep (Ep (Ep (Ep #[] 0 (some (Value.ref u))) 2 (some (Value.str name nm))) 3 (some (Value.str j y))) 4 _=V at N;have g2:(V[4]?).join=some (.builtin "object.__new__"):=by rw[<-a9];exact P3 _ _ _
 have i9:4<V.size:=by rw[<-a9];exact P2 _ _ _
 clear a9;refine Aa (SN N rfl rfl I.ns (nv _ b6) g2 ?_);refine Aa (S3 N rfl C I (nv _ e4) hz rfl L (λ x G=>hL x (by unfold KS at G;split at G<;>first |cases G |exact G)) f4 λ hA md g3 J j0 j1 S j2 kA lA=>?_);refine Aa (AA Xw ?_);refine Aa (En (s:=⟨hA,g,d,J,os⟩) j1 {_} λ hB j3 d6=>?_);have g4:GT hB B (El (KS m "__qualname__") p (.ref md)):=j0.keeps λ o e=>(d6.2 _ C).trans e
 wp_delta
 refine BI (by rfl) ?_
 wp_delta
 refine BI (by rfl) ?_
 wp_delta
 refine Aa (B4 (s:=⟨hB,g,d,J,os⟩) g4.ns ?_);have e1:El (KS m "__qualname__") p (.ref md) "__doc__"=none:=by unfold El;rw[Ak (U _ (.inl rfl))];exact nv _ b5
 rw[e1]
 wp_delta
 refine HT (by rfl) ?_;refine Aa (ST (s:=⟨hB,g,d,J,os⟩) g4 λ hC b3 d7=>?_)
 wp_delta
 refine Aa (B4 (s:=⟨hC,g,d,J+1,os⟩) b3.ns ?_);have e2:∃v,El (El (KS m "__qualname__") p (.ref md)) "__doc__" .none "__eq__"=some v:=by
  unfold El KS;rw[Ak {_},Ak (U _ (.inr (.inl rfl))),Ak {_}];exact BS.mp i1
 obtain⟨v2,e2⟩:=e2;rw[e2]
 try wp_delta
 refine HT (by rfl) ?_;refine Aa (B4 (s:=⟨hC,g,d,J+1,os⟩) b3.ns ?_);have e3:∃v,El (El (KS m "__qualname__") p (.ref md)) "__doc__" .none "__hash__"=some v:=by
  unfold El KS;rw[Ak {_},Ak (U _ (.inr (.inr rfl))),Ak {_}];exact BS.mp c6
 obtain⟨v3,e3⟩:=e3;rw[e3];refine BI (by rfl) ?_
 try wp_delta
 refine Aa (UI ?_)
 try wp_delta
 try wp_delta
 refine Aa (AA (WQ _) (Af ?_))
 try wp_delta
 have b4:h.get? B=none:=by rw[<-a0];exact Fn b7
 have T:h.get? a=none:=by
  rw[<-i8,<-f9,Bh,a0];exact Fn (Ab b7 (by rw[a0];exact A6 _))
 have b0:∀b o,h.get? b=some o->hC.get? b=some o:=λ b o e=>by
  have n1:b≠B:=λ q=>by rw[q,b4] at e;cases e
  have n2:b≠a:=λ q=>by rw[q,T] at e;cases e
  have e2:W.get? b=some o:=by rw[<-f9];exact Ai _ (f7 b o e)
  have e3:b8.get? b=some o:=by rw[<-i7];exact Ai _ e2
  have e9:c1.get? b=some o:=(a8.2 b n2).trans ((a7.2 b n2).trans ((a5.2 b n1).trans ((a4.2 b n2).trans ((a3.2 b n2).trans ((a2.2 b n2).trans e3)))));exact(d7.2 b n1).trans ((d6.2 b n2).trans (kA b o n2 n1 e9))
 have M:hC.get? a=some _:=(d7.2 a (Ne.symm C)).trans j3;dsimp only at M;have c2:hC.get? md=some (Hh p g3 a):=by
  have n1:md≠B:=λ q=>by obtain⟨k2,k3,e,_⟩:=I.obj;rw[<-q,S] at e;cases e
  have n2:md≠a:=λ q=>by rw[<-q] at N;rw[S] at N;cases N
  exact(d7.2 _ n1).trans ((d6.2 _ n2).trans j2)
 have c3:((Ep V 5 (some (Value.bool ((Rh p).weak||false))))[4]?).join=some (.builtin "object.__new__"):=by rw[SP _ _ _ _ i9 {_}];exact g2
 generalize Ep V 5 (some (Value.bool ((Rh p).weak||false)))=g5 at M c3;have hK:Sr hC a name j p m:=⟨_,B,md,g3,M,rfl,rfl,rfl,c3,b3,c2⟩;obtain⟨g6,k4,j4,g7,j5,j6⟩:=id b3.obj;have L6:Looks (model l w) hC (dictEntries B) g6:=(Cf j4).andThen .now;have g8:∀e∈g6,Fq hC e.val:=λ e he=>by
  obtain⟨n,t',g9,hv⟩:=XV g7 j5 j6 he;unfold El KS at hv;split at hv
  ·exact .inr (.inr (.inl (BC hv).symm))
  ·split at hv
   ·exact .inr (.inr (.inr ⟨md,_,_,(BC hv).symm,c2,rfl,.inr (.inr (.inr rfl))⟩))
   ·split at hv
    ·cases hv
    ·exact(f2 _ _ hv).keeps b0
 have c4:∀b,b=Value.ref a\/b=.type "object"->Looks (model l w) hC (isSubtype (.ref a) b) true:=λ b hb=>JK M rfl rfl (by rcases hb with rfl |rfl<;>simp);have j7:Looks (model l w) hC (opaqueClassAbove (.ref a)) none:=by
  obtain⟨mc,j8,h0⟩:=i3;refine JU (a:=false) ?_ .now;intro A Q E s k q;refine Aa (B4 ((j8.keeps b0).keeps k) ?_);rw[h0];exact Af q
 refine Aa (wpAny_tryCatch (AF ?_))
 wp_delta
 refine Aa (DR L6 (Aa (LK (λ e he Q' d8=>?_) ?_)))
 ·obtain⟨n,t',g9⟩:=g7 e he;rw[g9];exact Aa (AA (show asStr? (.str n t')=pure (some n) from rfl) (BI (by rfl) (Af d8)))
 wp_delta
 refine BI (by rfl) ?_
 try wp_delta
 refine Aa (DR L6 (Aa (LK (λ e he Q' d8=>?_) ?_)))
 ·have hv:=g8 e he;rw[hv.ic];refine BI (by rfl) (Aa (DR hv.gf ?_));exact Af d8
 refine Aa (Tp M rfl (c4 _ (.inl rfl)) λ hD h4 kD=>?_);refine Aa (AF (Wd (cd:={hG a B name j with hasDict:=false,slotNames:=[p]}) (a:=a) (so:=hC.objs.size) (h:=hD) c7 (kD _ _ M) rfl rfl h4 (j7.keeps kD) ((c4 _ (.inr rfl)).keeps kD) ?_));have j9:(hD.push (Na a)).get? hD.objs.size=some (Na a):=Ar _ rfl;refine Aa (Vt (cd:={hG a B name j with hasDict:=false,slotNames:=[p]}) (h:=hD.push (Na a)) i2 (Ai _ (kD _ _ M)) rfl rfl j9 (Af ?_));refine Af ?_;rw[<-i4];refine hq _ a _ (λ b o e=>Ai _ (kD _ _ (b0 b o e))) T ?_ (by show t<=J+1+1;have z1:t<=z:=f8;have z2:z<=J:=lA;omega);obtain⟨o',k0,k1,h5,r1,r2,r3,r4,r5,r6,r7⟩:=hK;exact⟨o',k0,k1,h5,Ai _ (kD _ _ r1),r2,r3,r4,r5,r6.keeps λ o e=>Ai _ (kD _ _ e),Ai _ (kD _ _ r7)⟩
end
theorem bB (a b c:Value):checkTypeCall "type" ⟨[a,b,c],[]⟩=pure ():=⋯
theorem Vf:Bind.madeBy (.type "type")=pure (some "type.__new__"):=⋯
theorem WT:mroOf (.type "type")=pure [.type "type",.type "object"]:=⋯
theorem HY:PySem.Slot "type" "__init__" "type.__init__":=
 PySem.Slot.of (owner:="type") (n:="__init__") (by rw[Bx,AY];kernel_rfl) {_} {_} {_}
  (by first |exact .inl {_} |exact .inr {_}) (by rw[Ls];kernel_rfl)
theorem R9:entryFor table "type.__init__"=some Builtin.«type.__init__»:=Jd ⋯
theorem Tv (a b c d:Value):argsOk "type.__init__" ⟨[a,b,c,d],[]⟩:=by unfold argsOk;kernel_rfl
section
theorem UL {R:Result->Shared->Prop}{g:Array GenState}{os:OsState}{b:Program}{d:Drawn}{t:Nat}{name:Str}{nm:Nat}{e c:Addr}(O:A.handled=none)
 (z:∀(H:Around)(N:Result->Shared->Prop),H.handled=none->(∀s a k o,s.get? a=some o->o.cls=.type "type"->R (.ok (.ret (.ref a))) ⟨s,g,d,k,os⟩->N (.ok (.ret (.ref a))) ⟨s,g,d,k,os⟩)->codeAny (model b w) H (.call (.builtin "type.__new__") ⟨[.type "type",.str name nm,.ref e,.ref c],[]⟩) N ⟨h,g,d,t,os⟩):
 codeAny (model b w) A (.call (.type "type") ⟨[.str name nm,.ref e,.ref c],[]⟩) R ⟨h,g,d,t,os⟩:=by
 refine Kb ?_;show wpAny _ _ (callAny (.type "type") _) _ _ _;unfold callAny
 repeat lk
 refine⟨D4 _ {_},Fu entry_typeCall ?_⟩;unfold Builtin.«type.__call__»;have Q:=bB (.str name nm) (.ref e) (.ref c)
 repeat (first |with_reducible refine AA Q ?_ |with_reducible refine AA Vf ?_ |with_reducible refine AA WT ?_ |with_reducible refine B7 ?_ |lk)
 refine z _ _ O λ s a k o C E V=>?_;dsimp only;have W:Looks (model b w) s (isInstance (.ref a) (.type "type")) true:=by
  refine JU (a:=o.cls) ((Cf C).andThen .now) ?_;rw[E];exact A4 SF
 have Z:Looks (model b w) s (specialOf (.ref a) "__init__") (some (.builtin "type.__init__")):=by
  refine JU (a:=o.cls) ((Cf C).andThen .now) ?_;rw[E];exact A4 HY.lookup
 refine Aa (DR W ?_);refine BI (by rfl) (Aa (AF ?_));unfold callSpecial?;refine Aa (DR Z (AF ?_));rw[HY.bind];refine Aa (Af ?_);dsimp only;refine Aa (B7 (Ct HY.plain R9 (HY.check _ _ _ _ _ _ _ _ ⟨_,C,E⟩ (Tv _ _ _ _) ?_)));unfold Builtin.«type.__init__»
 repeat lk
 exact V
end
variable {a:Addr}{args:List Expr}{b:PV}{c r:List Stmt}{d:Pos} in
def CY (h:Addr):List Stmt->List FM
 |[]=>[]
 | .FunctionDef name args c _ _ _ V _ _ d::r=>(match args.args with
  |[a,b]=>[⟨name,a.arg,b.arg,a.pos,b.pos,c,V,d,if V.names.lookup ("mycmp":Str)==some .free then[("mycmp",h)] else[]⟩]
  |_=>[])++CY h r
 |_::r=>CY h r
theorem Rs (w:Addr):∀h:List Stmt,(CY w h).map (λ r=>(r.pos,r.name))=(CY 0 h).map (λ r=>(r.pos,r.name)):=by
 intro h;induction h with
 |nil=>rfl
 |cons s r k=>
  cases s with
  |FunctionDef name args o a b c A d e z=>
   simp only[CY,BV,k];congr 1;split<;>rfl
  |_=>simpa only[CY] using k
variable {body:List Stmt} in
structure UB (cb:List Stmt)(csc:Scope)(qual modn slotn:Str)(names:List Str):Prop where
 s1:csc.names.lookup ("__class__":Str)=none
 s2:csc.names.lookup ("__classdict__":Str)=none
 kind:csc.kind=.class
 nn:csc.names.lookup ("__name__":Str)=none
 cq:∀x,Co.contains x=true->(csc.kind== .class&&(csc.names.lookup x==some .local||(csc.names.lookup x==none&&compilersOwnNames.contains x)))=true
 kr:hasAnns cb=false
 body:∃k1 k2 k3 q1 q2 q3 q4 q5 q6 q7 q8 q9 q10,∀cc,cb=.Assign [.Name "__module__" q1] (.Constant (.str modn) k1 q2) q3::.Assign [.Name "__slots__" q4] (.List [.Constant (.str slotn) k2 q5] q6) q7::((CY cc cb).map FM.dn++[.Assign [.Name "__hash__" q8] (.Constant .none k3 q9) q10])
 qf:∀n:Str,(csc.names.lookup n==some .globalExplicit)=false
 jc:∀(env:Env)(cc:Addr),env.cells.lookup ("mycmp":Str)=some cc->closureFor csc env=pure [(("mycmp":Str),cc)]
 fz:∀cc,∀r∈CY cc cb,csc.names.lookup r.name=some .local/\(∀(l1 l2:Addr)(q:Str)(cd:Value)(f:Option Addr)(bn:Addr),closureFor r.sc {scope:=csc,locals:=l1,globals:=l2,cells:=[("mycmp",cc)],qual:=q,code:=cd,frame:=f,builtins:=bn}=pure r.clos)/\docOf r.body=none
 jf:∀cc,(CY cc cb).map (·.name)=names
 nd:names.Nodup
 pw:∀cc,(CY cc cb).Pairwise λ a b=>¬(a.pos.line=b.pos.line/\a.pos.col=b.pos.col)
 jl:∀x∈names,Co.contains x=false
 ko:names.length<=100
 jz:slotn∉names/\Co.contains slotn=false/\slotn.length<=sizeLine/\Builtin.Slots.isIdentifier slotn=some true/\Builtin.Slots.mangle "K" slotn=slotn/\(slotn==("__dict__":Str))=false/\(slotn==("__weakref__":Str))=false/\(slotn==("__del__":Str))=false/\slotn≠"__doc__"/\slotn≠"__eq__"/\slotn≠"__hash__"
 abs:∀x:Str,x="__doc__"\/x="__new__"\/x="__init_subclass__"\/x="__class_getitem__"\/x="__classcell__"\/x="__classdictcell__"\/x="__del__"->x∉names/\Co.contains x=false
 jk:("__eq__":Str)∈names
 jg:Oq qual
def MX (w:Heap)(P:Addr)(H:Array Value)(z:Pos)(h:Str)(k:List (Pos×Str)):Prop:=
 ∀A,codeAmong z H.toList=some A->∃C E o,A=.ref C/\BW w C E o/\E≠P/\Bd w A h/\∀r∈k,∃s,codeAmong r.1 o.toList=some s/\Bd w s ((h++".")++r.2)
structure Yn (W:BH)(c P:Addr)(pos:Pos)(qual:Str)(fz:List (Pos×Str)):Prop where
 mem:P∈W.TB
 get:∀h,W.dc h->∃ps,BW h c P ps/\MX h P ps pos qual fz
 fg:∀h h' jK,W.dc h->(∀b o,b≠P->h.get? b=some o->h'.get? b=some o)->BW h' c P jK->MX h' P jK pos qual fz->W.dc h'
def ZY (s:Heap)(K:Addr)(h k:Str)(w:Value)(o:List Str)(z:List FM):Prop:=
 ∃m,Sr s K "K" h k m/\(∀r∈z,∃f,m r.name=some (.ref f)/\FS s f ((h++".")++r.name) w r)/\∀x:Str,Co.contains x=false->x∉o->m x=none
theorem To (H:UB y I j J u i)(hh:A.handled=none)(c2:A.depth<recursionLimit)
 (Gk:Dh W C k mg mb) (c3:∃mc,W.h0.Ns cStatics mc/\mc "sys.recursionlimit"=none/\mc "thirdparty.any"=none)
 (d8:mb "__build_class__"=some (.builtin "__build_class__")) (d9:mg "object"=none/\mb "object"=some (.type "object")) (e0:mg "__name__"=some L)
  (KK:Yn W c P D j ((CY 0 y).map λ r=>(r.pos,r.name))) (e6:mainGlobals≠P) (c4:cStatics≠P) (e7:W.h0.BuiltinsAt mg P)
 (B:XB W V z N) (S:XS W V z N Z X s O) (b5:z.code=.ref c) (hq:qualnameIn z "K" "K"=j) (e8:z.cells.lookup ("mycmp":Str)=some p) (e9:Bz V "object"=true)
 (hQ:∀h' tk K,A8 W s.heap h'->s.toks<=tk->s.heap.get? K=none->ZY h' K j u ((mg "__name__").getD .none) i (CY p y)->wpAny W.M A (bindName z "K" (.ref K)) (λ _ s'=>M .next s') E #[s,h',tk]):
 wpAny W.M A (exec (.ClassDef "K" [.Name "object" R] [] y [] [] I none "K" [u] D) z) M E s:=by
 have G:=S.gd B;obtain⟨ps,T,TG⟩:=KK.get s.heap G.ea;obtain⟨k1,k2,k3,q1,q2,q3,q4,q5,q6,q7,q8,q9,h0,b6⟩:=H.body;obtain⟨oS,f0⟩:=Gk.ir;obtain⟨mc,f3,c5,c6⟩:=c3;obtain⟨f4,b1⟩:=AP G.am ⟨oS,f0⟩;have f5:=S.F.br;have f6:=S.F.bx;have F:=S.F;rw[arm_exec_ClassDef];refine Aa (Af (Aa (AI (Aa ?_))));unfold buildClassGuard;rw[f6];refine Aa (B4 (B2 G.am Gk.b) ?_);rw[d8];refine Af (Aa (AF (Aa ?_)));rw[AN D z [.Name "object" R] rfl];refine A1 (Av (BM Gk F G e9 (.inr d9) (AV (Aa (AI (AF ?_))))));rw[hq];have f7:s.heap.BuiltinsAt mg P:=by
  obtain⟨bm,o,a1,a2,a3,a4,a5,a6,a7,a8⟩:=e7;exact⟨bm,o,a1,a2,a3,a4,G.am.keep a5 (by rw[a6];simp) (by rw[a6];simp),a6,a7,a8⟩
 have c7:=B2 G.am f3;obtain⟨h,g,d,t,os⟩:=s;have c8:∀r∈CY p y,∃r0∈(CY 0 y).map (λ r=>(r.pos,r.name)),r0=(r.pos,r.name):=λ r hr=>by
  refine⟨(r.pos,r.name),?_,rfl⟩;rw[<-Rs p y];exact List.mem_map_of_mem (f:=λ r:FM=>(r.pos,r.name)) hr
 refine Zy (clos:=[("mycmp",p)]) (mg:=mg) (rs:=CY p y) (qf:=λ n=>(j++".")++n) H.s1 H.s2 hh f5 b5 (B2 G.am Gk.g) f7 (H.jc z p e8) T b1 H.kind H.nn e0 e6 c4 H.cq ⟨mc,c7,c5⟩ c2 (λ cv b0=>?_) H.kr (b6 p) (λ n=>by rw[H.qf n];rfl) (H.fz p) (by rw[H.jf p];exact H.nd) (H.pw p) (λ r hr=>H.jl _ (by rw[<-H.jf p];exact List.mem_map_of_mem hr)) λ h' tk c9 m Q nm lt w=>?_
 ·obtain⟨c',P',b7,e1,e2,e3,e4,e5⟩:=TG cv b0;refine⟨c',P',b7,e1,e2,e3,e4,λ r hr=>?_⟩;obtain⟨r0,b8,e⟩:=c8 r hr;have:=e5 r0 b8;rw[e] at this;exact this
 ·have b9:(c9==sysModules)=false:=by
   cases q:c9==sysModules with
   |false=>rfl
   |true=>have q':=Bo q;have d0:=w.newA;rw[q'] at d0;have d1:h.get? sysModules=some f4:=b1;rw[d1] at d0;cases d0
  have a9:∀x,x∉i->x∉(CY p y).map (·.name):=λ x hx=>by rw[H.jf p];exact hx
  have abs:∀x:Str,(x="__doc__"\/x="__new__"\/x="__init_subclass__"\/x="__class_getitem__"\/x="__classcell__"\/x="__classdictcell__"\/x="__del__")->m x=none:=λ x hx=>w.eh x (H.abs x hx).2 (a9 x (H.abs x hx).1);obtain⟨sl,f8,b2,b3⟩:=w.sl;obtain⟨h1,d2⟩:=w.qv;obtain⟨h2,d3⟩:=w.modv;obtain⟨li,h3,f9⟩:=w.lv;obtain⟨sa,h4,g0,g1⟩:=w.st;obtain⟨z1,z2,z3,z4,z5,z6,z7,z8,z9,g2,g3⟩:=H.jz;have d4:∀x∈i,∃f o,m x=some (.ref f)/\h'.get? f=some o/\o.cls=.type "function":=λ x hx=>by
   rw[<-H.jf p] at hx;obtain⟨r,hr,rfl⟩:=At.mp hx;obtain⟨f,e1,⟨cd,ct,e2,_⟩,_⟩:=w.cg r hr;exact⟨f,_,e1,e2,rfl⟩
  have g4:∀x:Str,Co.contains x=true->x="__module__"\/x="__qualname__"\/x="__firstlineno__"\/x="__slots__"\/x="__hash__"\/x="__static_attributes__":=λ x hx=>by
   have:x∈Co:=by simpa using hx
   simpa[Co] using this
  refine B7 (UL hh λ A' R' g5 g6=>WS (m:=m) (sl:=sl) (stk:=f8) (L:=Co++i) g5 w.bases w.ij b9 b2 b3 (w.eh _ z2 (a9 _ z1)) z3 z4 z5 z6 z7 z8 {_} {_} (by rw[d3];rfl) d2 (abs _ (_)) (λ x hx=>?_) (abs _ (_)) (abs _ (_)) (abs _ (_)) (abs _ (_)) (abs _ (_)) (abs _ (_)) ?_ (by rw[w.hv];rfl) H.jg (λ x v U=>?_) ⟨mc,?_,c6⟩ (λ hZ a d5 kp c0 hK l=>?_) (λ x hx=>?_) ?_)
  ·rintro rfl;rcases hx with rfl |rfl |rfl
   ·exact z9 rfl
   ·exact g2 rfl
   ·exact g3 rfl
  ·obtain⟨f,o,e,_⟩:=d4 _ H.jk;rw[e];rfl
  ·by_cases Y:Co.contains x=true
   ·rcases g4 x Y with rfl |rfl |rfl |rfl |rfl |rfl
    ·rw[d3] at U;exact .inl ⟨_,_,(BC U).symm⟩
    ·rw[d2] at U;exact .inl ⟨_,_,(BC U).symm⟩
    ·rw[f9] at U;exact .inr (.inl ⟨_,_,(BC U).symm⟩)
    ·rw[b2] at U;exact .inr (.inr (.inr ⟨_,_,"list",(BC U).symm,b3,rfl,.inr (.inl rfl)⟩))
    ·rw[w.hv] at U;exact .inr (.inr (.inl (BC U).symm))
    ·rw[g0] at U;exact .inr (.inr (.inr ⟨_,_,"tuple",(BC U).symm,g1,rfl,.inr (.inr (.inl rfl))⟩))
   ·by_cases a0:x∈i
    ·obtain⟨f,o,e1,e2,e3⟩:=d4 x a0;rw[e1] at U;exact .inr (.inr (.inr ⟨f,o,"function",(BC U).symm,e2,e3,.inl rfl⟩))
    ·rw[w.eh x (by simpa using Y) (a9 x a0)] at U;cases U
  ·obtain⟨o,es,ep,e,r⟩:=c7;exact⟨o,es,ep,w.keep _ _ c4 e,r⟩
  ·obtain⟨o',h5,h6,g9,r1,r2,r3⟩:=id hK;refine g6 hZ a d5 o' r1 r2 ?_;have kZ:∀b o,b≠P->h.get? b=some o->hZ.get? b=some o:=λ b o N e=>kp _ _ (w.keep b o N e);have c1:h.get? a=none:=by
    cases q:h.get? a with
    |none=>rfl
    |some o=>
     by_cases qP:a=P
     ·have:=w.ff.bh;rw[<-qP,c0] at this;cases this
     ·rw[w.keep _ _ qP q] at c0;cases c0
   have b4:BW hZ c P Q:=w.ff.keeps kp;obtain⟨c',P',b7,e1,e2,e3,e4,e5⟩:=w.hit;have d6:MX hZ P Q D j ((CY 0 y).map λ r=>(r.pos,r.name)):=λ cv b0=>by
    rw[e1] at b0;cases b0;refine⟨c',P',b7,rfl,e2.keeps kp,e3,e4.bh λ b o e _=>kp b o e,λ r hr=>?_⟩;rw[<-Rs p y] at hr;obtain⟨r0,b8,rfl⟩:=At.mp hr;obtain⟨g7,f1,f2⟩:=e5 r0 b8;exact⟨g7,f1,f2.bh λ b o e _=>kp b o e⟩
   have d7:∃ms,Q=ps++ms:=w.ext;have HL:A8 W h hZ:=by
    refine⟨λ b o e=>?_,λ g8=>KK.fg h hZ Q g8 kZ b4 d6⟩;by_cases qP:b=P
    ·subst qP;have e':h.get? b=some o:=e;have d0:=T.bh;have z':h.get? b=some (tabObj ps):=d0;rw[z'] at e';cases e';obtain⟨ms,rfl⟩:=d7;exact .inr (.inr ⟨KK.mem,ps,ms,rfl,b4.bh⟩)
    ·exact .inl (kZ b o qP e)
   refine Aa (Af (Aa (AI (Aa ?_))));refine BP (hQ hZ d5 a HL (Ab lt l) c1 ⟨m,hK,λ r hr=>?_,λ x Y a0=>w.eh x Y (a9 x a0)⟩) (λ _ s' h'=>Af h') λ _ _ x=>x;obtain⟨f,e1,e2,_⟩:=w.cg r hr;exact⟨f,e1,e2.bh λ b o e _=>kp b o e⟩
  ·by_cases Y:Co.contains x=true
   ·exact AT _ (by simpa using Y)
   ·by_cases a0:x∈i
    ·exact Ax _ a0
    ·rw[w.eh x (by simpa using Y) (a9 x a0)] at hx;cases hx
  ·rw[BZ];have:=H.ko;have:Co.length=6:=rfl;omega
def K0 (h k:Heap):Prop:=∀b o,h.get? b=some o->o.cls≠.type "frame"->o.cls≠.none->(∀s,o.data≠.cell s)->k.get? b=some o
theorem A8.ao (k:A8 W h H):K0 h H:=λ b o e s w _=>k.keep e s w
theorem Kg.ao (S:Kg W (Ck V z) h H)(F:FI W V z Z X h O)(C:CF z h):K0 h H:=λ b o e E f N=>S.keep b o (λ q=>by
 rcases q with rfl |⟨x,Q,s⟩
 ·obtain⟨a,g,i,k,d,_⟩:=C;rw[e] at k;cases k;exact E d
 ·obtain⟨c,j,A,⟨a,k,w⟩,_⟩:=F.cell x (.inl Q);rw[s] at A;cases A;rw[e] at k;cases k;exact N _ w) e
theorem FS.ao (x:FS h f a b r)(o:K0 h H):FS H f a b r:=by
 obtain⟨w,z,A,c,C,E,t,N,O,k,s,Q⟩:=x;exact⟨w,z,o _ _ A (_) (_) (λ _ q=>by cases q),c,C,E,t,N,o _ _ O (by rw[k];simp) (by rw[k];simp) (λ _ q=>by rw[s] at q;cases q),k,s,Q⟩
theorem Sr.ao (x:Sr h a name b c m)(k:K0 h H):Sr H a name b c m:=by
 obtain⟨o,A,C,s,E,w,N,z,O,Q,V⟩:=x;refine⟨o,A,C,s,k _ _ E (by rw[w];simp) (by rw[w];simp) (λ _ q=>by rw[z] at q;cases q),w,N,z,O,?_,k _ _ V (_) (_) λ _ q=>by cases q⟩;obtain⟨W,Z,e,r⟩:=Q.obj;exact⟨W,Z,k _ _ e (_) (_) (λ _ q=>by cases q),r⟩
theorem ZY.ao {j:Value}{g:Str}{K:Addr}{d:Str}{e:List Str}{i:List FM}(x:ZY h K g d j e i)(k:K0 h H):ZY H K g d j e i:=by
 obtain⟨m,a,b,c⟩:=x;exact⟨m,a.ao k,λ r o=>let⟨f,s,w⟩:=b r o;⟨f,s,w.ao k⟩,c⟩
section
theorem X5 (Gk:Dh W C t mg mb)(KT:UB n j i l e g)
 (fo:EF W a fd ["mycmp"] [.ClassDef "K" [.Name "object" u] [] n [] [] j none "K" [e] m,.Return (some (.Name "K" y)) D])
 (U:∃mc,W.h0.Ns cStatics mc/\mc "sys.recursionlimit"=none/\mc "thirdparty.any"=none) (a8:mb "__build_class__"=some (.builtin "__build_class__")) (a9:mg "object"=none/\mb "object"=some (.type "object")) (b0:mg "__name__"=some p)
  (KK:Yn W c P m i ((CY 0 n).map λ r=>(r.pos,r.name))) (b1:mainGlobals≠P) (b2:cStatics≠P) (b3:W.h0.BuiltinsAt mg P)
 (Z:fd.code=.ref c) (Y:fd.scope.names.lookup ("mycmp":Str)=some .cell) (a0:fd.scope.names.lookup ("K":Str)=some .local) (b4:Bz fd.scope "object"=true) (hq:fd.qualname++".<locals>."++"K"=i)
  (hA:Cg (k+1) A) (G:Gd W s) (hX:∀b∈X,W.h0.get? b=none/\∃o,s.heap.get? b=some o) (f:Value)
 (hQ:∀h' tk K T,A8 W s.heap h'->s.toks<=tk->s.heap.get? K=none->ZY h' K i e ((mg "__name__").getD .none) g (CY T n)->h'.IsCell T (some f)->W.h0.get? T=none->Q (.ref K) #[s,h',tk]):
 wpAny W.M A (call (.ref a) [f]) Q E s:=by
 refine Eg fo hA G hX (args:=[.al f]) (.al .nil) rfl λ H N I he B c0 a1 S=>?_;have b5:∀x,H.kindOf x=fd.scope.names.lookup x:=λ x=>by rw[he];rfl
 obtain⟨T,ov,J,c2,c3⟩:=S.F.cell "mycmp" (.inl Y);refine Al (To (s:=#[s,N,I]) KT (hA.down H).handled (by have:=(hA.down H).depth;show(A.deeper H).depth<1000;omega) Gk U a8 a9 b0 KK b1 b2 b3 B S (by rw[he];exact Z) ?_ J b4 λ c1 L K a2 O hK kk=>?_)
 ·unfold qualnameIn;rw[b5,a0];rw[show(some NameKind.local==some NameKind.globalExplicit)=false from rfl,Ak {_},he];exact hq
 have w:=S.ac (tk:=L) a2 O;refine wpAny_bindName (w.putName B (x:="K") (sl:=.al (.ref K)) (by unfold AR;rw[a0];decide+kernel) rfl (λ d q=>nomatch q) λ a3 M h R a4=>?_);refine Al (CW (FI.al h.F (by rw[Aw,Ap rfl]) ?_));have hk:=R.ao w.F w.fc;obtain⟨c4,c5,V,a5,a6⟩:=h.F.cell "mycmp" (.inl Y);rw[J] at V;cases V;obtain⟨v,b6,b7⟩:=a6 (.al f) (by rw[Aw,Ak {_}];exact An);have b8:v=f:=b7;subst b8;subst b6;have b9:s.heap.get? K=none:=by
  cases q:s.heap.get? K with
  |none=>rfl
  |some o=>obtain⟨o',a7⟩:=AP S.le ⟨o,q⟩;have z:N.get? K=none:=hK;rw[z] at a7;cases a7
 exact hQ a3 M K T h.le (Ab a1 (Ab O a4)) b9 (kk.ao hk) a5 (h.F.alive T (h.F.zx _ (h.F.aw _ (Bq J)))).1
end
abbrev B9 (h:FuncData)(L f:Addr):Env:=newEnv h.scope L h.globals h.closure (h.qualname++".<locals>.") (some f) h.code none h.builtins
structure Sv (W:BH)(h:Heap)(X:List Addr)(f:Addr)(fd:FuncData)(ps:List Str)(φ:AC):Prop where
 obj:∃o,h.get? f=some o/\o.data=.func fd
 dm:h.CodeRec fd.code fd.qualname
 bind:∀vals:List Value,vals.length=ps.length->bindArgs fd ⟨vals,[]⟩=pure (ps.zip vals)
 co:fd.scope.isCoroutine=false
 bc:fd.scope.isGenerator=false
 kind:fd.scope.kind=.function
 br:fd.globals=mainGlobals
 bx:fd.builtins=builtinsNs
 ca:∀x∈fd.scope.names,x.2≠.cell
 gn:∀x∈ps,CC x=true/\fd.scope.names.lookup x=some .local
 nd:ps.Nodup
 fw:∀x sl,φ.lookup x=some sl->fd.scope.names.lookup x=some .free/\CC x=true/\(∀d,sl≠.own d)
 free:∀x,fd.scope.names.lookup x=some .free->∃c ov,fd.closure.lookup x=some c/\h.IsCell c ov/\∀sl,φ.lookup x=some sl->∃v,ov=some v/\Bg W (fd.closure.map (·.2)++X) (fd.closure.map (·.2)++X) h v sl
 inj:∀x y c,fd.closure.lookup x=some c->fd.closure.lookup y=some c->x=y
 alive:∀a∈fd.closure.map (·.2),W.h0.get? a=none/\∃o,h.get? a=some o
theorem TM {h₀:Heap}(f:Str×Value->PUnit->Sem (ForInStep PUnit))(i:∀n v u,f (n,v) u=(do storeName env n v;pure (.yield ⟨⟩)))(j:env.scope.kind=.function):
 ∀(k:List (Str×Value))(m:Str->Option Value)(s:Shared)(Q:PUnit->Shared->Prop),s.heap.Ns env.locals m->CF env s.heap->(∀b o,b≠env.locals->h₀.get? b=some o->s.heap.get? b=some o)->(∀x∈k,env.kindOf x.1=some .local)->
  (∀z C,z.Ns env.locals (bindL env.kindOf k m)->CF env z->(∀b o,b≠env.locals->h₀.get? b=some o->z.get? b=some o)->s.toks<=C->Q ⟨⟩ #[s,z,C])->wpAny M A (forIn k ⟨⟩ f) Q E s
 |[],m,s,Q,H,N,w,_,h=>by rw[Fv];exact Af (h s.heap s.toks H N w (Am _))
  |(n,v)::r,m,s,Q,H,N,w,l,h=>by
   rw[Bt,i];have p:=l (n,v) Ac;refine Aa (Aa (B6 p H (λ z O V W=>Af ?_) (by rw[j];rfl)));refine TM f i j r _ #[s,z,s.toks+1] Q O (N.bi W) (λ b o q e=>(V.2 b q).trans (w b o q e)) (λ y t=>l y (Ad _ t)) λ Z C a b c d=>h Z C ?_ b c (Ab (A6 _) d);rw[bindL];have g:env.kindOf n=some .local:=p;rw[Ap g];exact a
theorem TS (D:Sv W s.heap X f fd g i)(G:Gd W s)(hX:∀b∈X,W.h0.get? b=none/\∃o,s.heap.get? b=some o)
 (r:ID W (fd.closure.map (·.2)++X) s.heap a args) (M:args.length=g.length)
 (hQ:∀k C,XB W fd.scope (B9 fd s.heap.objs.size f) s.heap->s.toks<=C->XS W fd.scope (B9 fd s.heap.objs.size f) s.heap (Ay (B9 fd s.heap.objs.size f)++X) (Ay (B9 fd s.heap.objs.size f)++X) #[s,k,C] (g.zip args++i)->j (B9 fd s.heap.objs.size f) #[s,k,C]):
 wpAny W.M A (newFunctionEnv fd.scope fd.globals fd.closure (g.zip a) (fd.qualname++".<locals>.") (some f) fd.code none fd.builtins) j E s:=by
 simp only[newFunctionEnv,Option.isSome_none,Aq,AS];refine Aa (MG ?_);rw[forIn_yield_id fd.closure (λ x S c=>by
    obtain⟨name,J⟩:=x;have:(J==NameKind.cell)=false:=by simpa using D.ca _ S
    simp only[this,Aq,AS])]
 refine Aa (Af (Aa ?_));have hk:∀b o,s.heap.get? b=some o->(s.heap.push {cls:=.type "frame",data:=.dict #[]}).get? b=some o:=λ b o e=>Ai _ e;have T:∀x∈g.zip a,fd.scope.names.lookup x.1=some .local:=λ x S=>(D.gn x.1 (ME (vs:=a) (At.mpr ⟨x,S,rfl⟩))).2;refine TM (env:=B9 fd s.heap.objs.size f) (h₀:=s.heap) _ (λ _ _ _=>rfl) D.kind (g.zip a) (λ _=>none) {s with heap:=s.heap.push {cls:=.type "frame",data:=.dict #[]}} _ (Heap.Ns.new s.heap (.type "frame")) ⟨_,_,_,Ar _ rfl,rfl,rfl⟩ (λ b o Q e=>hk b o e) T λ k C hn fc kp V=>Af ?_;have w:s.heap.get? s.heap.objs.size=none:=Bl s.heap;have m:∀b o,s.heap.get? b=some o->k.get? b=some o:=λ b o e=>kp b o (λ q=>by rw[q] at e;have e':s.heap.get? s.heap.objs.size=some o:=e;rw[w] at e';cases e') e;have p:A8 W s.heap k:=.ad m;have t:W.h0.get? s.heap.objs.size=none:=Dx G.am w;have U:∃o,k.get? s.heap.objs.size=some o:=by obtain⟨o,_,_,ho,_⟩:=hn;exact⟨o,ho⟩
 have Z:∀b,b∈Ay (B9 fd s.heap.objs.size f)↔b=s.heap.objs.size\/b∈fd.closure.map (·.2):=λ b=>Ag
 have Y:∀{b o},s.heap.get? b=some o->b≠s.heap.objs.size:=λ e q=>by rw[q,w] at e;cases e
 have B:∀b o,s.heap.get? b=some o->b∉fd.closure.map (·.2)++X->(o.cls=.type "list"\/o.cls=.type "tuple"\/o.cls=.type "dict")->k.get? b=some o/\b∉Ay (B9 fd s.heap.objs.size f)++X:=λ b o e n _=>⟨m b o e,λ q=>by
  rcases Au.mp q with q |q
  ·rcases(Z b).mp q with q |q
   ·exact Y e q
   ·exact n (AT _ q)
  ·exact n (Ax _ q)⟩
 have rr:ID W (Ay (B9 fd s.heap.objs.size f)++X) k a args:=r.bc B;have l:∀{y O},(g.zip args).lookup y=some O->fd.scope.names.lookup y=some .local:=λ H=>(D.gn _ (Fc H)).2;have N:∀{y O},(g.zip args++i).lookup y=some O->(g.zip args).lookup y=some O\/i.lookup y=some O:=λ{y O} H=>by
  rw[Hi] at H;cases q:(g.zip args).lookup y with
  |some z=>rw[q] at H;exact .inl H
  |none=>rw[q] at H;exact .inr H
 have L:∀{y d},(g.zip args++i).lookup y≠some (.own d):=λ{y d} H=>by
  rcases N H with q |q
  ·exact absurd q (ID.df rr)
  ·exact(D.fw _ _ q).2.2 d rfl
 have F:FI W fd.scope (B9 fd s.heap.objs.size f) (Ay (B9 fd s.heap.objs.size f)++X) (Ay (B9 fd s.heap.objs.size f)++X) k (g.zip args++i):={
  aw:=λ b Q=>Au.mpr (.inl Q)
  zx:=λ b Q=>Q
  kind:=D.kind
  br:=D.br
  bx:=D.bx
  dy:=λ y h=>h
  cu:=λ y h=>h
  di:=λ y h=>.inl h
  dr:=λ y h=>h
  ns:=⟨_,hn,λ y O M H=>by
   rcases N H with q |q
   ·exact(KX _ _ rr D.nd q).1 M
   ·rw[(D.fw _ _ q).1] at M;cases M⟩
  cell:=λ y H=>by
   have I:fd.scope.names.lookup y=some .free:=H.resolve_left λ q=>D.ca _ (mem_of_lookup q) rfl;obtain⟨c,ov,e1,⟨oc,a0,a1⟩,e3⟩:=D.free y I;refine⟨c,ov,e1,⟨oc,m _ _ a0,a1⟩,λ O H=>?_⟩;rcases N H with q |q
   ·rw[l q] at I;cases I
   ·obtain⟨v,e4,R⟩:=e3 O q;refine⟨v,e4,?_⟩;cases O with
    |al u=>exact R
    |bl u d=>exact⟨R.1,Rp.bc B R.2⟩
    |aa d=>exact Rp.bc B R
    |own d=>exact absurd rfl ((D.fw _ _ q).2.2 d)
  inj:=D.inj
  dk:=λ y O H=>by
   rcases N H with q |q
   ·exact⟨.inl (l q),(D.gn _ (Fc q)).1⟩
   ·exact⟨.inr (.inr (D.fw _ _ q).1),(D.fw _ _ q).2.1⟩
  alive:=λ b Q=>by
   rcases Au.mp Q with q |q
   ·rcases(Z b).mp q with q |q
    ·subst q;exact⟨t,U⟩
    ·exact⟨(D.alive b q).1,AP p (D.alive b q).2⟩
   ·exact⟨(hX b q).1,AP p (hX b q).2⟩
  bu:=λ y z d e h1 h2=>absurd h1 L}
 refine hQ k C ⟨G.am,G.ea,λ b Q=>?_⟩ V ⟨F,p,Ab G.toks V,λ b Q hz=>absurd Q hz,fc⟩;rcases Q with rfl |⟨y,H,_⟩
 ·exact w
 ·exact absurd rfl (D.ca _ (mem_of_lookup H))
theorem Se (D:Sv W s.heap X f fd c d)(O:fd.body=.stmts a)(E:W.h0.NoLimit)(Q:Cg (k+1) A)(G:Gd W s)(V:∀b∈X,W.h0.get? b=none/\∃o,s.heap.get? b=some o)
 (r:ID W (fd.closure.map (·.2)++X) s.heap vals args) (Z:args.length=c.length)
 (e:∀w h,XB W fd.scope (B9 fd s.heap.objs.size f) s.heap->s.toks<=h->XS W fd.scope (B9 fd s.heap.objs.size f) s.heap (Ay (B9 fd s.heap.objs.size f)++X) (Ay (B9 fd s.heap.objs.size f)++X) #[s,w,h] (c.zip args++d)->
  wpAny W.M (A.deeper (B9 fd s.heap.objs.size f)) (execs a (B9 fd s.heap.objs.size f)) (λ g i=>R (.ok (.ret (match g with | .ret v=>v |_=>.none))) i) (λ _ _=>False) #[s,w,h]):
 codeAny W.M A (.call (.ref f) ⟨vals,[]⟩) R s:=by
 obtain⟨o,j,hd⟩:=D.obj;have C:A.depth<recursionLimit:=by have:=Q.depth;show A.depth<1000;omega
 have N:=r.length;refine Sg C j hd D.co D.bc O D.dm ?_;rw[D.bind vals ∅];refine Af (TS D G V r Z λ w h B H S=>⟨?_,codeAny_func ?_⟩)
 ·obtain⟨l,m,n⟩:=E;exact⟨l,B2 (G.am.trans S.le) m,n⟩
 ·exact BP (e w h B H S) (λ _ _ z=>z) λ _ _ z=>z.elim
theorem Zt (D:Sv W s.heap X f fd d e)(O:fd.body=.expr a)(E:W.h0.NoLimit)(Q:Cg (k+1) A)(G:Gd W s)(V:∀b∈X,W.h0.get? b=none/\∃o,s.heap.get? b=some o)
 (r:ID W (fd.closure.map (·.2)++X) s.heap c args) (Z:args.length=d.length)
 (g:∀w h,XB W fd.scope (B9 fd s.heap.objs.size f) s.heap->s.toks<=h->XS W fd.scope (B9 fd s.heap.objs.size f) s.heap (Ay (B9 fd s.heap.objs.size f)++X) (Ay (B9 fd s.heap.objs.size f)++X) #[s,w,h] (d.zip args++e)->
  wpAny W.M (A.deeper (B9 fd s.heap.objs.size f)) (eval a (B9 fd s.heap.objs.size f)) (λ v i=>R (.ok (.ret v)) i) (λ _ _=>False) #[s,w,h]):
 codeAny W.M A (.call (.ref f) ⟨c,[]⟩) R s:=by
 obtain⟨o,j,hd⟩:=D.obj;have C:A.depth<recursionLimit:=by have:=Q.depth;show A.depth<1000;omega
 have N:=r.length;refine kla_callFunE C j hd D.co D.bc O D.dm ?_;rw[D.bind c ∅];refine Af (TS D G V r Z λ w h B H S=>⟨?_,kla_codeExpr ?_⟩)
 ·obtain⟨l,m,n⟩:=E;exact⟨l,B2 (G.am.trans S.le) m,n⟩
 ·exact BP (g w h B H S) (λ _ _ z=>z) λ _ _ z=>z.elim
open PySem.Calls Builtin.ObjectAttr Builtin.Getset_descriptor
variable {v:Value} in
structure IJ (M:Model)(h:Heap)(K md:Addr)(sn:Str)(m:Str->Option Value):Prop where
 cls:∃o cd,h.get? K=some o/\o.cls=.type "type"/\o.data=.cls cd/\cd.mro=[.ref K,.type "object"]/\cd.slotNames=[sn]/\cd.hasDel=false/\cd.abstract=false/\cd.hasDict=false/\(o.slots[4]?).join=some (.builtin "object.__new__")
 mem:∃mtk,h.get? md=some (Hh sn mtk K)
 fx:∀(name:Str) r,(match(if name=("__doc__":Str) then some Value.none else if name=sn then some (.ref md) else if name=("__qualname__":Str) then none else m name) with |some v=>pure (some v) |none=>typeLookup (.type "object") name)=(pure r:Sem (Option Value))->Looks M h (typeLookup (.ref K) name) r
theorem Sr.ask {m:Str->Option Value}{a b:Str}{M:Model}{K:Addr}{name:Str}(x:Sr h K name a b m):∃k,IJ M h K k b m:=by
 obtain⟨o,O,k,s,w,A,Q,z,C,E,H⟩:=x;exact⟨k,⟨o,_,w,A,z,rfl,rfl,rfl,rfl,rfl,C⟩,⟨s,H⟩,λ nm r N=>Pg w z rfl E.ns N⟩
section
theorem IJ.mro {m:Str->Option Value}{b:Str}{M:Model}{K a:Addr}(x:IJ M h K a b m):Looks M h (mroOf (.ref K)) [.ref K,.type "object"]:=by
 obtain⟨o,k,s,A,w,z,_⟩:=x.cls;rw[<-z];refine((Cf (part:=none) s).andThen (b:=k) ?_).andThen .now;rw[w];exact .now
theorem IJ.aj {m:Str->Option Value}{c:Str}{M:Model}{K a:Addr}(x:IJ M h K a c m){b:Value}{r:Bool}(k:([Value.ref K,.type "object"]:List Value).contains b=r):Looks M h (isSubtype (.ref K) b) r:=by
 obtain⟨o,A,s,C,w,z,_⟩:=x.cls;exact JK s w z k
theorem IJ.slots {m:Str->Option Value}{a:Str}{M:Model}{K b:Addr}(x:IJ M h K b a m):Looks M h (Slots.slotNamesOf (.ref K)) [a]:=by
 obtain⟨o,k,s,A,w,C,z,_⟩:=x.cls;rw[<-z];refine((Cf (part:=none) s).andThen (b:=k) ?_).andThen .now;rw[w];exact .now
theorem YW:typeLookup (.type "member_descriptor") "__get__"=pure (some (.builtin "member_descriptor.__get__")):=by rw[Bx,AY];kernel_rfl
theorem P9:typeLookup (.type "member_descriptor") "__set__"=pure (some (.builtin "member_descriptor.__set__")):=by rw[Bx,AY];kernel_rfl
theorem IJ.dh {m:Str->Option Value}{b:Str}{M:Model}{K a:Addr}(x:IJ M h K a b m):Looks M h (typeOf (.ref a)) (.type "member_descriptor"):=by
 obtain⟨k,e⟩:=x.mem;exact(Cf e).andThen .now
theorem IJ.gm {m:Str->Option Value}{a:Str}{M:Model}{K b:Addr}(x:IJ M h K b a m)(k:a≠"__doc__"):Looks M h (typeLookup (.ref K) a) (some (.ref b)):=x.fx a _ (by rw[Ak k,Ap rfl])
def FB (h:Heap)(x K:Addr)(v:Value):Prop:=∃k,h.get? x=some {cls:=.ref K,dict:=some k,data:=.plain,slots:= #[some v]}
theorem FB.ao {v:Value}{K:Addr}{x:Addr}(i:FB h x K v)(k:K0 h H):FB H x K v:=let⟨o,e⟩:=i;⟨o,k _ _ e (_) (_) λ _ q=>by cases q⟩
theorem FB.ty {v:Value}{M:Model}{K:Addr}{x:Addr}(i:FB h x K v):Looks M h (typeOf (.ref x)) (.ref K):=let⟨k,e⟩:=i;(Cf e).andThen .now
end
section
theorem Vo {R:Result->Shared->Prop}{v:Value}{g:Array GenState}{m:Str->Option Value}{os:OsState}{a:Program}{e:Str}{d:Drawn}{t:Nat}{K c:Addr}{x:Addr}{b:Value}(X:IJ (model a w) h K c e m)(I:FB h x K v)(s:R (.ok (.ret v)) ⟨h,g,d,t,os⟩):codeAny (model a w) A (.call (.builtin "member_descriptor.__get__") ⟨[.ref c,.ref x,b],[]⟩) R ⟨h,g,d,t,os⟩:=by
 obtain⟨o,k⟩:=X.mem;obtain⟨z,C⟩:=id I;have E:=I.ty (M:=model a w);have H:=X.aj (b:=.ref K) (r:=true) (_);have N:=X.slots;have O:=EB (M:=model a w) k 0 (v:=.str e o) rfl;have Q:=EB (M:=model a w) k 1 (v:=.ref K) rfl;have V:=EB (M:=model a w) k 2 (v:=.builtin "proto.slot") rfl;have W:=EB (M:=model a w) k 4 (v:=rawInt 0) rfl;refine Ct KF.slot_mem.plain KF.entry_mem (KF.slot_mem.check _ _ _ _ _ _ _ _ ⟨_,k,rfl⟩ (KF.args_mem _ _ _) ?_);unfold Builtin.«member_descriptor.__get__» descrGet;rw[dga_obj];refine Aa (Af ?_);unfold descrGetter descrCheckInstance descrNameAndClass isInstance
 repeat lk
 refine⟨D4 _ {_},Fu KF.entry_slot ?_⟩;unfold Builtin.«proto.slot» Slots.target
 repeat lk
 exact s
theorem Pj {v:Value}{g:Array GenState}{m:Str->Option Value}{os:OsState}{a:Program}{e:Str}{d:Drawn}{t:Nat}{K b:Addr}{x:Addr}{c:Bool}(X:IJ (model a w) h K b e m)(I:FB h x K v)(k:e≠"__doc__")(o:m "__getattribute__"=none)(s:m "__getattr__"=none)(z:("__getattribute__":Str)≠e)(C:("__getattr__":Str)≠e)(N:handedIn v=true)(O:Q v ⟨h,g,d,t+1,os⟩):
 wpAny (model a w) A (getAttr (.ref x) e c) Q E ⟨h,g,d,t,os⟩:=by
 have H:=I.ty (M:=model a w);have V:Looks (model a w) h (typeLookup (.ref K) "__getattribute__") (some (.builtin "object.__getattribute__")):=X.fx _ _ (by rw[Ak {_},Ak z,Ak {_},o];show typeLookup (.type "object") "__getattribute__"=_;rw[Bx,AY];kernel_rfl);have W:Looks (model a w) h (typeLookup (.ref K) "__getattr__") none:=X.fx _ _ (by rw[Ak {_},Ak C,Ak {_},s];show typeLookup (.type "object") "__getattr__"=_;rw[Bx,AY];kernel_rfl);have Z:=X.gm k;have f:Looks (model a w) h (getOf (some (.ref b))) (some (.builtin "member_descriptor.__get__")):=X.dh.andThen (A4 YW);have i:Looks (model a w) h (takesStores (.ref b)) true:=(X.dh.andThen (A4 P9)).andThen .now;have j:Looks (model a w) h (find (.ref x) (.ref K) e) (.bind (.builtin "member_descriptor.__get__") (.ref b)):=Z.andThen (f.andThen ((show Looks (model a w) h (dataDescriptor? (some (.ref b)) (some (.builtin "member_descriptor.__get__"))) (some (.builtin "member_descriptor.__get__",.ref b)) from i.andThen .now).andThen (Looks.tag .now)));unfold getAttr getAttrBy;refine Aa (HO (AF (Aa (H.at (Aa (V.at ?_))))));show wpAny _ _ (getAttrEveryday _ _ _) _ _ _;refine Aa (wpAny_onRaise (wpAny_runValue (Fu F.plainObj_entry_getattr_hooked ?_)));refine Aa (Af (Aa (H.at (Aa (j.at (Aa (W.at ?_)))))));show wpAny _ _ (holding [.ref b] (call (.builtin "member_descriptor.__get__") [.ref b,.ref x,.ref K]) >>=ret) _ _ _;refine Aa (AF (B7 (Vo X I (Af ?_))));show wpAny _ _ (handedOut v) _ _ _;rw[handedOut_of N];exact Af O
end
section
abbrev Pk (K h:Addr)(k:Array (Option Value)):Obj:={cls:=.ref K,dict:=some h,data:=.plain,slots:=k}
theorem Vn {R:Result->Shared->Prop}{v:Value}{g:Array GenState}{m:Str->Option Value}{os:OsState}{a:Program}{e:Str}{d:Drawn}{t:Nat}{K b:Addr}{x c:Addr}(X:IJ (model a w) h K b e m)(C:h.get? x=some (Pk K c #[]))(E:∀o,o.get? x=some (Pk K c #[some v])->Heap.SameBut x h o->R (.ok (.ret .none)) ⟨o,g,d,t,os⟩):
 codeAny (model a w) A (.call (.builtin "member_descriptor.__set__") ⟨[.ref b,.ref x,v],[]⟩) R ⟨h,g,d,t,os⟩:=by
 obtain⟨s,k⟩:=X.mem;have N:Looks (model a w) h (typeOf (.ref x)) (.ref K):=(Cf C).andThen .now;have O:=X.aj (b:=.ref K) (r:=true) (_);have Q:=X.slots;have V:=EB (M:=model a w) k 0 (v:=.str e s) rfl;have W:=EB (M:=model a w) k 1 (v:=.ref K) rfl;have Z:=EB (M:=model a w) k 3 (v:=.builtin "proto.slot#set") rfl;have f:=EB (M:=model a w) k 4 (v:=rawInt 0) rfl;refine Ct KF.slot_mset.plain KF.entry_mset (KF.slot_mset.check _ _ _ _ _ _ _ _ ⟨_,k,rfl⟩ (KF.args_mset _ _ _) ?_);unfold Builtin.«member_descriptor.__set__» descrSet descrStoreThrough descrCheckInstance descrNameAndClass isInstance;have i:Looks (model a w) h (descrItself (.ref b)) [.ref b]:=((Cf (part:=none) k).andThen .now).andThen (A4 ⋯)
 repeat lk
 refine⟨D4 _ {_},Fu KF.entry_slotset ?_⟩;unfold Builtin.«proto.slot#set» Slots.target
 repeat lk
 refine En (s:=⟨h,g,d,t,os⟩) (i:=0) C {_} λ o z H=>?_;exact Af (E o z H)
theorem Vq {v:Value}{g:Array GenState}{m:Str->Option Value}{os:OsState}{a:Program}{b:Str}{d:Drawn}{t:Nat}{K c:Addr}{x e:Addr}{f:Unit->Shared->Prop}(X:IJ (model a w) h K c b m)(O:h.get? x=some (Pk K e #[]))(z:b≠"__doc__")(C:m "__setattr__"=none)(H:("__setattr__":Str)≠b)
 (V:∀o Q,o.get? x=some (Pk K e #[some v])->Heap.SameBut x h o->t<=Q->f () ⟨o,g,d,Q,os⟩):wpAny (model a w) A (setAttr (.ref x) b v) f E ⟨h,g,d,t,os⟩:=by
 have k:=PySem.F.store_object;have s:Looks (model a w) h (typeOf (.ref x)) (.ref K):=(Cf O).andThen .now;have W:Looks (model a w) h (typeLookup (.ref K) "__setattr__") (some (.builtin "object.__setattr__")):=X.fx _ _ (by rw[Ak {_},Ak H,Ak {_},C];exact k.slot.lookup);have Z:=X.gm z;have i:Looks (model a w) h (takesStores (.ref c)) true:=(X.dh.andThen (A4 P9)).andThen .now;have j:Looks (model a w) h (storeTaker? (some (.ref c))) (some (.ref c)):=i.andThen .now;have l:=X.mro;have n:Looks (model a w) h (isInstance (.ref x) (.type "object")) true:=s.andThen (X.aj (_));unfold setAttr callSpecial? specialOf;refine Aa (HO ?_);refine Aa (Aa (Aa (s.at (W.at (AF ?_)))));rw[k.slot.bind];refine Aa (Af ?_);dsimp only;show wpAny _ _ (call (.builtin "object.__setattr__") [.ref x,.str b t,v] >>=_) _ _ _;refine Aa (B7 (Ct k.slot.plain k.entry (@check_slot (model a w) _ _ _ "object.__setattr__" "object" "__setattr__" (.ref x) [.str b _,v] [] _ k.kind k.split n (k.args (.ref x) (.str b _) v) ?_)));rw[osa_eq,refuse_eq];refine Aa (Aa (s.at (Aa (l.at ?_))));rw[refuse_only _ (show onlyObject [.ref K,.type "object"]=true from rfl)];refine Af (Aa (s.at (Aa (Z.at (Aa (j.at ?_))))));dsimp only;unfold setByDescriptor;refine Aa (wpAny_rule (Aa (AF (Aa (Aa (X.dh.at ((A4 P9).at (AF ?_))))))));rw[KF.slot_mset.bind];refine Aa (Af (Aa (B7 (Vn X O λ o N p=>?_))));dsimp only
 repeat lk
 exact V o _ N p (A6 _)
end
theorem IJ.gb {m:Str->Option Value}{b:Str}{M:Model}{K a:Addr}(X:IJ M h K a b m):Makes M h K:=by
 obtain⟨o,V,z,Z,c,d,n,e,f,p,g⟩:=X.cls;obtain⟨i,r,j,l⟩:=o;have C:i=.type "type":=Z;have H:j=.cls V:=c;subst C;subst H;have W:=X.mro;have w:Looks M h (Bind.madeBy (.ref K)) (some "object.__new__"):=by
  intro A Q E s k q;unfold Bind.madeBy;refine Aa (W A _ E s k ?_);rw[Bt];refine Aa (Aa (Aa (Aa (Aa (K6 (k _ _ z) (Af ?_))))));dsimp only;have N:(l[4]?).join=some (.builtin "object.__new__"):=g;rw[N];exact Af (Af (Af (Af q)))
 refine⟨⟨_,_,V,_,z,f,e,by rw[d];rfl⟩,w,?_,X.aj (_),X.aj (_),?_,?_⟩
 ·intro A Q E s k q;unfold Bind.staticBase;refine Aa (W A _ E s k ?_);rw[Bt];exact Aa (Aa (Aa (w A _ E s k (Af (Af (Af q))))))
 ·have O:Looks M h (typeOf (.ref K)) (.type "type"):=(Cf z).andThen .now;unfold specialOf;exact O.andThen (A4 (by show typeLookup (.type "type") "__call__"=_;rw[Bx,AY];kernel_rfl))
 ·have O:Looks M h (typeOf (.ref K)) (.type "type"):=(Cf z).andThen .now;unfold isInstance;exact O.andThen (A4 (by rw[Ls];kernel_rfl))
theorem Ve {R:Result->Shared->Prop}{a:List Value}{m:Str->Option Value}{K c:Addr}{b:Addr}(X:IJ W.M s.heap K c "obj" m)(k:m "__init__"=some (.ref b))(w:∃o,s.heap.get? b=some o/\o.cls=.type "function")
 (z:codeAny W.M (A.under (.builtin "type.__call__" ⟨.ref K::a,[]⟩)) (.call (.ref b) ⟨.ref (s.heap.objs.size+1)::a,[]⟩) (InitBack (s.heap.objs.size+1) R) #[s,(s.heap.push emptyDict).push (instObj K s.heap.objs.size)]):
 codeAny W.M A (.call (.ref K) ⟨a,[]⟩) R s:=by
 obtain⟨C,g,d,t,os⟩:=s;obtain⟨o,E,H⟩:=w;refine make_core (init:=.ref b) X.gb (X.fx "__init__" _ (by rw[Ak {_},Ak {_},Ak {_},k])) (λ h=>?_) (.inl rfl) z;have N:Looks W.M C (typeOf (.ref b)) (.type "function"):=by rw[<-H];exact(Cf E).andThen .now
 unfold bindSpecial;exact N.andThen (A4 ⋯)
theorem Sz (K:Addr)(h:List Value):(Code.builtin "type.__call__" ⟨.ref K::h,[]⟩).weight=1:=rfl
theorem UK (K:Addr)(h:List Value):(Code.builtin "type.__call__" ⟨.ref K::h,[]⟩).cUnits=1:=rfl
theorem Cg.new (o:Cg (k+1) A)(K:Addr)(h:List Value):Cg k (A.under (.builtin "type.__call__" ⟨.ref K::h,[]⟩)) where
 handled:=o.handled
 depth:=by have:=o.depth;show A.depth+(Code.builtin "type.__call__" ⟨.ref K::h,[]⟩).weight+_<_;rw[Sz];omega
 units:=by have:=o.units;show A.units+(Code.builtin "type.__call__" ⟨.ref K::h,[]⟩).cUnits+_<_;rw[UK];omega
structure Sq (r:FM):Prop where
 co:r.sc.isCoroutine=false
 bc:r.sc.isGenerator=false
 kind:r.sc.kind=.function
 ca:∀x∈r.sc.names,x.2≠.cell
 gn:∀x∈[r.x,r.y],CC x=true/\r.sc.names.lookup x=some .local
 nd:[r.x,r.y].Nodup
 jv:∀(qual:Str)(clos:List (Str×Addr))(pm cd ct a b:Value),bindArgs (Tm r.name qual (Jn r.x r.y r.px r.py) r.body r.sc clos pm cd ct) ⟨[a,b],[]⟩=pure [(r.x,a),(r.y,b)]
theorem Sq.jb (T:Sq r)(x:FS h f e g r)
 (A:∀x k,φ.lookup x=some k->r.sc.names.lookup x=some .free/\CC x=true/\(∀d,k≠.own d))
 (s:∀x,r.sc.names.lookup x=some .free->∃c E,r.clos.lookup x=some c/\h.IsCell c E/\∀k,φ.lookup x=some k->∃v,E=some v/\Bg W (r.clos.map (·.2)++X) (r.clos.map (·.2)++X) h v k)
 (C:∀x y c,r.clos.lookup x=some c->r.clos.lookup y=some c->x=y) (alive:∀a∈r.clos.map (·.2),W.h0.get? a=none/\∃o,h.get? a=some o):
 ∃z,z.body=.stmts r.body/\z.scope=r.sc/\z.closure=r.clos/\Sv W h X f z [r.x,r.y] φ:=by
 obtain⟨H,N,O,Q⟩:=x;refine⟨_,rfl,rfl,rfl,⟨_,O,rfl⟩,Q.dm,λ w V=>?_,T.co,T.bc,T.kind,rfl,rfl,T.ca,T.gn,T.nd,A,s,C,alive⟩
 match w,V with
 |[a,b],_=>exact T.jv e r.clos g H N a b
section
def dR (h:List Str):Prop:=("__getattribute__":Str)∉h/\("__getattr__":Str)∉h/\("__setattr__":Str)∉h
theorem YV {l v:Value}{n p u I:Pos}{i:Str}{K:Addr}{f:List Str}{j:List FM}(KK:ZY s.heap K i "obj" l f j)(U:dR f){r:FM}(hr:r∈j)(hn:r.name="__init__")(T:Sq r)(h:r.clos=[])(w:∀x,r.sc.names.lookup x≠some .free)
 (hb:r.body=[.Assign [.Attribute (.Name r.x n) "obj" p] (.Name r.y u) I]) (Y:r.x≠r.y) (hA:Cg (k+2) A) (G:Gd W s) (H:W.h0.NoLimit)
 (hQ:∀h' tk x,A8 W s.heap h'->s.toks<=tk->s.heap.get? x=none->FB h' x K v->Q (.ref x) #[s,h',tk]):
 wpAny W.M A (call (.ref K) [v]) Q E s:=by
 obtain⟨m,kc,a0,N⟩:=KK;obtain⟨md,X⟩:=kc.ask (M:=W.M);obtain⟨fI,O,im⟩:=a0 r hr;rw[hn] at O;have a1:∃o,s.heap.get? fI=some o/\o.cls=.type "function":=by obtain⟨cd,ct,ho,_⟩:=im;exact⟨_,ho,rfl⟩
 refine B7 (Ve X O a1 ?_);have kp:∀b o,s.heap.get? b=some o->((s.heap.push emptyDict).push (instObj K s.heap.objs.size)).get? b=some o:=λ b o e=>Ai _ (Ai _ e);have z:A8 W s.heap ((s.heap.push emptyDict).push (instObj K s.heap.objs.size)):=.ad kp;have kk:K0 s.heap ((s.heap.push emptyDict).push (instObj K s.heap.objs.size)):=λ b o e _ _ _=>kp b o e;have hx:((s.heap.push emptyDict).push (instObj K s.heap.objs.size)).get? (s.heap.objs.size+1)=some (Pk K s.heap.objs.size #[]):=by
  rw[show s.heap.objs.size+1=(s.heap.push emptyDict).objs.size from(Bh _ _).symm];exact Ar _ rfl
 have V:s.heap.get? (s.heap.objs.size+1)=none:=by
  cases e:s.heap.get? (s.heap.objs.size+1) with
  |none=>rfl
  |some o=>exact absurd (AO e) (EM.mpr (A6 _))
 obtain⟨fd,b1,b2,b3,D⟩:=T.jb (W:=W) (X:=[]) (φ:=[]) (im.ao kk) (λ x sl q=>by cases q) (λ x q=>absurd q (w x)) (λ x y c q=>by rw[h] at q;cases q) (λ a q=>by rw[h] at q;cases q);have G':Gd W #[s,(s.heap.push emptyDict).push (instObj K s.heap.objs.size)]:=⟨G.am.trans z,z.2 G.ea,G.toks⟩;have a6:fd.closure=[]:=by rw[b3,h]
 refine Se (k:=k) D b1 H (hA.new K [v]) G' (λ b q=>by cases q) (vals:=[.ref (s.heap.objs.size+1),v]) (args:=[.al (.ref (s.heap.objs.size+1)),.al v]) (.al (.al .nil)) rfl λ Z a2 B J S=>?_;rw[hb];refine Al (plainObj_wpAny_Assign_Attribute (FI.al S.F (v:=v) ?_ (FI.al S.F (v:=.ref (s.heap.objs.size+1)) ?_ ?_)))
 ·rw[Cj];show List.lookup r.y [(r.x,_),(r.y,_)]=_;rw[Aj Y.symm,An]
 ·rw[Cj];exact An
 have k1:=S.le.ao;have a3:=(kc.ao kk).ao k1;have L:Z.get? (s.heap.objs.size+1)=some (Pk K s.heap.objs.size #[]):=S.le.keep hx (_) (_);obtain⟨a7,X'⟩:=a3.ask (M:=W.M);have a4:m "__setattr__"=none:=N _ {_} U.2.2;obtain⟨hh,g,d,t,os⟩:=s;refine Vq X' L {_} a4 {_} λ M C a5 sb R=>?_;refine AZ ⟨rfl,?_⟩;refine hQ M C _ ?_ (Ab J R) V ⟨_,a5⟩;exact(z.trans S.le).az V (λ o vs e q=>by rw[L] at e;cases e;cases q) sb
end
section
theorem GH {x y:Str}{a:Type}{v:a}:List.lookup y [(x,v)]=if y=x then some v else none:=by
 by_cases h:y=x
 ·subst h;rw[Ap rfl,An]
 ·rw[Ak h,Aj h];rfl
def Ot (w:BH)(z:Nat)(k:Heap)(f:Addr)(c:Value->Value->Option Int):Prop:=
 (∃C,∀h,A8 w k h->∃o,h.get? f=some o/\o.data=.func C)/\
 ∀A s u v n,Cg z A->A8 w k s.heap->Gd w s->c u v=some n->BR w A (call (.ref f) [u,v]) s (λ r _=>∃t,r=.int n t)
theorem Ot.ac (x:Ot W k d f c)(o:A8 W d g):Ot W k g f c:=
 ⟨let⟨w,e⟩:=x.1;⟨w,λ h z=>e h (o.trans z)⟩,λ A s u v n a b=>x.2 A s u v n a (o.trans b)⟩
theorem WV {f K:Addr}{I v:Value}{kk:Nat}{p1 Y p3 p4 p5 p6:Pos}{m:Str->Option Value}{L:CmpOp}{j:Str}{i:List Str}{J:List FM}(KK:ZY s.heap K j "obj" I i J)(a1:dR i){r:FM}(hr:r∈J)(T:Sq r){p:Addr}(C:r.clos=[(("mycmp":Str),p)])(V:r.sc.names.lookup ("mycmp":Str)=some .free)(H:∀x,r.sc.names.lookup x=some .free->x="mycmp")
 {M R U:Pos} (hb:r.body=[.Return (some (.Compare (.Call (.Name "mycmp" p1) [.Attribute (.Name r.x Y) "obj" p3,.Attribute (.Name r.y p4) "obj" p5] [] p6) [L] [.Constant (.int 0) kk M] R)) U]) (b6:r.x≠r.y)
 (b7:r.x≠"mycmp") (b8:r.y≠"mycmp") (hA:Cg (k+2) A) (G:Gd W s) (a2:W.h0.NoLimit) {l:Addr} (b9:s.heap.IsCell p (some (.ref l))) (c0:W.h0.get? p=none) {c:Value->Value->Option Int} (hf:Ot W k s.heap l c)
 {x y:Addr} {u:Value} {n:Int} {b:Bool} (ix:FB s.heap x K u) (iy:FB s.heap y K v) (hu:handedIn u=true) (hv:handedIn v=true) (hn:c u v=some n) (c1:IG L (.int n) (.int 0)=some b) (d3:m r.name=some (.ref f)) (c2:FS s.heap f ((j++".")++r.name) I r):
 BR W A (call (.ref f) [.ref x,.ref y]) s (λ v _=>v=.bool b):=λ Q E hQ=>by
 obtain⟨oc,a3,c3⟩:=b9;obtain⟨fd,b1,b2,b3,D⟩:=T.jb (W:=W) (X:=[]) (φ:=[(("mycmp":Str),.al (.ref l))]) c2 (λ z sl q=>by
  rw[GH] at q;split at q
  ·rename_i e;subst e;cases q;exact⟨V,{_},λ d q=>nomatch q⟩
  ·cases q) (λ z q=>by
  have:=H z q;subst this;refine⟨p,some (.ref l),by rw[C];exact An,⟨oc,a3,c3⟩,λ sl q=>?_⟩;rw[An] at q;cases q;exact⟨_,rfl,rfl⟩) (λ a b d q1 q2=>by
  rw[C,GH] at q1 q2;split at q1
  ·split at q2
   ·rename_i e1 e2;rw[e1,e2]
   ·cases q2
  ·cases q1) (λ a q=>by
  rw[C] at q;rcases Ag.mp q with q |q
  ·subst q;exact⟨c0,oc,a3⟩
  ·cases q)
 refine B7 (Se (k:=k+1) D b1 a2 hA G (λ b q=>by cases q) (vals:=[.ref x,.ref y]) (args:=[.al (.ref x),.al (.ref y)]) (.al (.al .nil)) rfl λ h o B a4 S=>?_);rw[hb];have lx:([r.x,r.y].zip [BL.al (.ref x),BL.al (.ref y)]++[(("mycmp":Str),BL.al (.ref l))]).lookup r.x=some (.al (.ref x)):=An;have ly:([r.x,r.y].zip [BL.al (.ref x),BL.al (.ref y)]++[(("mycmp":Str),BL.al (.ref l))]).lookup r.y=some (.al (.ref y)):=by
  show List.lookup r.y [(r.x,_),(r.y,_),_]=_;rw[Aj b6.symm,An]
 have lm:([r.x,r.y].zip [BL.al (.ref x),BL.al (.ref y)]++[(("mycmp":Str),BL.al (.ref l))]).lookup ("mycmp":Str)=some (.al (.ref l)):=by
  show List.lookup _ [(r.x,_),(r.y,_),_]=_;rw[Aj b7.symm,Aj b8.symm,An]
 have N:Cg (k+1) (A.deeper (B9 fd s.heap.objs.size f)):=hA.down _;have c4:(A.deeper (B9 fd s.heap.objs.size f)).units<9000:=by have:=N.units;omega
 have K1:ZY h K j "obj" I i J:=KK.ao S.le.ao;obtain⟨m1,kc,_,O⟩:=K1;obtain⟨md,Xk⟩:=kc.ask (M:=W.M);have c5:=ix.ao S.le.ao;have c6:=iy.ao S.le.ao;have a5:m1 "__getattribute__"=none:=O _ {_} a1.1;have a6:m1 "__getattr__"=none:=O _ {_} a1.2.1;obtain⟨⟨c7,c8⟩,Z⟩:=hf.ac S.le;obtain⟨hh,g,d,t,os⟩:=s;refine Al (CW (wpAny_Compare1 (BG (FI.al S.F lm ?_)) (by rfl)));rw[AN p6 _ [.Attribute (.Name r.x Y) "obj" p3,.Attribute (.Name r.y p4) "obj" p5] rfl];obtain⟨om,c9,d0⟩:=c8 h (.refl _);refine Cm (o:=om) (fd:=c7) (A1 (Av (Attribute_name (FI.al S.F lx (Pj Xk c5 {_} a5 a6 {_} {_} hu ?_)))));refine Av (Attribute_name (FI.al (s:=⟨h,g,d,o+1,os⟩) S.F ly (Pj Xk c6 {_} a5 a6 {_} {_} hv (AV ⟨⟨c9,d0⟩,?_⟩))));have G1:Gd W ⟨h,g,d,o+1+1,os⟩:=⟨B.am.trans S.le,S.le.2 B.ea,Ab S.tk (BD (A6 _))⟩;refine Z _ ⟨h,g,d,o+1+1,os⟩ u v n ⟨N.handled,by have:=N.depth;omega,by have:=N.units;omega⟩ (.refl _) G1 hn _ _ λ rv a7 w a8 a9 d1=>?_;obtain⟨t',rfl⟩:=d1;refine wpAny_Constant_int ?_;have:=BR.of (W:=W) (A:=A.deeper (B9 fd hh.objs.size f)) (s:=⟨a7,g,d,w+1,os⟩) (t:=compareOp L (.int n t') (.int 0 w)) (P:=λ v h'=>v=.bool b) λ Q E hQ=>Ii (X:=[]) c4 (.int n t') (.inl (.int 0 w)) c1 λ tk=>hQ _ _ tk (.refl _) rfl;refine this _ _ λ v3 b0 a0 b4 b5 d2=>?_;subst d2;exact hQ _ b0 a0 (S.le.trans (a8.trans b4)) (Ab a4 (Ab (BD (A6 _)) (Ab a9 (Ab (A6 _) b5)))) rfl
end
variable {body:List Stmt} in
structure Z0 (r:FM)(cc:Addr)(op:CmpOp):Prop where
 jt:Sq r
 jc:r.clos=[(("mycmp":Str),cc)]
 fr:r.sc.names.lookup ("mycmp":Str)=some .free
 fr':∀x,r.sc.names.lookup x=some .free->x="mycmp"
 ne:r.x≠r.y/\r.x≠"mycmp"/\r.y≠"mycmp"
 body:∃p1 p2 p3 p4 p5 p6 p7 p8 p9,∃kk:Nat,r.body=[.Return (some (.Compare (.Call (.Name "mycmp" p1) [.Attribute (.Name r.x p2) "obj" p3,.Attribute (.Name r.y p4) "obj" p5] [] p6) [op] [.Constant (.int 0) kk p7] p8)) p9]
structure UC (cb:List Stmt)(names:List Str):Prop where
 abs:dR names
 init:∀cc,∃r∈CY cc cb,r.name="__init__"/\Sq r/\r.clos=[]/\(∀x,r.sc.names.lookup x≠some .free)/\r.x≠r.y/\∃p1 p2 p3 p4,r.body=[.Assign [.Attribute (.Name r.x p1) "obj" p2] (.Name r.y p3) p4]
 lt:∀cc,∃r∈CY cc cb,r.name="__lt__"/\Z0 r cc .Lt
 gt:∀cc,∃r∈CY cc cb,r.name="__gt__"/\Z0 r cc .Gt
def Ha (w:BH)(C:Nat)(o:Heap)(K:Addr)(c:Value->Value->Option Int):Prop:=
 ∃z k E h s A,UC z h/\ZY o K k "obj" E h (CY s z)/\o.IsCell s (some (.ref A))/\w.h0.get? s=none/\Ot w C o A c
section
theorem Ha.ac {K:Addr}{c:Value->Value->Option Int}(L:Ha W k h K c)(w:A8 W h H):Ha W k H K c:=
 let⟨z,s,A,o,C,E,a,b,d,e,f⟩:=L;⟨z,s,A,o,C,E,a,b.ao w.ao,E6 w d,e,f.ac w⟩
theorem Ha.ia {K:Addr}{c:Value->Value->Option Int}(L:Ha W k s.heap K c)(N:Cg (k+2) A)(G:Gd W s)(h:W.h0.NoLimit)(v:Value):BR W A (call (.ref K) [v]) s (λ r o=>∃x,r=.ref x/\s.heap.get? x=none/\FB o x K v):=λ Q E O=>by
 obtain⟨m,C,n,w,V,p,st,Z,_⟩:=L;obtain⟨r,a,b,T,d,e,z,q,t,u,y,f⟩:=st.init V;exact YV Z st.abs a b T d e f z N G h λ o g x H l j i=>O _ o g H l ⟨x,rfl,j,i⟩
theorem ZM (w:Looks M s.heap (typeOf (.ref x)) c)(z:Looks M s.heap (typeLookup c name) (some (.ref f)))(C:Looks M s.heap (typeOf (.ref f)) (.type "function"))
 (H:wpAny M A (call (.ref f) [.ref x,b]) (λ v=>a (some v)) E s):wpAny M A (callSpecialIfBound? (.ref x) name [b]) a E s:=by
 have o:Looks M s.heap (bindSpecial (.ref f) (.ref x)) (.ref f,[.ref x]):=by
  unfold bindSpecial;exact C.andThen (A4 ⋯)
 simp only[callSpecialIfBound?,bindSpecialIfBound?];refine AF (Aa (Aa (Aa (w.here (z.here ?_)))));refine Aa (wpAny_askSetting (wpAny_ite ?_));have h:wpAny M A (call (.ref f) ([.ref x]++[b]) >>=λ v=>pure (some v)) a E s:=Aa (BP H (λ v N k=>Af k) λ _ _ k=>k);split
 ·exact Aa (o.here (Af (by exact h)))
 ·exact wpAny_tryCatch (Aa (o.here (Af (by exact h))))
theorem Ha.cg {v:Value}{op:CmpOp}{K:Addr}{c:Value->Value->Option Int}(L:Ha W k s.heap K c){name:Str}(z:∀V h,UC V h->∀Z,∃r∈CY Z V,r.name=name/\Z0 r Z op)(o:name≠"__doc__"/\name≠"obj"/\name≠"__qualname__")(J:Cg (k+2) A)(G:Gd W s)(C:W.h0.NoLimit){x y:Addr}{u:Value}{n:Int}{b:Bool}
 (t:FB s.heap x K u) (M:FB s.heap y K v) (R:handedIn u=true) (S:handedIn v=true) (U:c u v=some n) (i:IG op (.int n) (.int 0)=some b) {a:Option Value->Shared->Prop}
 (Y:∀d g,A8 W s.heap d->s.toks<=g->a (some (.bool b)) #[s,d,g]):wpAny W.M A (callSpecialIfBound? (.ref x) name [.ref y]) a E s:=by
 obtain⟨V,B,pm,h,Z,fm,st,D,w,j,hf⟩:=L;obtain⟨r,I,p,T⟩:=z V h st Z;obtain⟨p1,p2,p3,p4,p5,p6,p7,p8,p9,kn,hb⟩:=T.body;obtain⟨m,kc,q,_⟩:=id D;obtain⟨md,X⟩:=kc.ask (M:=W.M);obtain⟨f,N,O⟩:=q r I;have Q:=N;rw[p] at Q;have L2:Looks W.M s.heap (typeLookup (.ref K) name) (some (.ref f)):=X.fx name _ (by rw[Ak o.1,Ak o.2.1,Ak o.2.2,Q]);have L3:Looks W.M s.heap (typeOf (.ref f)) (.type "function"):=by obtain⟨cd,ct,ho,_⟩:=O;exact(Cf ho).andThen .now
 refine ZM t.ty L2 L3 (WV D st.abs I T.jt T.jc T.fr T.fr' hb T.ne.1 T.ne.2.1 T.ne.2.2 J G C w j hf t M R S U i N O _ _ λ r' d g H l e=>?_);subst e;exact Y d g H l
theorem Ha.lt {v:Value}{K:Addr}{c:Value->Value->Option Int}(L:Ha W k s.heap K c)(w:Cg (k+2) A)(G:Gd W s)(h:W.h0.NoLimit){x y:Addr}{u:Value}{n:Int}
 (z:FB s.heap x K u) (C:FB s.heap y K v) (N:handedIn u=true) (O:handedIn v=true) (V:c u v=some n):BR W A (keyLt' oneType' (.ref x) (.ref y)) s (λ b _=>b=decide (n<0)):=λ Q E Z=>by
 rw[keyLt'_oneType,oneLt'_eq];simp only[A0];refine Aa (wpAny_cRoomFor (by have:=w.units;show A.units<9900;omega) ?_);refine Aa (L.cg (op:=.Lt) (name:="__lt__") (b:=decide (n<0)) (λ f o st a=>st.lt a) ⟨{_},{_},{_}⟩ w G h z C N O V (by rfl) λ d e H l=>?_);exact CV (Z _ d e H l rfl)
end
def PE (i j:Nat)(h st:List Nat):List Nat×List Nat:=
 let k:=h.getD j 0
 let o:=st.getD j 0
 (h.map λ r=>if r.testBit i then r|||k else r,List.zipWith (λ r q=>q|||((if q.testBit i then k else 0)|||(if r.testBit i then o else 0))) h st)
def PF (i j:Nat)(h st:List Nat):List Nat×List Nat:=
 let k:=h.getD j 0
 (h.map λ r=>if r.testBit i then r|||k else r,List.zipWith (λ r q=>q|||(if r.testBit i then k else 0)) h st)
variable {a:Addr}{r:List Stmt} in
def MM (h st:List Nat):List Nat->Bool
 |[]=>true
 |a::r=>r.all (λ b=>(st.getD a 0).testBit b||((h.getD a 0).testBit b&&decide (a<b)))&&MM h st r
variable {i j:Nat}{st:Stmt}{p:JV} in
def aQ (n:Nat):KasT (Array Nat)->List Nat->List Nat->Bool
 | .ret p,h,st=>(p.toList.length==n)&&(List.range n).all (λ x=>p.toList.contains x)&&MM h st p.toList
 | .ask i j k,h,st=>decide (i<n)&&decide (j<n)&&
   (if(st.getD i 0).testBit j then aQ n (k true) h st else if(h.getD j 0).testBit i then aQ n (k false) h st
    else aQ n (k true) (PF i j h st).1 (PF i j h st).2&&aQ n (k false) (PE j i h st).1 (PE j i h st).2)
def hF (n:Nat):Bool:=aQ n (kas_sort n) ((List.range n).map λ i=>2^i) ((List.range n).map λ _=>0)
theorem ZA:∀n,n<7->2<=n->hF n=true:={_}
structure LB (n:Nat)(lt:Nat->Nat->Bool):Prop where
 jd:∀i j,i<n->j<n->lt i j=true->lt j i=false
 trans:∀i j l,i<n->j<n->l<n->lt j i=false->lt l j=false->lt l i=false
structure Os (n:Nat)(lt:Nat->Nat->Bool)(le st:List Nat):Prop where
 w:∀x y,x<n->(le.getD x 0).testBit y=true->y<n/\lt y x=false
 s:∀x y,x<n->(st.getD x 0).testBit y=true->y<n/\lt x y=true
 ll:le.length=n
 ls:st.length=n
section
theorem LB.sw (k:LB n c)(o:i<n)(s:j<n)(w:l<n)(a:c i j=true)(b:c l j=false):c i l=true:=by
 cases h:c i l with
 |true=>rfl
 |false=>have:=k.trans j l i s w o b h;rw[a] at this;cases this
theorem LB.ws (k:LB n c)(o:i<n)(s:j<n)(w:l<n)(a:c j i=false)(b:c j l=true):c i l=true:=by
 cases h:c i l with
 |true=>rfl
 |false=>have:=k.trans l i j w o s h a;rw[b] at this;cases this
theorem YY {a:List Nat}{f:Nat->Nat}(x:Nat)(h:x<a.length):(a.map f).getD x 0=f (a.getD x 0):=by
 simp[Az,h]
theorem Ty {a st:List Nat}{f:Nat->Nat->Nat}(x:Nat)(h:x<a.length)(k:x<st.length):(List.zipWith f a st).getD x 0=f (a.getD x 0) (st.getD x 0):=by
 simp[Az,h,k,List.getElem?_zipWith]
theorem Os.iz {i j n:Nat}{c:Nat->Nat->Bool}{le st:List Nat}(o:LB n c)(F:Os n c le st)(w:i<n)(k:j<n)(z:c j i=false):∀x y,x<n->((le.map λ(r:Nat)=>if r.testBit i then r|||le.getD j 0 else r).getD x 0).testBit y=true->y<n/\c y x=false:=by
 intro x y h e;rw[YY x (by rw[F.ll];exact h)] at e;split at e
 ·rename_i q;rw[OQ,BN] at e;rcases e with e |e
  ·exact F.w x y h e
  ·obtain⟨_,a⟩:=F.w x i h q;obtain⟨s,b⟩:=F.w j y k e;exact⟨s,o.trans x j y h k s (o.trans x i j h w k a z) b⟩
 ·exact F.w x y h e
theorem Os.il {i j n:Nat}{d:Nat->Nat->Bool}{c st:List Nat}(s:LB n d)(F:Os n d c st)(z:i<n)(o:j<n)(A:d j i=false):Os n d (PE i j c st).1 (PE i j c st).2:=by
 refine⟨F.iz s z o A,λ x y k e=>?_,by simp[PE,F.ll],by simp[PE,F.ll,F.ls]⟩;have h:((List.zipWith (λ(r q:Nat)=>q|||((if q.testBit i then c.getD j 0 else 0)|||(if r.testBit i then st.getD j 0 else 0))) c st).getD x 0).testBit y=true:=e;rw[Ty x (by rw[F.ll];exact k) (by rw[F.ls];exact k),OQ,OQ,BN,BN] at h;rcases h with h |h |h
 ·exact F.s x y k h
 ·split at h
  ·rename_i q;obtain⟨_,a⟩:=F.s x i k q;obtain⟨w,b⟩:=F.w j y o h;exact⟨w,s.sw k o w (s.sw k z o a A) b⟩
  ·simp at h
 ·split at h
  ·rename_i q;obtain⟨_,a⟩:=F.w x i k q;obtain⟨w,b⟩:=F.s j y o h;exact⟨w,s.ws k o w (s.trans x i j k z o a A) b⟩
  ·simp at h
theorem Os.io {i j n:Nat}{d:Nat->Nat->Bool}{c st:List Nat}(s:LB n d)(F:Os n d c st)(w:i<n)(o:j<n)(z:d i j=true):Os n d (PF i j c st).1 (PF i j c st).2:=by
 refine⟨F.iz s w o (s.jd i j w o z),λ x y k e=>?_,by simp[PF,F.ll],by simp[PF,F.ll,F.ls]⟩;have h:((List.zipWith (λ(r q:Nat)=>q|||(if r.testBit i then c.getD j 0 else 0)) c st).getD x 0).testBit y=true:=e;rw[Ty x (by rw[F.ll];exact k) (by rw[F.ls];exact k),OQ,BN] at h;rcases h with h |h
 ·exact F.s x y k h
 ·split at h
  ·rename_i q;obtain⟨_,a⟩:=F.w x i k q;obtain⟨A,b⟩:=F.w j y o h;exact⟨A,s.sw k o A (s.ws k w o a z) b⟩
  ·simp at h
theorem Mb:∀(a b:List Nat),a.Nodup->(∀x∈a,x∈b)->a.length=b.length->a.Perm b
 |[],b,_,_,h=>by
   have:b=[]:=Dm.mp h.symm;rw[this]
  |x::a,b,k,h,z=>by
   have s:=h x Ac;rw[CN] at k;refine List.Perm.trans (List.Perm.cons x (Mb a (b.erase x) k.2 (λ y w=>?_) ?_)) (List.perm_cons_erase s).symm
   ·have o:y≠x:=λ q=>k.1 (q▸w);exact(List.mem_erase_of_ne o).mpr (h y (Ad _ w))
   ·rw[Ea s];rw[Cr] at z;omega
def Uz (h:Nat->Nat->Bool)(p:List Nat):Prop:=p.Pairwise λ a b=>h b a=false/\(h a b=true\/a<b)
def Gm (n:Nat)(h:Nat->Nat->Bool)(p:List Nat):Prop:=p.Perm (List.range n)/\Uz h p
theorem Os.fi {n:Nat}{c:Nat->Nat->Bool}{d st:List Nat}(s:LB n c)(F:Os n c d st):∀l:List Nat,(∀x∈l,x<n)->MM d st l=true->Uz c l
 |[],_,_=>List.Pairwise.nil
  |a::r,w,h=>by
   unfold MM at h;rw[Ah,AJ] at h;refine List.Pairwise.cons (λ b z=>?_) (F.fi s r (λ x A=>w x (Ad _ A)) h.2);have:=h.1 b z;have k:=w a Ac;rw[BN,Ah,AK] at this;rcases this with q |⟨q,C⟩
   ·obtain⟨o,e⟩:=F.s a b k q;exact⟨s.jd a b k o e,.inl e⟩
   ·exact⟨(F.w a b k q).2,.inr C⟩
theorem HG {n:Nat}{b:Nat->Nat->Bool}(w:LB n b){a:Nat->Nat->(Bool->Shared->Prop)->Shared->Prop}{I:Shared->Prop}(E:∀i j C s,i<n->j<n->I s->(∀z,I z->C (b i j) z)->a i j C s){c:Array Nat->Shared->Prop}(H:∀p s,I s->Gm n b p.toList->c p s):
 ∀(t:KasT (Array Nat))(A st:List Nat)(s:Shared),Os n b A st->aQ n t A st=true->I s->t.kasWp a c s
 | .ret p,A,st,s,F,h,Q=>by
    unfold aQ at h;rw[Ah,Ah,JB,AJ] at h;obtain⟨⟨Z,d⟩,f⟩:=h;have sub:∀x∈List.range n,x∈p.toList:=λ x V=>by have:=d x V;simpa using this
    have W:(List.range n).Perm p.toList:=Mb _ _ List.nodup_range sub (by rw[Z];simp);refine H p s Q ⟨W.symm,F.fi w _ (λ x V=>?_) f⟩;have:=W.symm.mem_iff.mp V;simpa using this
  | .ask i j k,A,st,s,F,h,Q=>by
    unfold aQ at h;rw[Ah,Ah,AK,AK] at h;obtain⟨⟨N,O⟩,h⟩:=h;refine E i j _ s N O Q λ z o=>?_;split at h
    ·rename_i q;rw[(F.s i j N q).2];exact HG w E H _ A st z F h o
    ·split at h
     ·rename_i q;rw[(F.w j i O q).2];exact HG w E H _ A st z F h o
     ·rw[Ah] at h;cases e:b i j with
      |true=>exact HG w E H _ _ _ z (F.io w N O e) h.1 o
      |false=>exact HG w E H _ _ _ z (F.il w O N e) h.2 o
theorem SH {n:Nat}{b:Nat->Nat->Bool}(w:n<7)(z:2<=n)(k:LB n b){a:Nat->Nat->(Bool->Shared->Prop)->Shared->Prop}{I:Shared->Prop}(A:∀i j C s,i<n->j<n->I s->(∀o,I o->C (b i j) o)->a i j C s){c:Array Nat->Shared->Prop}(E:∀p s,I s->Gm n b p.toList->c p s)(H:I s):
 (kas_sort n).kasWp a c s:=by
 refine HG k A E _ _ _ s ⟨λ x y h e=>?_,λ x y h e=>?_,(_),(_)⟩ (ZA n w z) H
 ·rw[Az] at e;simp[h,Nat.testBit_two_pow] at e;subst e;refine⟨h,?_⟩;cases q:b x x with
  |false=>rfl
  |true=>have:=k.jd x x h h q;rw[q] at this;cases this
 ·rw[Az] at e;simp[h] at e
end
variable {b:List PV}{x:Str} in
def G3 (h:Heap)(K:Addr):List Value->List Value->Prop
 |[],[]=>True
 |u::k,x::b=>(∃a,x=.ref a/\FB h a K u)/\G3 h K k b
 |_,_=>False
theorem G3.ao {b c:Heap}{K:Addr}(o:K0 b c):∀{h k:List Value},G3 b K h k->G3 c K h k
 |[],[],_=>trivial
  |u::h,x::k,⟨⟨a,e,i⟩,r⟩=>⟨⟨a,e,i.ao o⟩,G3.ao o r⟩
theorem G3.len {a:Heap}{K:Addr}:∀{h k:List Value},G3 a K h k->h.length=k.length
 |[],[],_=>rfl
  |u::h,x::k,⟨_,r⟩=>by rw[Cr,Cr,G3.len r]
theorem G3.fy {b:Heap}{K:Addr}{u:Value}{a:Addr}(i:FB b a K u):∀{h k:List Value},G3 b K h k->G3 b K (h++[u]) (k++[.ref a])
 |[],[],_=>⟨⟨a,rfl,i⟩,trivial⟩
  |v::h,x::k,⟨e,r⟩=>⟨e,G3.fy i r⟩
theorem G3.get {b:Heap}{K:Addr}:∀{h k:List Value}{i:Nat},G3 b K h k->i<h.length->∃a,k.getD i .none=.ref a/\FB b a K (h.getD i .none)
 |u::h,x::k,0,⟨⟨a,e,i⟩,_⟩,_=>⟨a,by rw[e];rfl,i⟩
  |u::h,x::k,i+1,⟨_,r⟩,b=>by
   have:=G3.get (i:=i) r (by rw[Cr] at b;omega);simpa using this
theorem G3.iq {b:Heap}{K:Addr}{M:Model}:∀{o h:List Value},G3 b K o h->∀x∈h,Looks M b (typeOf x) (.ref K)
 |[],[],_,x,k=>by cases k
  |u::o,y::h,⟨⟨a,e,i⟩,r⟩,x,k=>by
   rcases Ag.mp k with q |q
   ·subst q;subst e;exact i.ty
   ·exact G3.iq r x q
variable {tk:Nat} in
structure SI (W:BH)(s₀:Shared)(K a kS e1:Nat)(us ks:List Value)(e:Nat)(s:Shared):Prop where
 le:A8 W s₀.heap s.heap
 tk:s₀.toks<=s.toks
 same:s=#[s₀,s.heap,s.toks]
 hk:s.heap.get? kS=some (seqObj "list" (List.toArray ks) e)
 ha:s.heap.get? a=some (seqObj "list" #[] e1)
 ja:G3 s.heap K us ks
section
theorem SI.step {tk a c d e:Nat}{b:Shared}{K:Addr}{f g:List Value}(x:SI W b K a c d f g e s)(h:A8 W s.heap H)(l:s.toks<=tk):SI W b K a c d f g e #[s,H,tk]:=
 ⟨x.le.trans h,Ab x.tk l,by rw[x.same],h.keep x.hk (by simp[seqObj]) (by simp[seqObj]),h.keep x.ha (by simp[seqObj]) (by simp[seqObj]),x.ja.ao h.ao⟩
theorem Wt {g:List Value}{d:Shared}{K:Addr}{c:Value->Value->Option Int}{a f m e:Nat}{P:PySem.Fin->Shared->Prop}(hn:g.length<64)(L:Ha W k d.heap K c)(D:Cg (k+2) A)(G:Gd W d)(O:W.h0.NoLimit)(V:f≠a)(Z:d.heap.get? f=none)(I:SI W d K a f m [] [] e s)
 (J:∀h e C,SI W d K a f m g h e C->wpAny W.M A (ksk_end a false g.toArray m (.ref f) (List.toArray h)) P E C):wpAny W.M A (ksk_rest a (.ref K) false g.toArray m (.ref f)) P E s:=by
 unfold ksk_rest;refine Aa (wpAny_rule ?_)
 first
  |rw[List.forIn_toArray]
  |(rw[<-Array.forIn_toList];simp only[List.toList_toArray])
  |rw[<-Array.forIn_toList]
 refine Aa (ksk_fold (λ i C=>∃h e,SI W d K a f m (g.take i) h e C) g 0 s ⟨[],e,by rw[List.take_zero];exact I⟩ (λ j x C B M=>?_) λ C hd=>?_)
 ·obtain⟨h,e,S⟩:=M;rw[MC] at S ⊢;have hj:j<g.length:=by
   obtain⟨q,_⟩:=CU.mp B;exact q
  have R:h.length=j:=by rw[<-S.ja.len,FO];omega
  have T:Gd W C:=⟨G.am.trans S.le,S.le.2 G.ea,Ab G.toks S.tk⟩;refine Aa (Jm ((L.ac S.le).ia D T O x _ _ λ r N tk H l U=>?_));obtain⟨w,rfl,fr,i⟩:=U;have z:=S.step H l;have n:=BA N f (Obj.mapSeq (·.push (.ref w)))
  have Y:(List.toArray h).push (.ref w)=List.toArray (h++[.ref w]):=(_)
  obtain⟨p,t⟩:∃p,(N.update f (Obj.mapSeq (·.push (.ref w)))).get? f=some (seqObj "list" (List.toArray (h++[.ref w])) p):=⟨_,by rw[<-Y];exact get?_update_seq z.hk (·.push (.ref w))⟩
  try dsimp only
  refine Aa (listUpdate_at z.hk rfl ?_ (by rw[Fb,CG];omega) (Ab (Nat.le_of_eq (Array.size_push ..)) (by rw[Fb,CG];omega)));refine Af ⟨rfl,h++[.ref w],p,?_⟩;have kk:K0 N (N.update f (Obj.mapSeq (·.push (.ref w))))\/True:=.inr trivial
  have v:∀{Q h},G3 N K Q h->G3 (N.update f (Obj.mapSeq (·.push (.ref w)))) K Q h:=by
   intro Q h q;induction Q generalizing h with
   |nil=>cases h<;>exact q
   |cons u Q ih=>
    cases h with
    |nil=>exact q
    |cons y h=>
     obtain⟨⟨b,e,dx,i⟩,r⟩:=q;refine⟨⟨b,e,dx,?_⟩,ih r⟩;rw[n.2 b λ q=>by subst q;rw[z.hk] at i;cases i];exact i
  refine⟨?_,z.tk,by rw[z.same],t,(n.2 a V.symm).trans z.ha,?_⟩
  ·exact z.le.az Z (λ o a0 m e2=>by rw[z.hk] at m;cases m;cases e2) n
  ·have:g.take (j+1)=g.take j++[x]:=by rw[List.take_add_one,B];rfl
   rw[this];exact v (G3.fy i z.ja)
 ·obtain⟨h,e,S⟩:=hd;rw[MC,List.take_length] at S
  try dsimp only
  exact Aa (listItems_at S.hk rfl (J h e C S))
end
section
theorem Q8 {b:Shared}{K:Addr}{a c d e:Nat}{g f:List Value}{st:SortSt}{out:List Value}{P:PySem.Fin->Shared->Prop}(C:c≠a)(H:b.heap.get? c=none)(N:b.heap.get? a=none)(k:(arrOf st).map (·.2)=List.toArray out)(u:out.length<64)(m:f.length<64)(n:failedOf st=none)(S:SI W b K a c d g f e s)
 (p:∀O j w,A8 W b.heap O->b.toks<=j->O.get? a=some (seqObj "list" (List.toArray out) w)->P (.done (.ret .none)) #[b,O,j]):wpAny W.M A (ksk_tail a false d (.ref c) st) P E s:=by
 have l:=BA s.heap c (Obj.mapSeq λ _=>(#[]:Array Value));have h:(s.heap.update c (Obj.mapSeq λ _=>(#[]:Array Value))).get? a=some (seqObj "list" #[] d):=(l.2 a C.symm).trans S.ha;have q:=BA (s.heap.update c (Obj.mapSeq λ _=>(#[]:Array Value))) a (Obj.mapSeq λ _=>List.toArray out);obtain⟨w,Q⟩:∃w,((s.heap.update c (Obj.mapSeq λ _=>(#[]:Array Value))).update a (Obj.mapSeq λ _=>List.toArray out)).get? a=some (seqObj "list" (List.toArray out) w):=⟨_,get?_update_seq h λ _=>List.toArray out⟩;have V:(List.toArray out).size=out.length:=by rw[Fb]
 unfold ksk_tail
 try dsimp only
 rw[k];simp only[Aq,AS];refine Aa (listUpdate_at S.hk rfl ?_ (by rw[Fb,CG];omega) (BT _));refine Aa (wpAny_letGo ?_);refine Aa (seqEpoch_at h rfl ?_);refine Aa (listUpdate_at h rfl ?_ (BT _) (Ab (Nat.le_of_eq V) (by rw[CG];omega)));rw[n];simp only[bne_self_eq_false,Aq,AS];refine Af ?_;have r:A8 W b.heap (s.heap.update c (Obj.mapSeq λ _=>(#[]:Array Value))):=S.le.az H (λ o Z z i=>by rw[S.hk] at z;cases z;cases i) l;have t:=r.az N (λ o Z z i=>by rw[h] at z;cases z;cases i) q;have:=p _ s.toks w t S.tk Q;rw[S.same];exact this
structure UF (c:Value->Value->Option Int)(vs:List Value)(lt:Nat->Nat->Bool):Prop where
 has:∀i j,i<vs.length->j<vs.length->∃m,c (vs.getD i .none) (vs.getD j .none)=some m/\lt i j=decide (m<0)
 ok:LB vs.length lt
 hand:∀v∈vs,handedIn v=true
theorem U2 (h:List Value):(List.range h.length).map (λ i=>h.getD i .none)=h:=by
 refine List.ext_getElem (_) λ i o k=>?_;simp[Az,k]
theorem S8 (h:n<2):Gm n a (List.range n):=by
 refine⟨.refl _,?_⟩
 match n,h with
 |0,_=>exact List.Pairwise.nil
 |1,_=>exact List.Pairwise.cons (λ b k=>by cases k) List.Pairwise.nil
theorem YG {f n:List Value}{d:Shared}{K:Addr}{c:Value->Value->Option Int}{a q u e:Nat}{r:Nat->Nat->Bool}{P:PySem.Fin->Shared->Prop}(hn:f.length<7)(L:Ha W k d.heap K c)(hA:Cg (k+2) A)(G:Gd W d)(V:W.h0.NoLimit)(Z:q≠a)(v:d.heap.get? q=none)(y:d.heap.get? a=none)(D:UF c f r)(S:SI W d K a q u f n e s)
 (T:∀C N B p,Gm f.length r p->A8 W d.heap C->d.toks<=N->C.get? a=some (seqObj "list" (List.toArray (p.map λ i=>f.getD i .none)) B)->P (.done (.ret .none)) #[d,C,N]):
 wpAny W.M A (ksk_end a false f.toArray u (.ref q) (List.toArray n)) P E s:=by
 have U:=S.ja.len;have step:∀t:Sem PySem.Fin,wpAny W.M A t P E s->wpAny W.M A (if false=true then(do let _ <-rule "list.sort.reverse";t) else t) P E s:=by
  intro t ht;rw[Ak {_}];exact ht
 unfold ksk_end
 try dsimp only
 refine step _ ?_;by_cases O:f.toArray.size<2
 ·rw[Ap O,Ap O];refine Aa (Af ?_);rw[StateT.run_pure];refine Aa (Af ?_);dsimp only;have w:f.length<2:=by simpa using O
  refine Q8 (out:=f) Z v y ?_ ∅ ∅ rfl S λ C N B H l I=>T C N B (List.range f.length) (S8 w) H l ?_
  ·show((List.toArray n).zip f.toArray).map (·.2)=_
   apply Array.toList_inj.mp;rw[Array.toList_map,ksk_zip];show(List.zip n f).map Prod.snd=_;rw[List.map_snd_zip ∅]
  ·rw[U2];exact I
 ·rw[Ak O,Ak O];have w:2<=f.length:=by
   have:¬f.length<2:=by simpa using O
   omega
  refine Aa (kas_kind (T:=.ref K) ∅ S.ja.iq (_) (_) ?_);refine Aa (BP (kat_run (w:=W.w) (prog:=W.prog) (κ:=oneType') (G:=λ p o=>SI W d K a q u f n e o/\Gm f.length r p.toList) (Q:=λ z o=>∃p:Array Nat,p.size=f.length/\arrOf z=p.map (kas_item ((List.toArray n).zip (List.toArray f)))/\failedOf z=none/\(SI W d K a q u f n e o/\Gm f.length r p.toList))
   U.symm w ∅ (λ p' z o a1 a2 a3 a4=>⟨p',a1,a2,a3,a4⟩) ?_) ?_ λ _ _ x=>x)
  ·refine SH hn w D.ok (I:=λ o=>SI W d K a q u f n e o) (λ i j C' o Q J h hC=>?_) (λ p o h g=>⟨h,g⟩) S;unfold kas_ask;obtain⟨xa,ex,ix⟩:=h.ja.get Q;obtain⟨ya,ey,iy⟩:=h.ja.get J;obtain⟨m,hm,M⟩:=D.has i j Q J;have G':Gd W o:=⟨G.am.trans h.le,h.le.2 G.ea,Ab G.toks h.tk⟩;have Y:∀i,i<f.length->handedIn (f.getD i .none)=true:=λ i Q=>D.hand _ (by rw[Az,Bb Q];exact List.getElem_mem Q);rw[ex,ey];refine(L.ac h.le).lt hA G' V ix iy (Y i Q) (Y j J) hm _ _ λ b C N H l hb=>?_;rw[hb,<-M];exact hC _ (h.step H l)
  ·rintro⟨⟨⟩,z⟩ o ⟨p,hp,R,hf,h,g⟩
   try dsimp only
   exact Q8 Z v y (kat_snds U.symm R) (by rw[Ao,IP,hp];omega) ∅ hf h λ C N B H l I=>T C N B p.toList g H l I
theorem Ws {b:List Value}{n a:Nat}{s₀:Shared}{K:Addr}{c:Value->Value->Option Int}{d:Nat->Nat->Bool}{P:PySem.Fin->Shared->Prop}(u:b.length<7)(L:Ha W k s₀.heap K c)(l:Cg (k+2) A)(G:Gd W s₀)(h:W.h0.NoLimit)(w:s₀.heap.get? a=none)(v:UF c b d)
 (O:A8 W s₀.heap s.heap) (Q:s₀.toks<=s.toks) (V:s=#[s₀,s.heap,s.toks]) (z:s.heap.get? a=some (seqObj "list" b.toArray n))
 (x:∀Z m y p,Gm b.length d p->A8 W s₀.heap Z->s₀.toks<=m->Z.get? a=some (seqObj "list" (List.toArray (p.map λ i=>b.getD i .none)) y)->P (.done (.ret .none)) #[s₀,Z,m]):
 wpAny W.M A (ksk_tree a (.ref K) false) P E s:=by
 have R:a<s.heap.objs.size:=AO z;have B:=BA s.heap a (Obj.mapSeq λ _=>(#[]:Array Value));obtain⟨f,C⟩:∃f,(s.heap.update a (Obj.mapSeq λ _=>(#[]:Array Value))).get? a=some (seqObj "list" #[] f):=⟨_,get?_update_seq z λ _=> #[]⟩;have g:((s.heap.update a (Obj.mapSeq λ _=>(#[]:Array Value))).push (seqObj "tuple" b.toArray 0)).objs.size=s.heap.objs.size+1:=by rw[size_push',Heap.size_update]
 have r:A8 W s₀.heap (s.heap.update a (Obj.mapSeq λ _=>(#[]:Array Value))):=O.az w (λ o D t I=>by rw[z] at t;cases t;cases I) B;have J:=(r.trans (.push _ (seqObj "tuple" b.toArray 0))).trans (.push _ (seqObj "list" #[] 0));unfold ksk_tree;refine Aa (listItems_at z rfl ?_);refine Aa (listUpdate_at z rfl ?_ (by rw[Fb,CG];omega) (BT _));refine Aa (seqEpoch_at C rfl ?_);refine Aa (wpAny_newTuple ?_ (by show b.length<=_;rw[CG];omega));refine Aa (wpAny_newList ?_ (BT _));refine AF ?_;have H:((s.heap.update a (Obj.mapSeq λ _=>(#[]:Array Value))).push (seqObj "tuple" b.toArray 0)).objs.size≠a:=by rw[g];omega
 have N:s₀.heap.get? ((s.heap.update a (Obj.mapSeq λ _=>(#[]:Array Value))).push (seqObj "tuple" b.toArray 0)).objs.size=none:=by
  cases q:s₀.heap.get? ((s.heap.update a (Obj.mapSeq λ _=>(#[]:Array Value))).push (seqObj "tuple" b.toArray 0)).objs.size with
  |none=>rfl
  |some o=>
   obtain⟨T,j⟩:=AP (r.trans (.push _ (seqObj "tuple" b.toArray 0))) ⟨o,q⟩;exact absurd (AO j) (D9 _)
 have S:SI W s₀ K a ((s.heap.update a (Obj.mapSeq λ _=>(#[]:Array Value))).push (seqObj "tuple" b.toArray 0)).objs.size f [] [] 0 #[s,((s.heap.update a (Obj.mapSeq λ _=>(#[]:Array Value))).push (seqObj "tuple" b.toArray 0)).push (seqObj "list" #[] 0)]:=
  ⟨J,Q,by rw[V],Ar _ rfl,Ai _ (Ai _ C),trivial⟩
 exact Wt ∅ L l G h H N S λ U e Y M=>YG u L l G h H N w v M x
theorem Wp {a:List Value}{K:Addr}{c:Value->Value->Option Int}{l:Addr}{d:Nat->Nat->Bool}(m:a.length<7)(L:Ha W k s.heap K c)(Z:Cg (k+3) A)(G:Gd W s)(z:W.h0.NoLimit)(n:UF c a d)(r:s.heap.IsList l a.toArray)
 (t:∀C V D e p,Gm a.length d p->A8 W s.heap C->s.toks<=V->s.heap.get? D=none->C.get? D=some (seqObj "list" (List.toArray (p.map λ i=>a.getD i .none)) e)->Q (.ref D) #[s,C,V]):
 wpAny W.M A (call (.builtin "sorted") [.ref l] [(Str.ofString "key",.ref K)]) Q E s:=by
 refine call_function_entry_kw kind_sorted plain_sorted entry_sorted (ksk_s1 _ _) ?_;unfold Builtin.«sorted»;refine Aa (m:=checkCount "sorted" 1 1 _) (Af ?_);refine Aa (collect_list r ?_ (by rw[CG];omega));refine Aa (wpAny_newList ?_ (by rw[CG];omega));have h:((s.heap.push (seqObj "list" #[] 0)).update s.heap.objs.size (Obj.mapSeq (·++a.toArray))).objs.size=s.heap.objs.size+1:=by
  rw[Heap.size_update,size_push']
 have N:(((s.heap.push (seqObj "list" #[] 0)).update s.heap.objs.size (Obj.mapSeq (·++a.toArray))).push (seqObj "list" a.toArray 0)).get? (s.heap.objs.size+1)=some (seqObj "list" a.toArray 0):=by
  rw[<-h];exact Ar _ rfl
 have O:∀b o,s.heap.get? b=some o->(((s.heap.push (seqObj "list" #[] 0)).update s.heap.objs.size (Obj.mapSeq (·++a.toArray))).push (seqObj "list" a.toArray 0)).get? b=some o:=λ b o q=>by
  have w:b<s.heap.objs.size:=AO q;rw[Heap.get?_push_ne _ _ _ (by rw[h];exact BU (GV w)),Heap.get?_update_ne _ _ _ _ (BU w),Heap.get?_push_ne _ _ _ (BU w)];exact q
 have j:s.heap.get? (s.heap.objs.size+1)=none:=by
  cases q:s.heap.get? (s.heap.objs.size+1) with
  |none=>rfl
  |some o=>exact absurd (AO q) (EM.mpr (A6 _))
 show wpAny _ _ _ _ _ #[s,((s.heap.push (seqObj "list" #[] 0)).update s.heap.objs.size (Obj.mapSeq (·++a.toArray))).push (seqObj "list" a.toArray 0)]
 rw[h];have f:Cg (k+2) A.in1.in1:=⟨Z.handled,by have:=Z.depth;show A.depth+_<_;omega,by have:=Z.units;show A.units+1+1+_<_;omega⟩;refine Aa (AF (wpAny_call_entry_kw slot_list_sort ⟨_,N,rfl⟩ entry_list_sort ?body (ksk_l1 _ _)))
 case body=>
  have u:=ksk_t1 K (s.heap.objs.size+1);show wpAny W.M A.in1.in1 (Builtin.«list.sort» ⟨[.ref (s.heap.objs.size+1)],[(Str.ofString "key",.ref K)]⟩) _ _ _;rw[u];refine Ws (s₀:=s) (s:=#[s,((s.heap.push (seqObj "list" #[] 0)).update s.heap.objs.size (Obj.mapSeq (·++a.toArray))).push (seqObj "list" a.toArray 0)]) m L f G z j n (.ad O) (Am _) rfl N λ C V e p g H l v=>⟨_,rfl,Af ⟨_,rfl,t C V _ e p g H l j v⟩⟩
end
section
variable {P:Addr}{c:Nat}{cpos:Pos}{qual:Str} in
structure UE (W:BH)(mg mb:Str->Option Value)(C:Ge)(k':Nat)(a:Addr):Prop where
 gk:Dh W C k' mg mb
 ex:∃cb csc qual modn names fd p1 p2 p3 cpos c P nmv,UB cb csc qual modn "obj" names/\UC cb names/\EF W a fd ["mycmp"] [.ClassDef "K" [.Name "object" p1] [] cb [] [] csc none "K" ["obj"] cpos,.Return (some (.Name "K" p2)) p3]/\mg "__name__"=some nmv/\
  Yn W c P cpos qual ((CY 0 cb).map λ r=>(r.pos,r.name))/\mainGlobals≠P/\cStatics≠P/\W.h0.BuiltinsAt mg P/\fd.code=.ref c/\fd.scope.names.lookup ("mycmp":Str)=some .cell/\fd.scope.names.lookup ("K":Str)=some .local/\Bz fd.scope "object"=true/\fd.qualname++".<locals>."++"K"=qual
 jj:∃mc,W.h0.Ns cStatics mc/\mc "sys.recursionlimit"=none/\mc "thirdparty.any"=none
 kl:mb "__build_class__"=some (.builtin "__build_class__")
 kj:mg "object"=none/\mb "object"=some (.type "object")
theorem UE.call (x:UE W mg mb C d a)(Z:Cg (k+1) A)(G:Gd W s)(e:Ot W n s.heap f c):
 BR W A (call (.ref a) [.ref f]) s (λ v z=>∃K,v=.ref K/\s.heap.get? K=none/\Ha W n z K c):=λ Q E g=>by
 obtain⟨i,j,o,O,h,fd,p1,p2,p3,V,cd,P,m,p,r,t,N,KK,u,y,B,D,I,J,L,M⟩:=x.ex;exact X5 x.gk p t x.jj x.kl x.kj N KK u y B D I J L M (X:=[]) Z G (λ b q=>by cases q) (.ref f) λ z R K S H l T U w Y=>g _ z R H l ⟨K,rfl,T,i,o,_,h,S,f,r,U,w,Y,e.ac H⟩
end
def M0 (k:Heap)(o:Array Value)(s:List (Pos×Str)):Prop:=∀r∈s,∀h,codeAmong r.1 o.toList=some h->Bd k h r.2
structure ZX (W:BH)(c P:Addr)(ls:List (Pos×Str)):Prop where
 mem:P∈W.TB
 get:∀h,W.dc h->∃ps,BW h c P ps/\M0 h ps ls
 fg:∀h h' ps more,W.dc h->h.get? P=some (tabObj ps)->(∀b o,b≠P->h.get? b=some o->h'.get? b=some o)->BW h' c P (ps++more)->M0 h' (ps++more) ls->W.dc h'
 jl:∀a∈ls,∀b∈ls,a.1.line=b.1.line->a.1.col=b.1.col->a=b
abbrev Xf (k:Str)(h:Arguments)(o:Expr)(w:Scope)(s:List (Str×Addr))(z A C:Value):Obj:={cls:=.type "function",data:=.func (Qh "<lambda>" k h o w s z A C)}
theorem Bd.ext (x:Bd h a q)(T:BW h c P d)(k:Heap.ExtBut P h H):Bd H a q:=x.bh λ b o e s=>k b o (λ q=>by subst q;rw[T.bh] at e;cases e;cases s) e
theorem Xe (Gk:Dh W C k mg mb)(LT:ZX W c P m)(t:mainGlobals≠P)(u:W.h0.BuiltinsAt mg P)(v:z.globals=mainGlobals)(N:z.code=.ref c)(w:(i,a)∈m)
 (hq:z.qual++"<lambda>"=a) (O:defaultsOf d z=([],[])) (x:closureFor V z=pure j) (G:Gd W s)
 (a0:∀h p f U y,A8 W s.heap h->s.toks<=p->s.heap.get? f=none->h.get? f=some (Xf a d g V j ((mg "__name__").getD .none) U y)->Bd h U a->Q (.ref f) #[s,h,p]):
 wpAny W.M A (eval (.Lambda d g V i) z) Q E s:=by
 obtain⟨Y,T,LG⟩:=LT.get s.heap G.ea;have B:s.heap.BuiltinsAt mg P:=by
  obtain⟨bm,o,a1,a2,a3,a4,a5,D,a7,a8⟩:=u;exact⟨bm,o,a1,a2,a3,a4,G.am.keep a5 (by rw[D];simp) (by rw[D];simp),D,a7,a8⟩
 refine kla_eval O ?_;rw[hq];refine No x v (B2 G.am Gk.g) N T t B (λ b q=>nomatch q) (λ I J=>LG (i,a) w I J) λ f I y h p L M l hf=>?_;have Z:M0 h L m:=λ r hr n J=>by
  rcases M.only r.1 n J with q |⟨rfl,_,e1,e2⟩
  ·exact(LG r hr n q).ext T M.ext
  ·have:=LT.jl r hr (i,a) w e1 e2;rw[this];exact M.dm
 have HL:A8 W s.heap h:=by
  obtain⟨H,R⟩:=M.pre;refine⟨λ b o e=>?_,λ S=>LT.fg s.heap h Y H S T.bh (λ b o q e=>M.ext b o q e) (R▸M.ff) (R▸Z)⟩;by_cases qP:b=P
  ·subst qP;rw[T.bh] at e;cases e;subst R;exact .inr (.inr ⟨LT.mem,Y,H,rfl,M.ff.bh⟩)
  ·exact .inl (M.ext b o qP e)
 exact a0 h p f I y HL l M.new M.bh M.dm
structure Ym (params:Arguments)(body:Expr)(sc:Scope)(ps:List Str):Prop where
 co:sc.isCoroutine=false
 bc:sc.isGenerator=false
 kind:sc.kind=.function
 ca:∀x∈sc.names,x.2≠.cell
 gn:∀x∈ps,CC x=true/\sc.names.lookup x=some .local
 nd:ps.Nodup
 jv:∀(qual:Str)(clos:List (Str×Addr))(pm cd ct:Value)(vals:List Value),vals.length=ps.length->bindArgs (Qh "<lambda>" qual params body sc clos pm cd ct) ⟨vals,[]⟩=pure (ps.zip vals)
structure Op (W:BH)(h:Heap)(X:List Addr)(f:Addr)(body:Expr)(sc:Scope)(ps:List Str)(clos:List (Str×Addr))(φ:AC):Prop where
 obj:∃qual params pm cd ct,h.get? f=some (Xf qual params body sc clos pm cd ct)/\Bd h cd qual/\Ym params body sc ps
 fw:∀x sl,φ.lookup x=some sl->sc.names.lookup x=some .free/\CC x=true/\(∀d,sl≠.own d)
 free:∀x,sc.names.lookup x=some .free->∃c ov,clos.lookup x=some c/\h.IsCell c ov/\∀sl,φ.lookup x=some sl->∃v,ov=some v/\Bg W (clos.map (·.2)++X) (clos.map (·.2)++X) h v sl
 inj:∀x y c,clos.lookup x=some c->clos.lookup y=some c->x=y
 alive:∀a∈clos.map (·.2),W.h0.get? a=none/\∃o,h.get? a=some o
theorem Op.ac (L:Op W h X f g V l j m)(s:A8 W h H):Op W H X f g V l j m where
 obj:=let⟨w,k,O,Q,Z,e,r,t⟩:=L.obj;⟨w,k,O,Q,Z,s.keep e (_) (_),r.bh λ b o e A=>s.keep e (by rw[A];simp) (by rw[A];simp),t⟩
 fw:=L.fw
 free:=λ x n=>let⟨c,p,e,i,r⟩:=L.free x n;⟨c,p,e,E6 s i,λ C E=>let⟨v,q,z⟩:=r C E;⟨v,q,by
  cases C with
  |al u=>exact z
  |bl u d=>exact⟨z.1,Rp.ac s z.2⟩
  |aa d=>exact Rp.ac s z
  |own d=>exact absurd rfl ((L.fw _ _ E).2.2 d)⟩⟩
 inj:=L.inj
 alive:=λ a N=>⟨(L.alive a N).1,AP s (L.alive a N).2⟩
theorem RH (I:Dh W C k mg mb)(L:Op W s.heap X f a V i c j)(H:W.h0.NoLimit)(p:Cg (k+1) A)(G:Gd W s)(J:∀b∈X,W.h0.get? b=none/\∃o,s.heap.get? b=some o)
 (r:ID W (c.map (·.2)++X) s.heap g args) (M:args.length=i.length) (R:(By C n).ev V (i.zip args++j) a=some d):
 BR W A (call (.ref f) g) s (λ v U=>Rp W (c.map (·.2)++X) U v d):=λ Q E Y=>by
 obtain⟨w,h,t,u,x,ho,hr,T⟩:=L.obj;have D:Sv W s.heap X f (Qh "<lambda>" w h a V c t u x) i j:=⟨⟨_,ho,rfl⟩,hr.dm,T.jv w c t u x,T.co,T.bc,T.kind,rfl,rfl,T.ca,T.gn,T.nd,L.fw,L.free,L.inj,L.alive⟩;refine B7 (Zt (k:=k) D rfl H p G J r M λ y m B N S=>?_);refine(A2 I (p.down _) n _ _).ev _ a d R _ _ _ S.F (S.gd B) _ _ λ v O z Z l rv=>?_;refine Y v O z (S.le.trans Z) (Ab N l) ?_;refine Rp.bc (λ b o e n _=>⟨e,λ q=>n ?_⟩) rv;rcases Au.mp q with q |q
 ·exact AT _ (Ad _ q)
 ·exact Ax _ q
variable {a:Addr}{b:PV}{i:Nat} in
def Un (k:Ge)(n:Nat)(o:Scope)(s:List Str)(w:AC)(h:Expr)(u v:Value):Option Int:=match u,v with
 | .str a _,.str b _=>if PyData.strOk a=true/\a.length<=Bi/\PyData.strOk b=true/\b.length<=Bi then(match(By k n).ev o (s.zip [.aa (.str a),.aa (.str b)]++w) h with |some (.int i)=>some i |_=>none) else none
 |_,_=>none
theorem Zb (O:Dh W C k mg mb)(L:Op W h [] f c V d e g)(Q:d.length=2)(w:W.h0.NoLimit)(n:Nat):
 Ot W (k+1) h f (Un C n V d g c):=by
 refine⟨?_,λ A s u v i Z H G o=>?_⟩
 ·obtain⟨E,z,y,B,D,l,N,T⟩:=L.obj;exact⟨_,λ m H=>⟨_,H.keep l (_) (_),rfl⟩⟩
 ·unfold Un at o;split at o
  ·split at o
   ·rename_i a p b t q;split at o
    ·rename_i j x;cases o;refine(RH O (L.ac H) w Z G (λ b q=>by cases q) (.aa (.str a p q.1 q.2.1) (.aa (.str b t q.2.2.1 q.2.2.2) .nil)) Q.symm x).ac λ r m _ N=>?_;cases N;exact⟨_,rfl⟩
    ·cases o
   ·cases o
  ·cases o
def Gh (h:Heap):Option Addr->Heap
 |none=>h
 |some B=>E3 h B
theorem Hx (k:∀B,ob=some B->b≠B):(Gh h ob).get? b=h.get? b:=by
 cases ob with
 |none=>rfl
 |some B=>exact EI (k B rfl)
theorem Np (k:A8 W a h)(s:∀B,ob=some B->a.get? B=none)(w:∀B,ob=some B->∀o z,h.get? B=some o->o.data≠.fields z):A8 W a (Gh h ob):=by
 cases ob with
 |none=>exact k
 |some B=>
  refine⟨λ b o e=>?_,λ t=>KC (k.2 t) (w B rfl)⟩;have q:b≠B:=λ q=>by rw[q,s B rfl] at e;cases e
  show _\/_\/_;rw[show(Gh h (some B)).get? b=h.get? b from EI q];exact k.1 b o e
variable {v:Value}{i:Nat} in
structure On (W:BH)(k:Nat)(ob:Option Addr)(X:List Addr)(f:Value)(xs:List PV)(hb:Heap)(J:Nat->Value->Heap->Prop):Prop where
 ck:∀i v h h',(∀b o,h.get? b=some o->Db o->h'.get? b=some o)->J i v h->J i v h'
 ju:∀i v h,J i v h->∀B,ob=some B->∀o vs,h.get? B=some o->o.data≠.fields vs
 fn:∃fa fd,f=.ref fa/\∀h,A8 W hb h->∃o,h.get? fa=some o/\o.data=.func fd
 step:∀A s i v e x l,Cg k A->A.frames=some l->AQ W s.heap l->Gd W s->A8 W hb s.heap->xs[i]? =some x->J i v s.heap->Rp W X s.heap e x->∀(Q:JD)(E:JD),
  (∀v' h' tk,A8 W (Gh s.heap ob) h'->s.toks<=tk->J (i+1) v' h'->Q v' #[s,h',tk])->wpAny W.M A (call f [v,e]) Q E s
variable {j:Nat}{st:Stmt} in
structure Yk (W:BH)(hb:Heap)(env:Env)(f:Value)(J:Nat->Value->Heap->Prop)(St:Nat->Heap->Prop)(i:Nat)(v:Value)(h:Heap):Prop where
 st:St i h
 ns:∃m,h.Ns env.locals m/\m "function"=some f/\m "value"=some v
 fc:CF env h
 le:A8 W hb h
 j:J i v h
section
theorem NE (w:CF z h)(s:h.get? L=some o)(hd:Db o):L≠z.locals:=λ q=>by
 obtain⟨C,E,H,k,A,_⟩:=w;rw[q,k] at s;cases s;unfold Db at hd;rw[A] at hd;simp at hd
theorem WA {R:Result->Shared->Prop}{u d y g p t:Pos}{a:List PV}{outer:List Env}{ob:Option Addr}{f:Value}{J:Nat->Value->Heap->Prop}{St:Nat->Heap->Prop}{I:Addr}(S:On W k ob X f a N J)(D:LJ W A X I a St)(hA:Cg k A)(a2:z.scope.kind=.function)(k1:z.kindOf "function"=some .local)(k2:z.kindOf "value"=some .local)(k3:z.kindOf "element"=some .local)
 (hI:I≠z.locals) (f6:I∈X) (e0:N.get? I=none) (c3:N.get? z.locals=none) (hL:z.locals∈X) (b2:A8 W W.h0 N) (c4:W.dc N) (e1:1<=s.toks) (a9:∀B,ob=some B->B∈X/\N.get? B=none/\B≠I/\B≠z.locals) (e3:A.frames=some (z::outer)) (c5:z.frame=some z.locals) (e4:W.h0.get? z.locals=none) (c6:AQ W N outer)
 {c:Pos} {v0:Value} (hv:Yk W N z f J St 0 v0 s.heap)
 (hR:∀h' tk v,Yk W N z f J (λ _ _=>True) a.length v h'->s.toks<=tk->R (.ok .next) #[s,h',tk]):
 codeAny W.M A (.forLoop (.Name "element" u) (.ref I) [.Assign [.Name "value" d] (.Call (.Name "function" y) [.Name "value" g,.Name "element" p] [] t) c] [] z) R s:=by
 have hp:(z.scope.kind== .class||(z.scope.kind== .module&&z.locals !=z.globals))=false:=by rw[a2];rfl
 refine GO (λ n s'=>∃h' tk v i,s'=#[s,h',tk]/\i<=a.length/\n=a.length-i/\Yk W N z f J St i v h'/\s.toks<=tk) (λ n s' e5=>?_) a.length ⟨s.heap,s.toks,v0,0,rfl,BT _,rfl,hv,Am _⟩;obtain⟨h',tk,v,i,rfl,hi,hn,x,l⟩:=e5;obtain⟨oI,c7,e6,e7,f7,e8⟩:=D.bq _ _ x.st;have ext:∀{j:Nat}{h:Heap},Heap.ExtBut I h' h->A8 W N h/\CF z h/\J i v h/\(∃m,h.Ns z.locals m/\m "function"=some f/\m "value"=some v):=λ{j h} H=>by
  refine⟨x.le.ext e0 (λ o vs O hd=>by rw[c7] at O;cases O;exact⟨e6,e7⟩) H,x.fc.at λ o O=>H _ o (Ne.symm hI) O,S.ck i v h' h (λ b o e hd=>H b o (λ q=>?_) e) x.j,?_⟩
  ·subst q;rw[c7] at e;cases e;exact e8 hd
  ·obtain⟨m,⟨o,es,ep,O,r⟩,hm⟩:=x.ns;exact⟨m,⟨o,es,ep,H _ _ (Ne.symm hI) O,r⟩,hm⟩
 by_cases c8:i<a.length
 ·have hx:a[i]? =some a[i]:=Bb c8;refine Bw (n:=tk) (Am _) (D.item i #[s,h',tk] _ _ a[i] x.st hx λ e h w rv T H a3=>?_);have U:tk<=w:=a3;obtain⟨Y,Q,a4,m,hm,m1,m2⟩:=ext (j:=0) H;refine D.cr (i+1) #[s,h,w] _ _ _ e T ?_;refine DD (B6 (s:=#[s,h,w]) k3 hm (λ C G V b3=>?_) hp);have d9:=D.bq _ _ T;have a5:St (i+1) C:=D.frame _ _ _ T (λ o O=>(V.2 I hI).trans O) λ b o a6 O _=>(V.2 b λ q=>a6 (q▸hL)).trans O;have a7:=Q.bi b3;have E:A8 W N C:=Y.az c3 (λ o vs e' q=>by obtain⟨o',es,ep,b4,e9,b5⟩:=Q;have e2:h.get? z.locals=some o:=e';rw[b4] at e2;cases e2;rw[b5] at q;cases q) V;have b0:J i v C:=S.ck i v h C (λ b o e' hd=>(V.2 b (NE Q e' hd)).trans e') a4;have b6:Rp W X C e a[i]:=Rp.bc (λ b o e' n hd=>⟨(V.2 b λ q=>n (q▸hL)).trans e',n⟩) rv;obtain⟨fa,fd,rfl,f0⟩:=S.fn;obtain⟨of,f1,f2⟩:=f0 C E;refine Al (Bf (t:=.Name "value" d) rfl rfl rfl (BG (PK (Ek a2 k1 G (by rw[Ak {_}];exact m1) ?_))));rw[AN t _ [.Name "value" g,.Name "element" p] rfl];refine Cm (o:=of) (fd:=fd) (A1 (Av (PK (Ek a2 k2 G (by rw[Ak {_}];exact m2) ?_))));refine Av (PK (Ek a2 k3 G (by rw[Ap rfl]) (AV ⟨⟨f1,f2⟩,?_⟩)));have c9:Gd W #[s,C,w+1]:=⟨b2.trans E,E.2 c4,BD (Ab e1 (Ab l U))⟩;refine S.step A #[s,C,w+1] i v e a[i] _ hA e3 ⟨by rw[a2];simp,c5,e4,a7,c6.bb E⟩ c9 E hx b0 b6 _ _ λ v' Z a0 M d0 d5=>?_;have f3:w+1<=a0:=d0;have f4:=S.ju i v C b0;have b7:A8 W N Z:=(Np E (λ B q=>(a9 B q).2.1) f4).trans M;have d6:∀B,ob=some B->I≠B:=λ B q=>(a9 B q).2.2.1.symm;have b1:∀B,ob=some B->z.locals≠B:=λ B q=>(a9 B q).2.2.2.symm;obtain⟨oJ,d7,d1,d2,d3,d4⟩:=D.bq _ _ a5;have b8:St (i+1) Z:=D.frame _ _ _ a5 (λ o O=>by rw[d7] at O;cases O;exact M.keep (by rw[Hx d6];exact d7) d3 d1) λ b o a6 O hd=>by
   have nB:∀B,ob=some B->b≠B:=λ B q q'=>a6 (by rw[q'];exact(a9 B q).1);exact Ce M ((Hx nB).trans O) hd
  have a1:CF z Z:=by
   obtain⟨o,es,ep,O,r⟩:=a7;exact CF.bb (h:=Gh C ob) ⟨o,es,ep,by rw[Hx b1];exact O,r⟩ M
  have b9:Z.Ns z.locals (λ x=>if x="element" then some e else m x):=by
   obtain⟨o,es,ep,O,r⟩:=G;exact B2 M ⟨o,es,ep,by rw[Hx b1];exact O,r⟩
  refine DD (B6 (s:=#[s,Z,a0]) k2 b9 (λ a8 c0 L c1=>?_) hp);refine AZ ?_;have d8:Yk W N z (.ref fa) J St (i+1) v' a8:=by
   refine⟨?_,⟨_,c0,by rw[Ak {_},Ak {_}];exact m1,by rw[Ap rfl]⟩,a1.bi c1,?_,?_⟩
   ·exact D.frame _ _ _ b8 (λ o O=>(L.2 I hI).trans O) λ b o a6 O _=>(L.2 b λ q=>a6 (q▸hL)).trans O
   ·exact b7.az c3 (λ o vs e' q=>by obtain⟨o',es,ep,b4,e9,b5⟩:=a1;have e2:Z.get? z.locals=some o:=e';rw[b4] at e2;cases e2;rw[b5] at q;cases q) L
   ·exact S.ck _ _ Z a8 (λ b o e' hd=>(L.2 b (NE a1 e' hd)).trans e') d5
  exact⟨n-1,∅,a8,a0+1,v',i+1,rfl,c8,∅,d8,∅⟩
 ·have f5:i=a.length:=∅
  subst f5;refine Bw (n:=tk) (Am _) (D.done #[s,h',tk] _ _ x.st λ h w H a3=>?_);have U:tk<=w:=a3;obtain⟨Y,Q,a4,c2⟩:=ext (j:=0) H;exact AZ (hR h w v ⟨trivial,c2,Q,Y,a4⟩ (Ab l U))
end
section
theorem On.more (S:On W k ob X f g N J)(h:∀b∈X,b∈Y):On W k ob Y f g N J:=
 ⟨S.ck,S.ju,S.fn,λ A s i v e x l a o w b c d j r=>S.step A s i v e x l a o w b c d j (r.ag h)⟩
theorem Xq (h:x≠y)(o:s.heap.get? x=some b)(w:s.heap.get? y=some a)(k:a.cls≠.type "tuple")(z:Q (.bool false) s):wpAny M A (compareOp .Is (.ref x) (.ref y)) Q E s:=by
 show wpAny M A (do return .bool (<-isSame (.ref x) (.ref y))) Q E s;refine Aa ?_;show wpAny M A (if(x==y)=true then pure true else _) _ E s;rw[Ak (by simpa using h)];refine Aa (Hd o (Aa (Hd w ?_)));split
 ·rename_i _ C _ _;exact absurd C k
 ·exact Af (Af z)
theorem Vs (k:wpAny W.M A.in1 (pyIter (.ref a)) (λ v h=>∃b,v=.ref b/\c v h) (λ _ _=>False) s):wpAny W.M A (call (.builtin "iter") [.ref a]) c E s:=by
 refine call_function_entry {_} {_} kdk_entry_iter (kdk_args_iter _) ?_;unfold Builtin.«iter»;refine Aa (m:=someArgs "iter" 1 2 _) (AA (a:=[Value.ref a]) (by first |rfl |kernel_rfl!) ?_);show wpAny _ _ (pyIter (.ref a) >>=_) _ _ _;refine Aa (BP k (λ v h o=>?_) λ _ _ x=>x.elim);obtain⟨b,rfl,q⟩:=o;exact Af ⟨_,rfl,q⟩
end
def QL (E H N O Q V W Z a k o s w z A C b c d e f g i:Pos)(h:List Stmt):List Stmt:=
 [.Assign [.Name "it" E] (.Call (.Name "iter" H) [.Name "sequence" N] [] O) Q,.If (.Compare (.Name "initial" V) [.Is] [.Name "_initial_missing" W] Z) h [.Assign [.Name "value" a] (.Name "initial" k) o] s,
   .For (.Name "element" b) (.Name "it" w) [.Assign [.Name "value" c] (.Call (.Name "function" d) [.Name "value" e,.Name "element" f] [] g) i] [] z,.Return (some (.Name "value" A)) C]
structure Uy (W:BH)(mg mb:Str->Option Value)(a:Addr):Prop where
 ex:∃fd q1 q2 q3 q4 q5 q6 q7 q8 q9 q10 q11 q12 q13 q14 q15 q16 p1 p2 p3 p4 p5 p6 p7 bTry,EF W a fd ["function","sequence","initial"] (QL q1 q2 q3 q4 q5 q6 q7 q8 q9 q10 q11 q12 q13 q14 q15 q16 p1 p2 p3 p4 p5 p6 p7 bTry)/\
  (fd.scope.names.lookup ("it":Str)=some .local/\fd.scope.names.lookup ("value":Str)=some .local/\fd.scope.names.lookup ("element":Str)=some .local/\fd.scope.names.lookup ("function":Str)=some .local)/\Bz fd.scope "iter"=true/\Bz fd.scope "_initial_missing"=true
 iter:mg "iter"=none/\mb "iter"=some (.builtin "iter")
 miss:∃mi o,mg "_initial_missing"=some (.ref mi)/\W.h0.get? mi=some o/\o.cls≠.type "tuple"/\o.cls≠.type "frame"/\o.cls≠.none
section
theorem Fe (h:V.names.lookup x=some .local)(k:CC x=true):AR V x=true:=by unfold AR;rw[h];simp[k]
theorem L7 (Gk:Dh W C l mg mb)(R:Uy W mg mb a)(hA:Cg (k+1) A)(G:Gd W s)(hX:∀b∈X,W.h0.get? b=none/\∃o,s.heap.get? b=some o)(hs:Rp W X s.heap j (.list g))(Z:∀B,ob=some B->B∈X/\∀o,s.heap.get? B=some o->(∀vs,o.data≠.fields vs)/\o.cls≠.type "frame")(c7:A.frames=some c)(a6:AQ W s.heap c)
 (ht:W.h0.get? t=none/\∃o,s.heap.get? t=some o) (S:On W k ob X f g (Gh s.heap ob) J) (hJ:J 0 (.ref t) s.heap)
 (hQ:∀T tk v,A8 W (Gh s.heap ob) T->s.toks<=tk->J g.length v T->Q v #[s,T,tk]):wpAny W.M A (call (.ref a) [f,j,.ref t]) Q E s:=by
 obtain⟨fd,q1,q2,q3,q4,q5,q6,q7,q8,q9,e4,e5,e6,c8,e7,e8,e9,p1,p2,p3,p4,p5,p6,p7,e0,fo,⟨n1,n2,n3,n4⟩,g1,g2⟩:=R.ex;obtain⟨mi,om,c9,a7,d0,d1,d2⟩:=R.miss;refine Eg fo hA G hX (args:=[.al f,.aa (.list g),.al (.ref t)]) (.al (.aa hs (.al .nil))) rfl λ w y n he B e2 a8 H=>?_;have M:∀x,w.kindOf x=fd.scope.names.lookup x:=λ x=>by rw[he];rfl
 have a9:=hA.down w;have b0:∀B,ob=some B->W.h0.get? B=none:=λ B q=>(hX B (Z B q).1).1;have Y:A8 W W.h0 (Gh s.heap ob):=Np G.am b0 λ B q o vs e=>((Z B q).2 o e).1 vs;have b1:W.dc (Gh s.heap ob):=by
  cases ob with
  |none=>exact G.ea
  |some B=>exact KC G.ea λ o vs e=>((Z B rfl).2 o e).1 vs
 have O:∀b,s.heap.get? b=none->(Gh s.heap ob).get? b=none:=λ b e=>by
  cases ob with
  |none=>exact e
  |some B=>exact J5 e
 have D:A8 W (Gh s.heap ob) s.heap:=by
  cases ob with
  |none=>exact .refl _
  |some B=>exact Qb
 have a0:AQ W (Gh s.heap ob) c:=a6.imp λ e3 fc=>by
  obtain⟨o,es,ep,L,hc,hd⟩:=fc;refine⟨o,es,ep,?_,hc,hd⟩;rw[Hx λ B q q'=>((Z B q).2 o (q'▸L)).2 hc];exact L
 have f0:=H.F;unfold QL;have lf:∀{x:Str}{sl:BL},([("function",BL.al f),("sequence",BL.aa (.list g)),("initial",BL.al (.ref t))]:List (Str×BL)).lookup x=some sl->((["function","sequence","initial"]:List Str).zip [BL.al f,BL.aa (.list g),BL.al (.ref t)]).lookup x=some sl:=λ h=>h;refine Al (Bf (t:=.Name "it" q1) rfl rfl rfl (BG (BM Gk H.F (H.gd B) g1 (.inr R.iter) ?_)));rw[AN q4 w [.Name "sequence" q3] rfl];refine Fr rfl (A1 (Av (H.F.name (x:="sequence") (sl:=.aa (.list g)) (lf ⋯) λ d3 b2=>AV ?_)));obtain⟨la,e1⟩:∃la,d3=.ref la:=by cases b2;exact⟨_,rfl⟩
 subst e1;refine Vs (Eo (s:=#[s,y,n]) (.list b2) λ I U hI f1 hk d4=>⟨I,rfl,?_⟩);have a1:I∉Ay w++X:=λ q=>by obtain⟨o,L⟩:=H.F.ah I q;rw[hI] at L;cases L
 obtain⟨St,d5,a2⟩:=LJ.of (A:=A.deeper w) (d4 a1) Ac a9.handled;have b3:A8 W y U:=.ad hk;have b4:XS W fd.scope w s.heap (Ay w++X) (Ay w++X) #[s,U,n] _:=H.ac (tk:=n) b3 (Am _);refine XS.fg B b4 (x:="it") (sl:=.al (.ref I)) (Fe n1 {_}) rfl (λ d q=>nomatch q) λ b5 d6 V a3 b6=>?_;obtain⟨ot,d7⟩:=AP V.le ht.2;have b7:b5.get? mi=some om:=(B.am.trans V.le).keep a7 d1 d2;have d8:t≠mi:=λ q=>by have:=ht.1;rw[q,a7] at this;cases this
 refine Al (Jz (QT (FI.al V.F (v:=.ref t) (by rw[Aw,Ak {_}];kernel_rfl) (BM Gk V.F (V.gd B) g2 (.inl c9) (Xq d8 d7 b7 d0 (CV ?_)))) (by rfl)));simp only[Aq,AS];refine Al (Bf (t:=.Name "value" q9) rfl rfl rfl (FI.al V.F (v:=.ref t) (by rw[Aw,Ak {_}];kernel_rfl) ?_));refine XS.fg B V (x:="value") (sl:=.al (.ref t)) (Fe n2 {_}) rfl (λ d q=>nomatch q) λ u p N a4 b8=>AZ ?_;have d9:¬Ck fd.scope w I:=λ q=>a1 (AT _ (by
  rcases q with q |⟨x,_,q⟩
  ·exact q▸Ac
  ·exact Bq q))
 have mv:∀{i:Nat}{h T:Heap},St i h->Kg W (Ck fd.scope w) h T->St i T:=λ{i h T} st P=>a2.frame i h T st (λ o e=>P.keep I o d9 e) λ b o hb e _=>P.keep b o (λ q=>hb (Ad _ (AT _ (by
  rcases q with q |⟨x,_,q⟩
  ·exact q▸Ac
  ·exact Bq q)))) e
 have b9:=mv (mv d5 a3) a4;refine Al ?_;rw[QI];refine Aa (AI (Aa (FI.al (s:=#[s,u,p]) N.F (v:=.ref I) (by rw[Aw,Ak {_},Aw,Ap rfl]) (Aa (AA (EP (e:=.Name "it" c8) rfl w _) (Aa (AI (Aa (AF (a2.self 0 #[s,u,p] _ _ b9 ?_))))))))));refine Kl (h:=none) ?_;rw[GC];have c0:s.heap.get? w.locals=none:=B.wr _ (.inl rfl);have c1:s.heap.get? I=none:=by
  cases q:s.heap.get? I with
  |none=>rfl
  |some o=>obtain⟨o',c2⟩:=AP H.le ⟨o,q⟩;have z:y.get? I=none:=hI;rw[z] at c2;cases c2
 have c3:I≠w.locals:=λ q=>a1 (AT _ (q▸Ac));have c4:Yk W (Gh s.heap ob) w f J St 0 (.ref t) u:=by
  obtain⟨m,hn,hm⟩:=N.F.ns;refine⟨b9,⟨m,hn,?_,?_⟩,N.fc,D.trans N.le,S.ck _ _ _ _ (λ b o e hd=>Ce N.le e hd) hJ⟩
  ·obtain⟨v,e,r⟩:=hm "function" (.al f) n4 (by rw[Aw,Ak {_},Aw,Ak {_}];kernel_rfl);have r':v=f:=r;rw[e,r']
  ·obtain⟨v,e,r⟩:=hm "value" (.al (.ref t)) n2 (by rw[Aw,Ap rfl]);have r':v=.ref t:=r;rw[e,r']
 refine WA (s:=#[s,u,p]) (S.more (Y:=I::(Ay w++X)) λ b hb=>Ad _ (Ax _ hb)) a2 a9 N.F.kind (by rw[M];exact n4) (by rw[M];exact n2) (by rw[M];exact n3) c3 Ac (O I c1) (O _ c0) (Ad _ (AT _ Ac)) Y b1 N.tk (λ B' q=>⟨Ad _ (Ax _ (Z B' q).1),?_,?_,?_⟩) (outer:=c) (by show A.frames.map (w::·)=_;rw[c7];rfl) (by rw[he];rfl) (H.F.alive w.locals (H.F.zx _ (H.F.aw _ Ac))).1 a0 c4 λ c5 a5 v x c6=>?_
 ·subst q;exact GG
 ·intro q';obtain⟨o,L⟩:=(hX B' (Z B' q).1).2;rw[q',c1] at L;cases L
 ·intro q';obtain⟨o,L⟩:=(hX B' (Z B' q).1).2;rw[q',c0] at L;cases L
 obtain⟨m,hn,m1,m2⟩:=x.ns;refine Al (CW (PK (Ek N.F.kind (by rw[M];exact n2) hn m2 ?_)));exact hQ c5 a5 v x.le (Ab a8 (Ab b6 (Ab b8 c6))) x.j
end
theorem BX.af (K:BY V z Z X h H)(A:a∈Z)(C:¬Ck V z a):∀{d:PV},BX W X h a d->BX W X H a d
 | .list _,⟨E,n,e,k,r⟩=>⟨E,n,K _ _ (.inr ⟨A,C,(_),(_)⟩) e,k,r.bc λ b o e n hd=>⟨K b o (.inl ⟨n,hd⟩) e,n⟩⟩
  | .dict _,⟨s,e,y,k,q,r⟩=>⟨s,by
   obtain⟨o,N,O,Q,w,r⟩:=e;exact⟨o,N,O,K _ _ (.inr ⟨A,C,by rw[w.1];simp,by rw[w.1];simp⟩) Q,w,r⟩,y,k,q,r.bc λ b o e n hd=>⟨K b o (.inl ⟨n,hd⟩) e,n⟩⟩
structure V5 (W:BH)(A:Around)(env:Env)(hb:Heap)(outer:List Env):Prop where
 fr:A.frames=some (env::outer)
 kind:env.scope.kind≠.module
 bh:env.frame=some env.locals
 out:AQ W hb outer
 hh:A.handled=none
theorem V5.stack (h:V5 W A z N a)(S:XS W V z N Z X s O):AQ W s.heap (z::a):=
 ⟨h.kind,h.bh,(S.F.alive z.locals (S.F.zx _ (S.F.aw _ Ac))).1,S.fc,h.out.bb S.le⟩
theorem RP {Cl D:Addr}{m:List Value}{c:List Stmt}{p j r u v y G l:Pos}{i:List (Str×PV)}{b:List Env}{x:Str}(Gk:Dh W C k mg mb)(B:XB W V z N)(b6:V5 W A z N b)(hu:A.units+2<cLine)(I:HS W V z N Z X D i (z::b) s O)(xo:D8 W mg x Cl m){f:Str}
 (R:Rz W A (execs c z) s (z::b) Cl f) (b1:Bz V x=true) (b2:Bz V "str"=true) {n wds:Str} (hn:V.names.lookup n=some .local) (Y:CC n=true) (hw:AR V wds=true) (b7:n≠wds) {g:Flow->Shared->Prop}
 (hQ:∀h' tk e,HS W V z N Z X D i (z::b) #[s,h',tk] (NS (AM (AM O n (.al (.ref e))) wds (.aa (.str f))) n)->BY V z Z X s.heap h'->s.toks<=tk->g .next #[s,h',tk]):
 wpAny W.M A (exec (.Try c [.ExceptHandler (some (.Name x p)) (some n) [.Assign [.Name wds j] (.Call (.Name "str" r) [.Name n u] [] v) y] G] [] [] l) z) g E s:=by
 refine IR (R _ _ λ a0 o e t w o1 z1 F St=>PL (s:=#[s,a0,o]) (_) b6.fr St F λ a1 a2 J=>?_);refine H8 (s:=#[s,a1,o]) Gk B xo xo (b:=true) (_) (tk0:=s.toks) I.S w a2 J b1 (n:=n) (by unfold AR;rw[hn,Y];rfl) (λ _ H L h M a3 b3 a4=>?_) λ q=>nomatch q
 have a5:=h.gd B;refine Al (Bf (t:=.Name wds j) rfl rfl rfl (KQ (A:=A.mark (some (.ref e))) (s:=#[s,H,L]) Gk h.F a5 (n:=n) (by rw[Aw,Ap rfl]) b2 xo (show A.units+2<cLine from hu) a3 ?_));refine XS.fg B h (x:=wds) (sl:=.aa (.str f)) hw (.str f t o1 z1) (λ d q=>nomatch q) λ a6 b4 a7 S a8=>AZ ?_;refine XS.fu B a7 hn Y λ a9 T Q U b0=>?_;have b5:BY V z Z X H a6:=S.af λ a ha=>h.F.bo ha;have kd:=(M.trans b5).trans U;exact hQ a9 T e ⟨Q,I.dD.af kd I.zD I.dw,b6.stack Q,I.zD,I.fD,I.bD⟩ kd (Ab w (Ab a4 (Ab a8 b0)))
def Mr (k:BH)(w:Heap)(X:List Addr)(D:Addr)(z:List (Str×PV))(A C:PV)(o:Shared)(E:JD):Prop:=
 ∀h s t n v2 v3,A8 k w h->o.toks<=s->h.get? t=some (JI #[.ref D,v2,v3] n)->Rp k X h v2 A->Rp k X h v3 C->BX k X h D (.dict z)->t∉X->E (.ref t) #[o,h,s]
theorem Mr.ba (x:Mr W N X D j m i s Q)(l:s.toks<=p):Mr W N X D j m i #[s,H,p] Q:=
 λ H h t n v2 v3 a b c d e f g=>x H h t n v2 v3 a (Ab l b) c d e f g
theorem ND (F:FI W V z Z X h O)(s:h.get? t=none):t∉X:=λ q=>by
 obtain⟨o,k⟩:=F.ah t q;rw[s] at k;cases k
theorem Pm (w:HS W V z N Z X D g l s O)(C:O.lookup c=some (.al (.ref D)))(H:Bk e=true)(Q:Bk b=true)(q:BR W A (eval e z) s λ v o=>Rp W X o v i)
 (r:∀k h,A8 W s.heap k->s.toks<=h->BR W A (eval b z) #[s,k,h] λ v o=>Rp W X o v d) (u:Mr W N X D g i d s λ v x=>f (.ret v) x):
 wpAny W.M A (exec (.Return (some (.Tuple [.Name c m,e,b] p j)) a) z) f E s:=
 CW (QW w.S.F C H Q q r λ o y t n v2 v3 K B G I J L=>u o y t n v2 v3 (w.S.le.trans K) B I J L (w.dD.ac K) (ND w.S.F G))
theorem N6 {D:Addr}{p:PV}{R:Nat}{G I J L M S y:Pos}{m:List PV}{r:List (Str×PV)}{j:List Env}{l:Str}(B:XB W V z N)(b1:HS W V z N Z X D r (z::j) s O){e:Addr}{n g i:Str}{d:Heap}{c:Nat}(k:XS W V z N Z X #[s,d,c] (AM O n (.al (.ref e))))(U:BY V z Z X s.heap d)(a3:s.toks<=c)
 (hn:V.names.lookup n=some .local) (b2:CC n=true) {u:Str} (b3:O.lookup g=some (.al (.ref D))) (b4:O.lookup i=some (.aa p)) (b5:O.lookup l=some (.aa (.list m))) (Y:g≠n/\i≠n/\l≠n) (hz:m.length+1<=Bi)
 {a:Expr} (b6:Bk a=true) (he:∀h tk,A8 W d h->c<=tk->BR W (A.mark (some (.ref e))) (eval a z) #[s,h,tk] λ v h'=>Rp W X h' v (.str u)) {x:Pos} {q:Flow->Shared->Prop}
 (hQ:Mr W N X D r p (.list (m++[.str u])) s λ v s'=>q (.ret v) s'):
 wpAny W.M (A.mark (some (.ref e))) (execs [.Return (some (.Tuple [.Name g G,.Name i I,.BinOp (.Name l J) .Add (.List [a] L) M] R S)) x] z) (λ f a4=>wpAny W.M A (do bindName z n .none;unbindBehindTheSuite z n y) (λ _ a5=>q f a5) E a4) (λ _ _=>False) #[s,d,c]:=by
 have y1:(AM O n (.al (.ref e))).lookup g=some (.al (.ref D)):=by rw[Aw,Ak Y.1];exact b3
 have y2:(AM O n (.al (.ref e))).lookup i=some (.aa p):=by rw[Aw,Ak Y.2.1];exact b4
 have y3:(AM O n (.al (.ref e))).lookup l=some (.aa (.list m)):=by rw[Aw,Ak Y.2.2];exact b5
 refine Al (CW (QW k.F y1 rfl rfl (Jr k.F y2) (λ H C Q a0=>Si (s:=#[s,H,C]) (k.F.ac Q) y3 b6 (he H C Q a0) hz) λ a6 a1 t n' v2 v3 K lt fr ht r2 r3=>?_));have a7:=k.ac (tk:=a1) K lt;refine XS.fu B a7 hn b2 λ T a2 a8 w a9=>?_;have tX:t∉X:=ND k.F fr;have b0:∀b o,a6.get? b=some o->b∉X->(o.cls=.type "list"\/o.cls=.type "tuple"\/o.cls=.type "dict")->T.get? b=some o/\b∉X:=λ b o e nx hd=>⟨w b o (.inl ⟨nx,hd⟩) e,nx⟩;have kd:=(U.trans (A8.af K)).trans w;refine hQ T a2 t n' v2 v3 a8.le (Ab a3 (Ab lt a9)) (w t _ (.inl ⟨tX,.inr (.inl rfl)⟩) ht) (Rp.bc b0 r2) (Rp.bc b0 r3) (b1.dD.af kd b1.zD b1.dw) tX
theorem Wk {Cl:Addr}{c:List Value}{f d:Pos}{x:Str}(h:Dh W C k mg mb)(F:FI W V z Z X s.heap O)(G:Gd W s){n:Str}{b:Pos}{e:Addr}{a:Str}{t:Tok}(o:O.lookup n=some (.al (.ref e)))(w:Bz V "str"=true)(H:D8 W mg x Cl c)(N:A.units+2<cLine)
 (I:Gn s.heap e (.ref Cl) (.str a t)) (g:PyData.strOk a=true) (i:a.length<=Bi):BR W A (eval (.Call (.Name "str" d) [.Name n b] [] f) z) s (λ v j=>Rp W X j v (.str a)):=λ Q E l=>
 KQ h F G o w H N I (l _ s.heap s.toks (.refl _) (Am _) (.str a t g i))
theorem WH (F:FI W V z Z X s.heap O)(l:PyData.strOk c=true/\c.length<=Bi)(n:∀m,s.toks<=m->BR W A (eval e z) {s with toks:=m} λ v i=>Rp W X i v (.str a))(p:EY .Add (.str c) (.str a)=some (.str u)):
 BR W A (eval (.BinOp (.Constant (.str c) b d) .Add e f) z) s (λ v i=>Rp W X i v (.str u)):=λ Q E q=>by
 refine MH (He (n _ (A6 _) _ _ λ v w k h C r=>?_));exact Ke (s:=#[s,w,k]) (F.ac h).ah (.str c s.toks l.1 l.2) r p _ _ λ v3 H o N g j=>q v3 H o (h.trans N) (Ab (Ab (A6 _) C) g) j
theorem NA {Cl D:Addr}{T:PV}{J:List Value}{g:List Stmt}{k1:Nat}{p1 p2 p3 p4 p5 p6 a0 q1 q2 q3 q4 q5 q6 q7 q8:Pos}{L:List PV}{S:List (Str×PV)}{d:List Env}{x y:Str}(Gk:Dh W C k mg mb)(B:XB W V z N)(c7:V5 W A z N d)(hu:A.units+2<cLine)(b8:HS W V z N Z X D S (z::d) s O){l m:Str}{C1 G:Addr}{p r:List Value}(xo:D8 W mg x Cl J)(b9:D8 W mg l C1 p)(c0:D8 W mg m G r)
 {b1:Bool} (c1:(Value.ref Cl::J).contains (.ref C1)=b1) (c2:b1=false->(Value.ref Cl::J).contains (.ref G)=true) {f u:Str} (R:Rz W A (execs g z) s (z::d) Cl f) (c3:Bz V l=true) (c4:Bz V m=true) (c5:Bz V "str"=true)
 (hw:if b1=true then EY .Add (.str "no ") (.str f)=some (.str u) else u=f) {n i j:Str} (hn:V.names.lookup n=some .local) (a9:CC n=true) (b2:O.lookup i=some (.al (.ref D))) (b3:O.lookup j=some (.aa T)) (b4:O.lookup y=some (.aa (.list L))) (b5:i≠n/\j≠n/\y≠n) (hz:L.length+1<=Bi)
 {U Y p9 q9 r1 r2 r3 r4 r5 r6 r7 r8:Pos} {k2 k3:Nat} {M:Flow->Shared->Prop} (hQ:Mr W N X D S T (.list (L++[.str u])) s λ v s'=>M (.ret v) s'):
 wpAny W.M A (exec (.Try g [.ExceptHandler (some (.Name l r1)) (some n) [.Return (some (.Tuple [.Name i p1,.Name j p2,.BinOp (.Name y p3) .Add (.List [.BinOp (.Constant (.str "no ") k3 r2) .Add (.Call (.Name "str" r3) [.Name n r4] [] r5) r6] p4) p5] k1 p6)) U] Y,
  .ExceptHandler (some (.Name m r7)) (some n) [.Return (some (.Tuple [.Name i q1,.Name j q2,.BinOp (.Name y q3) .Add (.List [.Call (.Name "str" q8) [.Name n q9] [] p9] q4) q5] k2 q6)) q7] r8] [] [] a0) z) M E s:=by
 have b6:AR V n=true:=by unfold AR;rw[hn,a9];rfl
 refine IR (R _ _ λ b7 Q e t a2 o1 z1 F St=>PL (s:=#[s,b7,Q]) (_) c7.fr St F λ a6 a7 a3=>?_);have a8:∀{w:Heap}{H:Nat},XS W V z N Z X #[s,w,H] (AM O n (.al (.ref e)))->Gn w e (.ref Cl) (.str f t)->∀h tk,1<=tk->A8 W w h->∀{a b c:Pos},BR W (A.mark (some (.ref e))) (eval (.Call (.Name "str" a) [.Name n b] [] c) z) #[s,h,tk] (λ v h'=>Rp W X h' v (.str f)):=
  λ{w H} o I h tk ht K{a b c}=>Wk (s:=#[s,h,tk]) Gk (o.F.ac K) ⟨(o.gd B).am.trans K,K.2 (o.gd B).ea,ht⟩ (by rw[Aw,Ap rfl]) c5 xo (show A.units+2<cLine from hu) (I.bb (_) K) o1 z1
 refine H8 (s:=#[s,a6,Q]) Gk B xo b9 (b:=b1) c1 (tk0:=s.toks) b8.S a2 a7 a3 c3 (n:=n) b6 (λ q w H o a1 a4 b0 a5=>?_) λ q=>?_
 ·subst q;rw[Ap rfl] at hw;refine N6 (s:=s) B b8 o a1 (Ab a2 a5) hn a9 b2 b3 b4 b5 hz rfl (λ h tk K lt=>WH (s:=#[s,h,tk]) (o.F.ac K) ⟨{_},{_}⟩ (λ c6 lt'=>a8 o a4 h c6 (Ab o.tk (Ab lt lt')) K) hw) hQ
 ·subst q;rw[Ak {_}] at hw;subst hw;refine H8 (s:=#[s,a6,Q]) Gk B xo c0 (b:=true) (c2 rfl) (tk0:=s.toks) b8.S a2 a7 a3 c4 (n:=n) b6 (λ q w H o a1 a4 b0 a5=>?_) λ q=>nomatch q
  exact N6 (s:=s) B b8 o a1 (Ab a2 a5) hn a9 b2 b3 b4 b5 hz rfl (λ h tk K lt=>a8 o a4 h tk (Ab o.tk lt) K) hQ
theorem FI.sameBut (F:FI W V z Z X h O)(w:Heap.SameBut D h H)(a:D∈X)(f:D∉Ay z)(A:∀y d,O.lookup y≠some (.own d))(N:∃o,H.get? D=some o):FI W V z Z X H O:=
 have s:∀{y v k},O.lookup y=some k->Bg W Z X h v k->Bg W Z X H v k:=λ{y v k} C r=>by
  cases k with
  |aa e=>exact Rp.az w a r
  |al u=>exact r
  |bl u d=>exact⟨r.1,Rp.az w a r.2⟩
  |own e=>exact absurd C (A y e)
 {F with
  ns:=by
   obtain⟨m,j,Q⟩:=F.ns;exact⟨m,j.sameBut w (λ q=>f (q▸Ac)),λ y k C E=>let⟨v,e,r⟩:=Q y k C E;⟨v,e,s E r⟩⟩
  cell:=λ y C=>by
   obtain⟨c,l,e,i,Q⟩:=F.cell y C;exact⟨c,l,e,i.sameBut w (λ q=>f (q▸Bq e)),λ k E=>let⟨v,n,r⟩:=Q k E;⟨v,n,s E r⟩⟩
  alive:=λ b g=>⟨(F.alive b g).1,EH w N (F.alive b g).2⟩}
theorem RT (B:XB W V z N)(J:JE W A p)(x:HS W V z N Z X D g l s O)(hd:p.ev V O (.Call (.Name f i) args [] j)=some d)(L:AR V a=true)
 (M:∀G y,HS W V z N Z X D g l #[s,G,y] (AM O a (.aa d))->s.toks<=y->e .next #[s,G,y]):
 wpAny W.M A (exec (.Try [.Assign [.Name a m] (.Call (.Name f i) args [] j) r] (b::c) [] [] n) z) e E s:=by
 refine IR (Al (Bf (t:=.Name a m) rfl rfl rfl ((J V z).ev O _ d hd Z X s x.S.F (x.S.gd B) _ _ λ v I o H h R=>?_)));have k:=x.ac (tk:=o) H h;refine XS.fg B k.S (x:=a) (sl:=.aa d) L R (λ d q=>nomatch q) λ Q w t C u=>AZ (AZ ?_);exact M Q w (k.bf t C) (Ab h u)
theorem RQ (B:XB W V z N)(Hp:JE W A p)(H:HS W V z N Z X D c (z::b) s O)(a1:V5 W A z N b)(h1:O.lookup e=some (.aa d))(h2:O.lookup f=some (.al (.ref D)))(hi:p.ev V O i=some (.str a))
 (S:∀y d,O.lookup y≠some (.own d)) (hz:c.length+1<=Bi) (hQ:∀Y U,HS W V z N Z X D (DZ c a d) (z::b) #[s,Y,U] O->s.toks<=U->g .next #[s,Y,U]):
 wpAny W.M A (exec (.Assign [.Subscript (.Name f l) i m] (.Name e n) j) z) g E s:=by
 refine wpAny_Assign_Subscript (Jr H.S.F h1 _ _ λ v x k T G rv=>?_) (by rfl);have C:=H.ac (tk:=k) T G;refine FI.al (s:=#[s,x,k]) C.S.F h2 ?_;refine(Hp V z).ev O i _ hi Z X #[s,x,k] C.S.F (C.S.gd B) _ _ λ kv a0 w I J rk=>?_;have h:=C.ac (tk:=w) I J;have M:=rv.ac I;cases rk with |str _ t o1 z1=>
 obtain⟨R,e1,y,a2,q,rl⟩:=h.dD;have a3:R.length=c.length:=by simpa using Cb List.length q
 have a4:=Ei;refine wpAny_setItem_pairs (knd:=W.K) (k:=a) (by simp[BH.K,_root_.PySem.strKind,Value.isStrOf]) e1 (λ Q hm u=>?_) ∅;obtain⟨r1,r2⟩:=La (k:=a) q rl M;have a5:=FW c a d;have a6:(stored R a v).length=(DZ c a d).length:=by simpa using Cb List.length r1
 have hX:D∈X:=H.S.F.zx _ H.zD;have r:BX W X Q D (.dict (DZ c a d)):=⟨_,hm,y,∅,r1,r2.az u hX⟩;have nf:=Hg (W:=W) (X:=X) (d:=.dict c) ⟨R,e1,y,a2,q,rl⟩;have L:XS W V z N Z X #[s,Q,w+1] O:=
  ⟨h.S.F.sameBut u hX H.fD S r.alive,h.S.le.az H.bD nf u,BD h.S.tk,H.S.fr,h.S.fc.at λ o ho=>(u.2 _ λ q=>H.fD (q▸Ac)).trans ho⟩
 exact hQ Q (w+1) ⟨L,r,a1.stack L,H.zD,H.fD,H.bD⟩ (Ab G (BD J))
def FU (k:Str)(h o s:Expr)(P:Nat->Pos)(K:Nat->Nat):List Stmt:=
 [.Assign [.Tuple [.Name "book" (P 0),.Name "heard" (P 1),.Name k (P 2)] (K 0) (P 3)] (.Name "state" (P 4)) (P 5),
  .Try [.Return (some (.Tuple [.Name "book" (P 6),.BinOp (.Name "heard" (P 7)) .Add (.List [h] (P 8)) (P 9),.Name k (P 10)] (K 1) (P 11))) (P 12)]
   [.ExceptHandler (some (.Name "error_reply" (P 13))) (some "error") [.Assign [.Name "words" (P 14)] (.Call (.Name "str" (P 15)) [.Name "error" (P 16)] [] (P 17)) (P 18)] (P 19)] [] [] (P 20),
  .Try [.Assign [.Name "found" (P 21)] (.Call (.Name "parse229" (P 22)) [.Name "words" (P 23),.Tuple [.Constant (.str "peer") (K 2) (P 24),.Constant (.int 21) (K 3) (P 25)] (K 4) (P 26)] [] (P 27)) (P 28)]
   [.ExceptHandler (some (.Name "error_reply" (P 29))) (some "error") [.Return (some (.Tuple [.Name "book" (P 30),.Name "heard" (P 31),.BinOp (.Name k (P 32)) .Add (.List [.BinOp (.Constant (.str "no ") (K 5) (P 33)) .Add (.Call (.Name "str" (P 34)) [.Name "error" (P 35)] [] (P 36)) (P 37)] (P 38)) (P 39)] (K 6) (P 40))) (P 41)] (P 42),
    .ExceptHandler (some (.Name "error_proto" (P 43))) (some "error") [.Return (some (.Tuple [.Name "book" (P 44),.Name "heard" (P 45),.BinOp (.Name k (P 46)) .Add (.List [.Call (.Name "str" (P 47)) [.Name "error" (P 48)] [] (P 49)] (P 50)) (P 51)] (K 7) (P 52))) (P 53)] (P 54)] [] [] (P 63),
  .Assign [.Subscript (.Name "book" (P 55)) s (P 56)] (.Name "found" (P 57)) (P 58),
  .Return (some (.Tuple [.Name "book" (P 59),o,.Name k (P 60)] (K 8) (P 61))) (P 62)]
def Il (P:Nat->Pos)(K:Nat->Nat):Expr:=.Call (.Name "parse229" (P 22)) [.Name "words" (P 23),.Tuple [.Constant (.str "peer") (K 2) (P 24),.Constant (.int 21) (K 3) (P 25)] (K 4) (P 26)] [] (P 27)
def F6 (k:BH)(C:Nat)(w:Scope)(x:Str)(v:Str)(e:Expr)(f:Str)(Cl:Addr)(E:Str):Prop:=
 ∀(A:Around)(h:Env)(z:Heap)(Z X:List Addr)(s:Shared)(o:AC)(l:List Env),Cg C A->A.frames=some l->AQ k s.heap l->XB k w h z->XS k w h z Z X s o->o.lookup x=some (.aa (.str v))->o.lookup f=none->Rz k A (eval e h) s l Cl E
def M1 (p:JV)(k:Scope)(x:Str)(v:Str)(e:Expr)(f:Str)(d:PV):Prop:=∀h:AC,h.lookup x=some (.aa (.str v))->h.lookup f=none->p.ev k h e=some d
inductive Ss (W:BH)(p:JV)(k:Nat)(sc:Scope)(P:Nat->Pos)(K:Nat->Nat)(inner last idx:Expr)(C1 C2:Addr)(r:Str)(es:List (Str×PV))(hs ss:List PV):List (Str×PV)->List PV->List PV->Prop
 |ie (d0):M1 p sc "reply" r inner "parse257" d0->hs.length+1<=Bi->Ss W p k sc P K inner last idx C1 C2 r es hs ss es (hs++[d0]) ss
 |gu (w0 w' u):F6 W k sc "reply" r inner "parse257" C1 w0->F6 W k sc "words" w0 (Il P K) "parse229" C1 w'->EY .Add (.str "no ") (.str w')=some (.str u)->ss.length+1<=Bi->Ss W p k sc P K inner last idx C1 C2 r es hs ss es hs (ss++[.str u])
 |gx (w0 w'):F6 W k sc "reply" r inner "parse257" C1 w0->F6 W k sc "words" w0 (Il P K) "parse229" C2 w'->ss.length+1<=Bi->Ss W p k sc P K inner last idx C1 C2 r es hs ss es hs (ss++[.str w'])
 |ig (w0 d0 key hs'):F6 W k sc "reply" r inner "parse257" C1 w0->M1 p sc "words" w0 (Il P K) "parse229" d0->(∀ρ:AC,ρ.lookup ("heard":Str)=some (.aa (.list hs))->p.ev sc ρ idx=some (.str key))->(∀ρ:AC,ρ.lookup ("heard":Str)=some (.aa (.list hs))->p.ev sc ρ last=some (.list hs'))->es.length+1<=Bi->
  Ss W p k sc P K inner last idx C1 C2 r es hs ss (DZ es key d0) hs' ss
variable {gs:List Comprehension}{st:Stmt} in
structure K2 (sc:Scope)(x3:Str)(inner last:Expr):Prop where
 st:(AR sc "book"&&AR sc "heard"&&AR sc x3)=true
 jr:sc.names.lookup ("error":Str)=some .local
 wds:AR sc "words"=true
 km:AR sc "found"=true
 g1:Bz sc "error_reply"=true
 g2:Bz sc "error_proto"=true
 gs:Bz sc "str"=true
 ni:Bk inner=true
 nl:Bk last=true
 x3:x3="spoiled"\/x3="refused"
section
theorem Ik:∀(k:List (Str×NameKind))(n m:Nat)(h:List (Str×Addr)),m<=n->(∀p∈h,m<=p.2)->∀p∈cellsFrom n k h,m<=p.2
 |[],n,m,h,s,w,p,o=>w p o
  |(x,A)::r,n,m,h,s,w,p,o=>by
   unfold cellsFrom at o;split at o
   ·exact Ik r (n+1) m _ (BD s) (λ q z=>by
     rcases Ag.mp z with rfl |z
     ·exact s
     ·exact w q z) p o
   ·exact Ik r n m h s w p o
theorem Mj:∀b∈Ay (callEnvC fd h.objs.size a),h.get? b=none:=λ b k=>by
 rcases Ag.mp k with q |q
 ·rw[q];exact Bl h
 ·obtain⟨⟨n,c⟩,o,rfl⟩:=At.mp q;exact Fn (Nat.le_of_succ_le (Ik fd.scope.names _ (h.objs.size+1) [] (Am _) (λ p s=>by cases s) (n,c) o))
theorem BX.aq (s:∀a∈Y,h.get? a=none):∀{d:PV},BX W X h a d->BX W (Y++X) h a d
 | .list _,⟨w,n,e,z,r⟩=>⟨w,n,e,z,r.bc λ b o e n _=>⟨e,λ q=>(Au.mp q).elim (λ q=>by rw[s b q] at e;cases e) n⟩⟩
  | .dict _,⟨k,e,y,z,q,r⟩=>⟨k,e,y,z,q,r.bc λ b o e n _=>⟨e,λ q=>(Au.mp q).elim (λ q=>by rw[s b q] at e;cases e) n⟩⟩
theorem S5 {D a:Addr}{n:Nat}{J I S U:List PV}{x p:List (Str×PV)}{l:List Env}{m:Str}(Gk:Dh W C k mg mb){i j L:Expr}{P:Nat->Pos}{K:Nat->Nat}(fo:EF W a fd ["state","reply"] (FU m i j L P K))(T:K2 fd.scope m i j)(hA:Cg (k+1) A)(c5:A.frames=some l)(St:AQ W s.heap l)(G:Gd W s)
 (hX:∀b∈X,W.h0.get? b=none/\∃o,s.heap.get? b=some o) (hD:D∈X) {C1 Y:Addr} {a0 M:List Value} (x1:D8 W mg "error_reply" C1 a0) (x2:D8 W mg "error_proto" Y M) (c6:(Value.ref Y::M).contains (.ref C1)=false)
 {t nt:Nat} {v1 v2 e:Value} {r:Str} (hT:s.heap.get? t=some (JI #[.ref D,v1,v2] nt)) (dD:BX W X s.heap D (.dict x)) (r1:Rp W X s.heap v1 (.list I)) (r2:Rp W X s.heap v2 (.list J)) (re:Rp W X s.heap e (.str r))
 (R:Ss W (By C (n+1)) k fd.scope P K i j L C1 Y r x I J p S U) (hQ:Mr W (E3 s.heap D) X D p (.list S) (.list U) s Q):wpAny W.M A (call (.ref a) [.ref t,e]) Q E s:=by
 have b4:∃o,s.heap.get? D=some o/\o.cls=.type "dict":=by
  obtain⟨b5,⟨o,x,ep,ho,hc,_⟩,_⟩:=dD;exact⟨o,ho,hc.1⟩
 have c7:∀o vs,s.heap.get? D=some o->o.data≠.fields vs:=λ o vs ho q=>by
  obtain⟨b5,⟨o',p,ep,b1,hx,hd,_⟩,_⟩:=dD;rw[ho] at b1;cases b1;rw[hd] at q;cases q
 refine Eg fo hA G hX (args:=[.al (.ref t),.aa (.str r)]) (.al (.aa re .nil)) rfl λ H a7 a8 he B0 b8 b2 S0=>?_;have a5:=hA.down H;obtain⟨B,S1⟩:=XS.ft B0 S0 c7 (hX D hD).1;have fresh:∀b∈Ay H,s.heap.get? b=none:=by rw[he];exact Mj
 have c8:AQ W (E3 s.heap D) l:=St.imp λ d3 fc=>by
  obtain⟨o,x,ep,ho,hc,hd⟩:=fc;refine⟨o,x,ep,?_,hc,hd⟩;rw[EI (λ q=>by
   obtain⟨o',b1,c9⟩:=b4;rw[q,b1] at ho;cases ho;rw[c9] at hc;exact absurd hc (_))]
  exact ho
 have O:V5 W (A.deeper H) H (E3 s.heap D) l:=⟨by show A.frames.map (H::·)=_;rw[c5];rfl,by rw[S0.F.kind];simp,by rw[he];rfl,c8,a5.handled⟩
 have H0:HS W fd.scope H (E3 s.heap D) (Ay H++X) (Ay H++X) D x (H::l) #[s,a7,a8] _:=
  ⟨S1,(dD.aq fresh).ac S0.le,O.stack S1,Ax _ hD,b8 D hD,GG⟩
 have hu:(A.deeper H).units+2<cLine:=by have:=a5.units;show _<9900;omega
 have HQ:Mr W (E3 s.heap D) (Ay H++X) D p (.list S) (.list U) s (λ v s'=>Q v s'):=λ h' tk t n v2 v3 a b c d e f g=>
  hQ h' tk t n v2 v3 a b c (d.ag λ b hb=>Ax _ hb) (e.ag λ b hb=>Ax _ hb) (by
   obtain⟨b5,e1,y,z,q,rl⟩:=f;exact⟨b5,e1,y,z,q,rl.ag λ b hb=>Ax _ hb⟩) λ q=>g (Ax _ q)
 unfold FU;have d0:a7.get? t=some (JI #[.ref D,v1,v2] nt):=S0.le.keep hT (_) (_);refine Al (S4 (n:=nt) (s:=#[s,a7,a8]) a5.handled B H0 (y:="state") (T:=t) (d1:=.list I) (d2:=.list J) ⋯ d0 ((Rp.aq fresh r1).ac S0.le) ((Rp.aq fresh r2).ac S0.le) T.st λ a9 a6 H2 b3=>?_);obtain⟨a1,a3⟩:∃a1:AC,a1=AM (AM (AM ((["state","reply"]:List Str).zip [BL.al (.ref t),BL.aa (.str r)]) "book" (.al (.ref D))) "heard" (.aa (.list I))) m (.aa (.list J)):=⟨_,rfl⟩;rw[<-a3] at H2;have Z:m≠"book"/\m≠"heard"/\m≠"reply"/\m≠"error"/\m≠"words"/\m≠"found"/\m≠"parse257"/\m≠"parse229":=by
  rcases T.x3 with q |q<;>(rw[q];decide+kernel)
 have k1:a1.lookup ("book":Str)=some (.al (.ref D)):=by rw[a3,Aw,Ak Z.1.symm,Aw,Ak {_},Aw,Ap rfl]
 have k2:a1.lookup ("heard":Str)=some (.aa (.list I)):=by rw[a3,Aw,Ak Z.2.1.symm,Aw,Ap rfl]
 have k3:a1.lookup m=some (.aa (.list J)):=by rw[a3,Aw,Ap rfl]
 have k4:a1.lookup ("reply":Str)=some (.aa (.str r)):=by rw[a3,Aw,Ak Z.2.2.1.symm,Aw,Ak {_},Aw,Ak {_}];kernel_rfl
 have k5:a1.lookup ("parse257":Str)=none:=by rw[a3,Aw,Ak Z.2.2.2.2.2.2.1.symm,Aw,Ak {_},Aw,Ak {_}];kernel_rfl
 have k6:a1.lookup ("parse229":Str)=none:=by rw[a3,Aw,Ak Z.2.2.2.2.2.2.2.symm,Aw,Ak {_},Aw,Ak {_}];kernel_rfl
 have b9:∀y d,a1.lookup y≠some (.own d):=λ y d q=>by
  rw[a3,Aw] at q;split at q
  ·cases q
  ·rw[Aw] at q;split at q
   ·cases q
   ·rw[Aw] at q;split at q
    ·cases q
    ·have q':List.lookup y [(("state":Str),BL.al (.ref t)),(("reply":Str),BL.aa (.str r))]=some (.own d):=q;by_cases e1:y="state"
     ·subst e1;rw[An] at q';cases q'
     ·rw[Aj e1,GH] at q';split at q'<;>cases q'
 have Hp:=A2 Gk a5 (n+1);have first:∀(w:Str),F6 W k fd.scope "reply" r i "parse257" C1 w->∀{Q':Flow->Shared->Prop}{E':JD}{b0:List Stmt},(∀h' tk V,HS W fd.scope H (E3 s.heap D) (Ay H++X) (Ay H++X) D x (H::l) #[s,h',tk] V->s.toks<=tk->
  V.lookup ("book":Str)=some (.al (.ref D))->V.lookup ("heard":Str)=some (.aa (.list I))->V.lookup m=some (.aa (.list J))->V.lookup ("words":Str)=some (.aa (.str w))->V.lookup ("parse229":Str)=none->(∀y d,V.lookup y≠some (.own d))->wpAny W.M (A.deeper H) (execs b0 H) Q' E' #[s,h',tk])->
  wpAny W.M (A.deeper H) (execs (.Try [.Return (some (.Tuple [.Name "book" (P 6),.BinOp (.Name "heard" (P 7)) .Add (.List [i] (P 8)) (P 9),.Name m (P 10)] (K 1) (P 11))) (P 12)]
  [.ExceptHandler (some (.Name "error_reply" (P 13))) (some "error") [.Assign [.Name "words" (P 14)] (.Call (.Name "str" (P 15)) [.Name "error" (P 16)] [] (P 17)) (P 18)] (P 19)] [] [] (P 20)::b0) H) Q' E' #[s,a9,a6]:=by
  intro w hr Q' E' b0 hc;have R1:Rz W (A.deeper H) (eval i H) #[s,a9,a6] (H::l) C1 w:=hr (A.deeper H) H _ _ _ _ a1 (H::l) a5 O.fr H2.St B H2.S k4 k5;refine Al (RP Gk B O hu H2 x1 (NK (bM (aW H2.S.F k1 rfl rfl (dN H2.S.F k2 (YZ T.ni R1))))) T.g1 T.gs (n:="error") (wds:="words") T.jr {_} T.wds {_} λ a2 N e H3 d1 a4=>?_);have lk:∀{y:Str},y≠"error"->y≠"words"->(NS (AM (AM a1 "error" (.al (.ref e))) "words" (.aa (.str w))) "error").lookup y=a1.lookup y:=λ{y} h1 h2=>by rw[Dr,Ak h1,Aw,Ak h2,Aw,Ak h1]
  refine hc a2 N _ H3 (Ab b2 (Ab b3 a4)) (by rw[lk {_} {_}];exact k1) (by rw[lk {_} {_}];exact k2) (by rw[lk Z.2.2.2.1 Z.2.2.2.2.1];exact k3) (by rw[Dr,Ak {_},Aw,Ap rfl]) (by rw[lk {_} {_}];exact k6) λ y d q=>?_;rw[Dr] at q;split at q
  ·cases q
  ·rw[Aw] at q;split at q
   ·cases q
   ·rw[Aw] at q;split at q
    ·cases q
    ·exact b9 y d q
 cases R with
 |ie d g hz=>
  refine Al (IR (Al (Pm (s:=#[s,a9,a6]) H2 k1 rfl rfl (Si H2.S.F k2 T.ni ((Hp fd.scope H).ev a1 i d (g a1 k4 k5) _ _ _ H2.S.F (H2.S.gd B)) hz) (λ h tk K _=>Jr (s:=#[s,h,tk]) (H2.S.F.ac K) k3) (HQ.ba (Ab b2 b3)))))
 |gu w w' u g1 g2 c0 hz=>
  refine first w g1 λ a2 N V H3 a4 m1 m2 m3 m4 m5 m6=>?_;have R2:=g2 (A.deeper H) H _ _ _ #[s,a2,N] V (H::l) a5 O.fr H3.St B H3.S m4 m5;refine Al (NA (s:=#[s,a2,N]) Gk B O hu H3 x1 x1 x2 (b1:=true) (_) (λ q=>nomatch q) (NK λ Q E hE=>Bf (t:=.Name "found" (P 21)) rfl rfl rfl (R2 _ _ hE)) T.g1 T.g2 T.gs (by rw[Ap rfl];exact c0) (n:="error") T.jr {_} m1 m2 m3 ⟨{_},{_},Z.2.2.2.1⟩ hz (HQ.ba a4))
 |gx w w' g1 g2 hz=>
  refine first w g1 λ a2 N V H3 a4 m1 m2 m3 m4 m5 m6=>?_;have R2:=g2 (A.deeper H) H _ _ _ #[s,a2,N] V (H::l) a5 O.fr H3.St B H3.S m4 m5;refine Al (NA (s:=#[s,a2,N]) Gk B O hu H3 x2 x1 x2 (b1:=false) c6 (λ _=>(_)) (NK λ Q E hE=>Bf (t:=.Name "found" (P 21)) rfl rfl rfl (R2 _ _ hE)) T.g1 T.g2 T.gs (by rw[Ak {_}]) (n:="error") T.jr {_} m1 m2 m3 ⟨{_},{_},Z.2.2.2.1⟩ hz (HQ.ba a4))
 |ig w d d4 d2 g1 g2 g3 g4 hz=>
  refine first w g1 λ a2 N V H3 a4 m1 m2 m3 m4 m5 m6=>?_;refine Al (RT (s:=#[s,a2,N]) B Hp H3 (g2 V m4 m5) T.km λ c1 b6 H4 c2=>?_);have y1:(AM V "found" (.aa d)).lookup ("book":Str)=some (.al (.ref D)):=by rw[Aw,Ak {_}];exact m1
  have y2:(AM V "found" (.aa d)).lookup ("heard":Str)=some (.aa (.list I)):=by rw[Aw,Ak {_}];exact m2
  have y3:(AM V "found" (.aa d)).lookup m=some (.aa (.list J)):=by rw[Aw,Ak Z.2.2.2.2.2.1];exact m3
  refine Al (RQ (s:=#[s,c1,b6]) B Hp H4 O (d:=d) (by rw[Aw,Ap rfl]) y1 (g3 _ y2) (λ y d' q=>?_) hz λ c3 b7 H5 c4=>?_)
  ·rw[Aw] at q;split at q
   ·cases q
   ·exact m6 y d' q
  refine Al (Pm (s:=#[s,c3,b7]) H5 y1 T.nl rfl ((Hp fd.scope H).ev _ j _ (g4 _ y2) _ _ _ H5.S.F (H5.S.gd B)) (λ h tk K _=>Jr (s:=#[s,h,tk]) (H5.S.F.ac K) y3) (HQ.ba (Ab a4 (Ab c2 c4))))
end
def HJ (k:BH)(X:List Addr)(D:Addr)(o:Nat->List (Str×PV))(s w:Nat->List PV)(i:Nat)(v:Value)(h:Heap):Prop:=
 ∃t n v1 v2,v=.ref t/\h.get? t=some (JI #[.ref D,v1,v2] n)/\Rp k X h v1 (.list (s i))/\Rp k X h v2 (.list (w i))/\BX k X h D (.dict (o i))
theorem RS {D a:Addr}{n:Nat}{M:List PV}{L:Str}(Gk:Dh W C k mg mb){c f g:Expr}{P:Nat->Pos}{K:Nat->Nat}(fo:EF W a fd ["state","reply"] (FU L c f g P K))(T:K2 fd.scope L c f)
 {C1 m:Addr} {p j:List Value} (x1:D8 W mg "error_reply" C1 p) (x2:D8 W mg "error_proto" m j) (a0:(Value.ref m::j).contains (.ref C1)=false) (hD:D∈X) (w:A8 W W.h0 N) (hX:∀b∈X,W.h0.get? b=none/\(b=D\/∃o,N.get? b=some o))
  {u:Nat->List (Str×PV)} {I J:Nat->List PV} (hR:∀i x,M[i]? =some x->∃r,x=.str r/\Ss W (By C (n+1)) k fd.scope P K c f g C1 m r (u i) (I i) (J i) (u (i+1)) (I (i+1)) (J (i+1))):
 On W (k+1) (some D) X (.ref a) M N (HJ W X D u I J) where
 ck:=λ i v h h' hk ⟨t,n,v1,v2,e,Y,r1,r2,d⟩=>by
  have O:∀b o,h.get? b=some o->b∉X->(o.cls=.type "list"\/o.cls=.type "tuple"\/o.cls=.type "dict")->h'.get? b=some o/\b∉X:=λ b o e nx hd=>⟨hk b o e hd,nx⟩;refine⟨t,n,v1,v2,e,hk _ _ Y (.inr (.inl rfl)),Rp.bc O r1,Rp.bc O r2,?_⟩;obtain⟨V,⟨o,Z,ep,S,hc,r⟩,y,z,q,rl⟩:=d;exact⟨V,⟨o,Z,ep,hk _ _ S (.inr (.inr hc.1)),hc,r⟩,y,z,q,RpL.bc O rl⟩
 ju:=λ i v h ⟨t,n,v1,v2,e,Y,r1,r2,d⟩ B hB o vs S q=>by
  cases hB
  obtain⟨V,⟨o',Z,ep,U,hx,hd,_⟩,_⟩:=d;rw[S] at U;cases U;rw[hd] at q;cases q
 fn:=by
  obtain⟨o,S,hd,c1,c2⟩:=fo.obj;exact⟨a,fd,rfl,λ h H=>⟨o,(w.trans H).keep S c1 c2,hd⟩⟩
 step:=λ A s i v e x l hA a1 St G H hx hJ re Q E hQ=>by
  obtain⟨t,nt,v1,v2,rfl,Y,r1,r2,d⟩:=hJ;obtain⟨r,rfl,R⟩:=hR i x hx;refine S5 Gk fo T hA a1 St G (λ b N=>⟨(hX b N).1,?_⟩) hD x1 x2 a0 Y d r1 r2 re R λ h' tk t' n' w1 w2 K l' ht q1 q2 q3 q4=>?_
  ·rcases(hX b N).2 with q |q
   ·rw[q];exact d.alive
   ·exact AP H q
  ·exact hQ (.ref t') h' tk K l' ⟨t',n',w1,w2,rfl,ht,q1,q2,q3⟩
variable {d:PV}{r:List Stmt} in
def KJ (h:List (Str×PV)):List (Str×PV)->Option Bool
 |[]=>some true
 |(k,d)::r=>match h.find? (λ e=>e.1=k) with
  |none=>some false
  |some e=>(J8 d e.2).bind λ x=>(KJ h r).map (x&&·)
def MT (h k:List (Str×PV)):Option Bool:=(KJ k h).map λ r=>h.length==k.length&&r
theorem Tf (O:A.units+6<cLine)(k:Rp W X s.heap c a)(o:Rp W Y s.heap d b)(e:J8 a b=some r):SeqAt.EqAt A s c d r:=by
 unfold J8 at e;split at e<;>cases e;rename_i h;rw[Ah] at h;obtain⟨⟨w,z⟩,C,Q⟩:=k.reads h.1;obtain⟨⟨E,H⟩,N,V⟩:=o.reads h.2;exact SeqAt.eqAt_reads _ _ A s c d w E z H C N ∅
theorem Nz (H:A.units+6<cLine){b:List (Str×Value)}{a:List (Str×PV)}(N:b.map (·.1)=a.map (·.1))(O:RpL W Y s.heap (b.map (·.2)) (a.map (·.2))):∀{o:List (Str×Value)}{w:List (Str×PV)}{r:Bool},o.map (·.1)=w.map (·.1)->RpL W X s.heap (o.map (·.2)) (w.map (·.2))->KJ a w=some r->KeqHits A s b o r
 |[],[],r,_,_,h=>by cases h;exact .nil
  |[],_::_,r,q,_,_=>by simp at q
  |_::_,[],r,q,_,_=>by simp at q
  |(k,v)::o,(i,d)::w,r,q,l,h=>by
   simp only[AL,List.cons.injEq] at q l;obtain⟨rfl,q⟩:=q;cases l with |cons V l=>
   unfold KJ at h;have Q:=HE (W:=W) (X:=Y) (h:=s.heap) k N O;split at h
   ·rename_i z;cases h;refine .miss ?_;unfold valueAt;have Z:(a.any λ e=>decide (e.1=k))=false:=by
     rw[List.find?_eq_none] at z;rw[List.any_eq_false];exact z
    have C:=Q.1;rw[Z] at C;rw[Option.isSome_eq_false_iff,Option.isNone_iff_eq_none] at C;rw[C];rfl
   ·rename_i e z;obtain⟨x,c,h⟩:=Ae.mp h;obtain⟨y,f,rfl⟩:=As.mp h;obtain⟨u,E,g⟩:=Q.2 e.2 (by rw[z];rfl);exact .hit E (Tf H V g c) (Nz H N O q l f)
theorem Yw (hu:A.units+20<cLine)(H:s.heap.get? j=some (JI #[.ref D,l,p] n))(U:BX W X s.heap D (.dict f))(p2:Rp W X s.heap l t)(p3:Rp W X s.heap p u)(hD:D∈Y)
 (rb:Rp W Y s.heap v (.ay [.dict d,g,i])) (e:MT f d=some r) (e1:J8 t g=some a) (e2:J8 u i=some c)
  (a0:Q (.bool (!(r&&a&&c))) s):wpAny W.M A (compareOp .NotEq (.ref j) v) Q E s:=by
 cases rb with |@ay B z m _ g2 ny sz G=>
 obtain⟨z⟩:=z;have N:RpL W Y s.heap z [.dict d,g,i]:=G;clear G sz
 match z,N with
 |[I,J,L],.cons q1 (.cons q2 (.cons q3 .nil))=>
 have C:s.heap.get? B=some (JI [I,J,L].toArray m):=g2;show wpAny W.M A (richCompare .NotEq (.ref j) (.ref B)) Q E s;refine wpAny_richCompare_same_room (op:=.NotEq) (T:="tuple") ⟨_,H,rfl⟩ ⟨_,C,rfl⟩ PySem.F.slot_tuple_ne (IQ PySem.F.slot_tuple_ne ⟨_,H,rfl⟩ PySem.F.entry_tuple_ne ?_ (PySem.F.args_tuple_ne_2 _ _)) ∅;have a3:A.in1.units+15<cLine:=by show A.units+1+15<_;omega
 have d1:∀(h:Bool->Shared->Prop)(k:JD),h r s->wpAny W.M A.in1 (eqBool (.ref D) I) h k s:=by
  intro h k w;obtain⟨ka,u1,u2,_,M,u4⟩:=U;cases q1 with |@dict b kb _ w1 wy w2 _ R w4=>
  obtain⟨r0,O,rfl⟩:=As.mp e;have V:D≠b:=λ q=>wy (q▸hD);unfold eqBool;refine AF ?_;refine wpAny_ite_split (λ q=>absurd (by have:=Bo q;injection this) V) (λ _=>?_);have l1:ka.length=f.length:=by simpa using Cb List.length M
  have l2:kb.length=d.length:=by simpa using Cb List.length R
  refine Aa (keq_eq u2 w2 u1 w1 ∅ (λ _=>Nz (by show A.units+1+1+6<_;omega) R w4 M u4 O) (CV ?_));rw[l1,l2];exact w
 have S:=Tf (A:=A.in1) ∅ p2 q2 e1;have T:=Tf (A:=A.in1) ∅ p3 q3 e2;have f2:=AutoSeq1.sub_tuple_tuple;have o:∀b:Bool,b=(!(r&&a&&c))->(Value.bool b≠Value.notImplemented/\Q (.bool b) s):=λ b C=>⟨(λ x=>nomatch x),by rw[C];exact a0⟩;have Z:∀(h:Bool->Shared->Prop)(k:JD),h a s->wpAny W.M A.in1 (eqBool l J) h k s:=λ h k w=>S W.prog W.w k h w;have y:∀(h:Bool->Shared->Prop)(k:JD),h c s->wpAny W.M A.in1 (eqBool p L) h k s:=λ h k w=>T W.prog W.w k h w;clear S T
 wp_walk using Fs H,Fs C,d1
 cases r with
 |false=>
  wp_walk
  exact⟨_,rfl,o true (_)⟩
 |true=>
  wp_walk using Z
  cases a with
  |false=>
   wp_walk
   exact⟨_,rfl,o true (_)⟩
  |true=>
   wp_walk using y
   cases c with
   |false=>
    wp_walk
    exact⟨_,rfl,o true (_)⟩
   |true=>
    wp_walk
    exact⟨_,rfl,o false (_)⟩
theorem Ow (h:s.heap.IsTupleIter a t i)(O:s.heap.IsTuple t b)(V:b[i]? =some x)
 (W:∀k,k.IsTupleIter a t (i+1)->Heap.SameBut a s.heap k->Q x #[s,k]):wpAny (model c w) A (Builtin.SmallTypes.nextOf (.ref a)) Q E s:=by
 obtain⟨o,C,Z,hd⟩:=id h;obtain⟨d,H,_,e,N⟩:=O;have z:∀k,k=s.heap.update a (λ o=>o.mapFields λ f=>f.set! 1 (rawInt ((i:Int)+1)))->k.IsTupleIter a t (i+1):=by
  rintro k rfl;exact⟨_,Bc _ C (Dj (Dl hd _)),(MZ ..).trans Z,by
   rw[Dl hd];simp[rawInt]⟩
 unfold Builtin.SmallTypes.nextOf;refine Aa (Hq (name:=Str.ofString "__next__") h.typeIs D3 (IQ D3 h.typeIs PySem.F.entry_tuple_iterator_next ?_ (PySem.F.args_tuple_iterator_next_1 _)));refine Aa (m:=field (.ref a) 0) (B5 C hd (x:=.ref t) rfl ?_);show wpAny _ _ (field (.ref a) 1 >>=_) _ _ s;refine Aa (B5 C hd (x:=.int i 0) rfl (Aa (m:=seqItems? (.ref t)) (wpAny_seqItems H N ?_)));simp only[Int.toNat_natCast,V];exact Aa (HN C hd (_) (Af ⟨x,rfl,Af (W _ (z _ rfl) (BA ..))⟩))
theorem Ov (N:A.handled=none)(h:s.heap.IsTupleIter b t i)(O:s.heap.IsTuple t a)(V:a[i]? =none)
 (W:∀k e,Heap.ExtBut b s.heap k->(∃o,k.get? b=some o)->(∃o,k.get? e=some o/\o.cls=.type "StopIteration")->E (.ref e) #[s,k]):wpAny (model c w) A (Builtin.SmallTypes.nextOf (.ref b)) Q E s:=by
 obtain⟨o,z,Z,hd⟩:=id h;obtain⟨d,C,_,f,H⟩:=O;unfold Builtin.SmallTypes.nextOf;refine Aa (Hq (name:=Str.ofString "__next__") h.typeIs D3 (IQ D3 h.typeIs PySem.F.entry_tuple_iterator_next ?_ (PySem.F.args_tuple_iterator_next_1 _)));refine Aa (m:=field (.ref b) 0) (B5 z hd (x:=.ref t) rfl ?_);show wpAny _ _ (field (.ref b) 1 >>=_) _ _ s;refine Aa (B5 z hd (x:=.int i 0) rfl (Aa (m:=seqItems? (.ref t)) (wpAny_seqItems C H ?_)));simp only[Int.toNat_natCast,V];refine Aa (wpAny_rule (Aa (HN z hd (_) ?_)));refine Aa (m:=newExc (.type "StopIteration") []) ?_;simp only[newExc,newTuple];refine Aa (Bj (Aa (m:=firstArgMember _ _) (AA (a:=Value.none) (by first |rfl |(simp only[firstArgMember];rfl)) (Bj ?_ (by size_fits)))) (by size_fits));simp only[raiseNew];refine Aa (wpAny_handled ?_)
 first |rw[show A.in1.handled=none from N] |rw[N]
 exact Aa (Af (wpAny_throw (W _ _ (((BA ..).extBut.push _).push _) ⟨_,Ai _ (Ai _ (Bc _ z (Dj (Dl hd _))))⟩ ⟨_,Ar _ rfl,rfl⟩)))
theorem VQ {i:Nat}{f:Array Value}{m:Program}{e a l:Addr}{x c:Value}{j:Option Value->Shared->Prop}(he:IsEnum s.heap e a i c)(a4:s.heap.IsTupleIter a l i)(hl:s.heap.IsTuple l f)(hx:f[i]? =some x)(M:e≠a)
 (hQ:∀h' T n C a0,IsEnumOut h' e a ((i:Int)+1) x T->h'.IsTupleIter a l (i+1)->s.heap.get? T=none->h'.get? T=some (JI #[.int i C,x] n)->(∀b o,b≠e->b≠a->s.heap.get? b=some o->h'.get? b=some o)->s.toks<=a0->j (some (.ref T)) #[s,h',a0]):
 wpAny (model m w) A (pyNext (.ref e)) j E s:=by
 have hT:s.TypeIs (.ref e) "enumerate":=⟨_,he,rfl⟩;obtain⟨hp,g,d,C,os⟩:=s;unfold pyNext;refine Aa (Jm (Hq (name:=Str.ofString "__next__") hT Fa (IQ Fa hT PySem.F.entry_enumerate_next ?_ (PySem.F.args_enumerate_next_1 _))));refine Aa (m:=field (.ref e) 2) (B5 he rfl (x:=.ref a) rfl ?_);refine Aa (Ow a4 hl hx λ t G N=>?_);have O:IsEnum t e a i c:=(N.2 e M).trans he;refine Aa (m:=field (.ref e) 3) (B5 O rfl (x:=rawInt i) rfl ?_);refine Aa (m:=field (.ref e) 4) (B5 O rfl (x:=.none) rfl ?_);refine Aa (m:=mkInt i) (wpAny_mkInt ?_);refine Aa (m:=setField (.ref e) 3 (rawInt ((i:Int)+1))) (Hc (s:=⟨t,g,d,C+1,os⟩) O (_) λ I Q u=>?_)
 replace Q:IsEnum I e a ((i:Int)+1) c:=Q
 refine Aa (m:=setField (.ref e) 4 .none) (Hc (s:=⟨I,g,d,C+1,os⟩) Q (_) λ k V v=>?_)
 replace V:IsEnum k e a ((i:Int)+1) c:=V
 refine Aa (m:=newTuple [.int i C,x]) (wpAny_newTuple ?_);have z:IsEnum (k.push {cls:=.type "tuple",data:=.seq #[.int i C,x]}) e a ((i:Int)+1) c:=Ai _ V;have a1:k.objs.size=hp.objs.size:=by rw[v.1,u.1,N.1]
 have a5:e<hp.objs.size:=AO he;have a6:k.objs.size≠e:=by rw[a1];exact(Cy a5)
 have a2:=Ar k (o:={cls:=.type "tuple",data:=.seq #[.int i C,x]}) rfl;have a3:∀{h:Heap}{o:Obj}{b:Addr},b≠e->Heap.SameBut e (k.push {cls:=.type "tuple",data:=.seq #[.int i C,x]}) h->(k.push {cls:=.type "tuple",data:=.seq #[.int i C,x]}).get? b=some o->h.get? b=some o:=λ{h o b} y hs q=>(hs.2 b y).trans q;generalize R:k.push {cls:=.type "tuple",data:=.seq #[.int i C,x]}=H at z a2 a3;refine Aa (m:=Builtin.SmallTypes.ownedTupleIsFree (.ref e)) ?_;unfold Builtin.SmallTypes.ownedTupleIsFree;refine Aa (B5 (s:=⟨H,g,d,C+1,os⟩) z rfl (x:=.none) rfl (Af ?_));simp only[A0];refine Aa (wpAny_rule (Aa (B5 (s:=⟨H,g,d,C+1,os⟩) z rfl (x:=c) rfl ?_)));refine Aa (Hc (s:=⟨H,g,d,C+1,os⟩) z (_) λ J W S=>?_)
 replace W:IsEnum J e a ((i:Int)+1) x:=W
 refine Aa ?_;unfold Builtin.SmallTypes.ownedTupleHandOut;refine Aa (Hc (s:=⟨J,g,d,C+1,os⟩) W (_) λ L Z U=>?_)
 replace Z:IsEnumOut L e a ((i:Int)+1) x k.objs.size:=Z
 refine Hc (s:=⟨L,g,d,C+1,os⟩) Z (_) λ B p Y=>?_
 replace p:IsEnumOut B e a ((i:Int)+1) x k.objs.size:=p
 have D:∀{b:Addr}{o:Obj},b≠e->H.get? b=some o->B.get? b=some o:=λ{b o} y q=>(Y.2 b y).trans ((U.2 b y).trans ((S.2 b y).trans q));have on:∀{b:Addr}{o:Obj},b≠e->t.get? b=some o->H.get? b=some o:=λ{b o} y q=>by rw[<-R];exact Ai _ ((v.2 b y).trans ((u.2 b y).trans q))
 refine Aa (wpAny_letGo (Af ⟨_,rfl,Af (hQ B _ 0 C (C+1) p ?_ ?_ (D a6 a2) (λ b o y a7 q=>D y (on y ((N.2 b a7).trans q))) (A6 _))⟩))
 ·obtain⟨o,ho,r⟩:=G;exact⟨o,D (Ne.symm M) (on (Ne.symm M) ho),r⟩
 ·show hp.get? k.objs.size=none;rw[a1];exact Bl hp
open AutoSeq1 (wpAny_loadPart')
theorem XU {i:Nat}{a:Array Value}{f:Program}{e b l:Addr}{c:Value}{d:Option Value->Shared->Prop}(Q:A.handled=none)(N:IsEnum s.heap e b i c)(k:s.heap.IsTupleIter b l i)(V:s.heap.IsTuple l a)(W:a[i]? =none)
 (Z:∀h,Heap.ExtBut b s.heap h->(∃o,h.get? b=some o)->d none #[s,h]):wpAny (model f w) A (pyNext (.ref e)) d E s:=by
 have O:s.TypeIs (.ref e) "enumerate":=⟨_,N,rfl⟩;unfold pyNext;refine Aa (Jm (Hq (name:=Str.ofString "__next__") O Fa (IQ Fa O PySem.F.entry_enumerate_next ?_ (PySem.F.args_enumerate_next_1 _))));refine Aa (m:=field (.ref e) 2) (B5 N rfl (x:=.ref b) rfl ?_);refine Aa (Ov Q k V W λ h x z C H=>?_);obtain⟨o,g,j⟩:=H;exact Aa (wpAny_isInstance (T:="StopIteration") (b:=true) ⟨o,g,j⟩ isSubtype_stop (Af (Z _ z C)))
theorem XT (l:Addr)(k:Array Value)(n:Nat):Meets (Builtin.«enumerate.__new__» ⟨[.type "enumerate",.ref l],[]⟩) (λ _ R s=>s.heap.get? l=some (JI k n)/\
 R (.ok (.ret (.ref (s.heap.push {cls:=.type "tuple_iterator",data:=.fields #[.ref l,.int 0 0]}).objs.size)))
   {s with heap:=(s.heap.push {cls:=.type "tuple_iterator",data:=.fields #[.ref l,.int 0 0]}).push {cls:=.type "enumerate",data:=.fields #[.none,.bool false,.ref s.heap.objs.size,rawInt 0,.none,.none]}}):=
 .of_wp λ C w A R s h=>by
  obtain⟨H,g,d,N,os⟩:=s;obtain⟨o,h⟩:=h;have E:=sub_enumerate;have z:Heap.IsTuple (Shared.heap ⟨H,g,d,N,os⟩) l k:=⟨_,o,rfl,n,rfl⟩
  wp_walk using Fs o
  refine wpAny_stack_any λ st=>Af ?_;split
  ·rename_i c _ _ _ _ _;cases (c==Value.type "enumerate")
   ·wp_walk using Fs o,K5 z
    exact⟨_,rfl,h⟩
   ·wp_walk using Fs o,K5 z
    exact⟨_,rfl,h⟩
  ·wp_walk using Fs o,K5 z
   exact⟨_,rfl,h⟩
theorem VR (N:s.heap.get? l=some (JI a n))
 (O:∀k,IsEnum k (s.heap.objs.size+1) s.heap.objs.size 0 .none->k.IsTupleIter s.heap.objs.size l 0->(∃h:Heap,(∀b o,s.heap.get? b=some o->h.get? b=some o)/\(∃o,h.get? s.heap.objs.size=some o)/\h.get? (s.heap.objs.size+1)=none/\∀b o,h.get? b=some o->k.get? b=some o)->Q (.ref (s.heap.objs.size+1)) #[s,k]):
 wpAny (model c w) A (call (.type "enumerate") [.ref l]) Q E s:=by
 refine callType_new PySem.F.called_enumerate {_} (PySem.F.typeCall_enumerate_1 _) (PySem.F.newCall_enumerate_1 _) (λ z=>PySem.F.args_object_init_2 z _) PySem.F.entry_enumerate_new (XT l a n) ⟨N,?_⟩;have C:(s.heap.push {cls:=.type "tuple_iterator",data:=.fields #[.ref l,.int 0 0]}).objs.size=s.heap.objs.size+1:=Bh ..;show _/\_;rw[C];have H:=Ar (s.heap.push {cls:=.type "tuple_iterator",data:=.fields #[.ref l,.int 0 0]}) (o:={cls:=.type "enumerate",data:=.fields #[.none,.bool false,.ref s.heap.objs.size,rawInt 0,.none,.none]}) rfl;rw[C] at H;exact⟨⟨_,H,rfl⟩,O _ H ⟨_,Ai _ (Ar _ rfl),rfl,rfl⟩ ⟨_,λ b o x=>Ai _ x,⟨_,Ar _ rfl⟩,by rw[<-C];exact Bl _,λ b o x=>Ai _ x⟩⟩
def Rc (h:Heap)(e:Addr)(k:Obj):Heap:={h with objs:=h.objs.modify e λ _=>k}
theorem P4 (k:b≠e):(Rc h e o).get? b=h.get? b:=by
 unfold Rc Heap.get?;simp only[Ht,Ak (Ne.symm k)]
theorem U3 (k:o.isFreed=false)(s:h.get? e=some a):(Rc h e o).get? e=some o:=by
 have:=AO s;unfold Rc;rw[Heap.get?_some_iff];refine⟨?_,k⟩;have w:h.objs[e]? =some h.objs[e]:=Array.getElem?_eq_getElem this;show(h.objs.modify e λ _=>o)[e]? =some o;rw[Ht,Ap rfl,w];rfl
theorem XS.et {I:Addr}{tk:Nat}(S:XS W V z N Z X s O)(Q:I∈Z)(E:I∉Ay z)(w:N.get? I=none)(k:∃o,s.heap.get? I=some o/\o.cls≠.none/\o.cls≠.type "code")(h:Heap.ExtBut I s.heap H)(A:∃o,H.get? I=some o)(l:s.toks<=tk):
 XS W V z N Z X #[s,H,tk] O:=by
 obtain⟨c,C,a,b⟩:=k;exact⟨S.F.ext h Q E A,S.le.ext w (λ o d k hd=>by rw[C] at k;cases k;exact⟨a,b⟩) h,Ab S.tk l,S.fr,S.fc.at λ o k=>h _ o (λ q=>E (q▸Ac)) k⟩
theorem XS.ii {I J:Addr}{tk:Nat}(S:XS W V z N Z X s O)(r:I∈Z)(t:J∈Z)(A:I∉Ay z)(C:J∉Ay z)(E:N.get? I=none)(Q:N.get? J=none)(a:I≠J)(c:∃o,s.heap.get? I=some o/\o.cls≠.none/\o.cls≠.type "code")(d:∃o,s.heap.get? J=some o/\o.cls≠.none/\o.cls≠.type "code")
 (u:∀b o,b≠I->b≠J->s.heap.get? b=some o->H.get? b=some o) (f:∃o,H.get? I=some o) (g:∃o,H.get? J=some o) (l:s.toks<=tk):XS W V z N Z X #[s,H,tk] O:=by
 obtain⟨k,n,v,x⟩:=c;obtain⟨i,w⟩:=f;have h:(Rc H I k).get? I=some k:=U3 (Heap.get?_some_iff.mp n).2 w;have y:XS W V z N Z X #[s,Rc H I k,tk] O:=S.et (I:=J) t C Q d (λ b o j e=>by
  by_cases q:b=I
  ·subst q;rw[n] at e;cases e;exact h
  ·rw[P4 q];exact u b o q j e) (by rw[P4 a.symm];exact g) l
 exact y.et (s:=#[s,Rc H I k,tk]) (I:=I) r A E ⟨k,h,v,x⟩ (λ b o m e=>by
  have p:(Rc H I k).get? b=some o:=e;rw[P4 m] at p;exact p) ⟨i,w⟩ (Am _)
variable {d:PV}{r:List Stmt}{i:Nat} in
def NN:Nat->List PV->List PV
 |_,[]=>[]
 |i,d::r=>.ay [.int i,d]::NN (i+1) r
theorem Qv (B:XB W V z N)(hh:A.handled=none)(hB:∀O G,L O=some G->HI W A V z N (execs b z) O G)(hO:∀O G,J O=some G->HI W A V z N (execs m z) O G)
 (c3:e≠j) (d9:e∉X) (e0:j∉X) (f7:N.get? e=none) (e2:N.get? j=none) (c4:∀a∈Z,a∈X) (e3:∀a∈Ay z,a∈Z) (f8:∀a∈X,a∉Z->N.get? a=none)
 (he:IsEnum s.heap e j 0 p) (b2:s.heap.IsTupleIter j l 0) (hl:s.heap.get? l=some (JI g M)) (f9:l∉X) (e4:RpL W (e::j::X) s.heap g.toList t) (h0:t.length<=Bi)
 (S:XS W V z N (e::j::Z) (e::j::X) s O) (ev:Gj V (.Tuple y I D) L J (NN 0 t) O=some G) (hQ:D7 W V z N Z X s G λ f s'=>R (.ok f) s'):codeAny W.M A (.forLoop (.Tuple y I D) (.ref e) b m z) R s:=by
 have e5:e∉Z:=λ q=>d9 (c4 _ q);have e6:j∉Z:=λ q=>e0 (c4 _ q);have d1:e∉Ay z:=λ q=>e5 (e3 _ q);have c5:j∉Ay z:=λ q=>e6 (e3 _ q);have nw:∀{a:Addr},a∉Ay z->¬Ck V z a:=λ{a} h q=>h (by
  rcases q with q |⟨x,_,q⟩
  ·exact q▸Ac
  ·exact Bq q)
 have g8:g.size=t.length:=by simpa using e4.length
 have a3:∀{h:Heap}{i:Int}{i':Nat}{p:Value}{x:Value}{b:Addr}{m:Obj},h.get? e=some {cls:=.type "enumerate",dict:=none,data:=.fields #[x,.bool false,.ref j,rawInt i,.none,p],slots:= #[]}->h.IsTupleIter j l i'->h.get? b=some m->((b∉X/\Db m)\/(b∈Z/\¬Ck V z b/\m.cls≠.type "frame"/\m.cls≠.none))->b≠e/\b≠j:=
  λ{h i i' p x b m} he b2 N hc=>by
   rcases hc with⟨_,hd⟩ |⟨hz,_⟩
   ·constructor
    ·intro q;subst q;rw[he] at N;cases N;unfold Db at hd;simp at hd
    ·intro q;subst q;obtain⟨o',g0,g1,_⟩:=b2;rw[g0] at N;cases N;unfold Db at hd;rw[g1] at hd;simp at hd
   ·exact⟨λ q=>e5 (q▸hz),λ q=>e6 (q▸hz)⟩
 have less:∀{h C:Heap}{i:Int}{i':Nat}{p:Value}{x:Value},h.get? e=some {cls:=.type "enumerate",dict:=none,data:=.fields #[x,.bool false,.ref j,rawInt i,.none,p],slots:= #[]}->h.IsTupleIter j l i'->BY V z (e::j::Z) (e::j::X) h C->BY V z Z X h C:=λ{h C i i' p x} he b2 kd b m hc ho=>by
  obtain⟨n1,n2⟩:=a3 he b2 ho hc;exact kd b m (hc.imp (λ c=>⟨λ q=>by rcases Ag.mp q with q |q;exact n1 q;rcases Ag.mp q with q |q;exact n2 q;exact c.1 q,c.2⟩) λ c=>⟨Ad _ (Ad _ c.1),c.2⟩) ho
 have b0:∀{C:Heap}{tk:Nat}{a6:AC},XS W V z N (e::j::Z) (e::j::X) #[s,C,tk] a6->XS W V z N Z X #[s,C,tk] a6:=λ S'=>
  ⟨(S'.F.be (λ _ _ _ e=>e) d1 (λ q=>by rcases Ag.mp q with q |q;exact c3 q;exact d9 q) λ a ha=>by rcases Ag.mp ha with q |q;exact q▸Ac;exact Ad _ (c4 a q)).be (λ _ _ _ e=>e) c5 e0 c4,S'.le,S'.tk,f8,S'.fc⟩
 have g9:∀{o:Heap}{a8:Nat}{i:Int}{i':Nat}{p x:Value},o.get? e=some {cls:=.type "enumerate",dict:=none,data:=.fields #[x,.bool false,.ref j,rawInt i,.none,p],slots:= #[]}->o.IsTupleIter j l i'->BY V z Z X s.heap o->s.toks<=a8->∀{c6:Fl}{Q':Flow->Shared->Prop},D7 W V z N Z X s c6 Q'->D7 W V z N (e::j::Z) (e::j::X) #[s,o,a8] c6 Q':=λ{o a8 i i' p x} a1 a2 kd l{c6 Q'} h=>by
  cases c6 with
  |next O=>exact λ C tk S k2 l2=>h C tk (b0 S) (kd.trans (less a1 a2 k2)) (Ab l l2)
  |brk O=>exact λ C tk S k2 l2=>h C tk (b0 S) (kd.trans (less a1 a2 k2)) (Ab l l2)
  |ret d=>exact λ v C tk d2 l2 r=>h v C tk d2 (Ab l l2) (r.ag λ a ha=>Ad _ (Ad _ ha))
 refine GO (λ n s'=>∃C tk a6 i p,s'=#[s,C,tk]/\i<=t.length/\n=t.length-i/\IsEnum C e j (i:Nat) p/\C.IsTupleIter j l i/\XS W V z N (e::j::Z) (e::j::X) s' a6/\BY V z Z X s.heap C/\s.toks<=tk/\Gj V (.Tuple y I D) L J (NN i (t.drop i)) a6=some G) (λ n s' hI=>?_) t.length
  ⟨s.heap,s.toks,O,0,p,rfl,BT _,rfl,he,b2,S,.refl,Am _,ev⟩
 obtain⟨C,tk,a6,i,p,rfl,hi,hn,a9,a0,S',kd,l',e'⟩:=hI;have e7:C.IsTuple l g:=⟨_,kd l _ (.inl ⟨f9,.inr (.inl rfl)⟩) hl,rfl,_,rfl⟩;have e8:∃m,C.get? j=some m/\m.cls≠.none/\m.cls≠.type "code":=by obtain⟨m,a,c,_⟩:=a0;exact⟨m,a,by rw[c];simp,by rw[c];simp⟩
 by_cases d3:i<t.length
 ·have hx:g[i]? =some g[i]:=Array.getElem?_eq_getElem ∅;have hd:t.drop i=t[i]::t.drop (i+1):=DU d3;rw[hd,NN,Gj] at e';obtain⟨g2,h1,e'⟩:=Ae.mp e';obtain⟨f1,h2,e'⟩:=Ae.mp e';refine Bw (n:=tk) (Am _) (VQ (s:=#[s,C,tk]) a9 a0 e7 hx c3 λ o T nT g3 b3 d4 c7 e9 hT f0 c8 _=>?_);have b4:tk<=b3:=c8;refine wpAny_letOwnedTupleGo_enum (s:=#[s,o,b3]) d4 λ k b5 H=>?_
  replace H:Heap.SameBut e o k:=H
  have b6:∀b m,b≠e->b≠j->C.get? b=some m->k.get? b=some m:=λ b m a1 a2 q=>(H.2 b a1).trans (f0 b m a1 a2 q);have a4:k.IsTupleIter j l (i+1):=let⟨m,ho,r⟩:=c7;⟨m,(H.2 j (Ne.symm c3)).trans ho,r⟩;have g4:T≠e:=λ q=>by have c2:C.get? T=none:=e9;rw[q,a9] at c2;cases c2
  have d5:k.get? T=some (JI #[.int i g3,g[i]] nT):=(H.2 T g4).trans hT;have d6:BY V z Z X C k:=λ b m hc ho=>b6 b m (a3 a9 a0 ho hc).1 (a3 a9 a0 ho hc).2 ho;have c9:XS W V z N (e::j::Z) (e::j::X) #[s,k,b3] a6:=
   S'.ii (I:=e) (J:=j) (H:=k) (tk:=b3) Ac (Ad _ Ac) d1 c5 f7 e2 c3 ⟨_,a9,(_),(_)⟩ e8 b6 ⟨_,b5⟩ (let⟨m,ho,_⟩:=a4;⟨m,ho⟩) b4
  have d7:RpL W (e::j::X) k g.toList t:=e4.bc λ b m q n hd=>⟨b6 b m (λ c2=>n (c2▸Ac)) (λ c2=>n (c2▸Ad _ Ac)) (kd b m (.inl ⟨λ c2=>n (Ad _ (Ad _ c2)),hd⟩) q),n⟩;have g5:t[i]? =some t[i]:=Bb d3;obtain⟨u,hu,ru⟩:=d7.get g5;have eu:u=g[i]:=by
   have e1:g[i]? =some u:=by simpa using hu
   rw[hx] at e1;cases e1;rfl
  subst eu;have TX:T∉e::j::X:=λ q=>by
   obtain⟨m,ho⟩:=S'.F.ah T q;have c2:C.get? T=none:=e9;rw[c2] at ho;cases ho
  have rT:Rp W (e::j::X) k (.ref T) (.ay [.int i,t[i]]):=.ay d5 TX (by show 2<=Bi;simp[Bi]) (.cons (.int _ _) (.cons ru .nil));refine Eh (s:=#[s,k,b3]) hh B c9 h1 rT λ Q b7 f2 d8 f3=>?_;have b8:BY V z (e::j::Z) (e::j::X) k Q:=d8.af λ a ha=>c9.F.bo ha;have b9:∀{Q w:Heap},IsEnum Q e j ((i+1:Nat):Int) g[i]->Q.IsTupleIter j l (i+1)->BY V z (e::j::Z) (e::j::X) Q w->IsEnum w e j ((i+1:Nat):Int) g[i]/\w.IsTupleIter j l (i+1):=λ{Q w} a1 a2 kd=>by
   refine⟨kd e _ (.inr ⟨Ac,nw d1,(_),(_)⟩) a1,?_⟩;obtain⟨m,ho,hc,r⟩:=a2;exact⟨m,kd j m (.inr ⟨Ad _ Ac,nw c5,by rw[hc];simp,by rw[hc];simp⟩) ho,hc,r⟩
  have b1:IsEnum k e j ((i+1:Nat):Int) g[i]:=by have:=b5;push_cast;exact this
  obtain⟨a5,E⟩:=b9 b1 a4 b8;have f4:=(kd.trans d6).trans (less b1 a4 b8);have c0:s.toks<=b7:=Ab l' (Ab b4 f3);refine hB g2 f1 h2 (e::j::Z) (e::j::X) #[s,Q,b7] _ _ f2 ?_;cases f1 with
  |next f5=>exact λ w U c1 Y a7=>⟨n-1,∅,w,U,f5,i+1,g[i],rfl,d3,∅,(b9 a5 E Y).1,(b9 a5 E Y).2,c1,f4.trans (less a5 E Y),Ab c0 a7,e'⟩
  |brk f5=>cases e';exact λ w U c1 Y a7=>hQ w U (b0 c1) (f4.trans (less a5 E Y)) (Ab c0 a7)
  |ret d=>cases e';exact λ v w U d2 a7 r=>hQ v w U d2 (Ab c0 a7) (r.ag λ a ha=>Ad _ (Ad _ ha))
 ·have g6:i=t.length:=∅
  subst g6;rw[List.drop_length,NN,Gj] at e';refine Bw (n:=tk) (Am _) (XU (s:=#[s,C,tk]) hh a9 a0 e7 (Array.getElem?_eq_none ∅) λ o d0 g7 c8=>?_);have f6:=S'.et (I:=j) (H:=o) (tk:=tk) (Ad _ Ac) c5 e2 e8 d0 g7 (Am _);exact hO a6 G e' Z X #[s,o,tk] _ _ (b0 f6) (hQ.ba (kd.trans λ b m hc ho=>d0 b m (a3 a9 a0 ho hc).2 ho) l')
theorem XG (Gk:Dh W C k mg mb)(a7:JE W A p)(B:XB W V z N)(hh:A.handled=none)(a0:mg "enumerate"=none/\mb "enumerate"=some (.type "enumerate"))(hg:Bz V "enumerate"=true)(hx:p.ev V O (.Name x i)=some (.ay ds))
 (a5:ds.length<=Bi) (hB:∀O e,eb O=some e->HI W A V z N (execs b z) O e) (hO:∀O e,eo O=some e->HI W A V z N (execs f z) O e) (ev:Gj V (.Tuple d g c) eb eo (NN 0 ds) O=some e):
 HI W A V z N (exec (.For (.Tuple d g c) (.Call (.Name "enumerate" j) [.Name x i] [] n) b f r) z) O e:=λ Z X s Q E S hQ=>by
 rw[QI];refine Aa (AI (Aa (BG (BM Gk S.F (S.gd B) hg (.inr a0) ?_))));rw[AN n z [.Name x i] rfl];refine Jj rfl (A1 (Av ((a7 V z).ev O _ _ hx Z X s S.F (S.gd B) _ _ λ v h w I J rv=>AV ?_)));have o:=S.ac (tk:=w) I J;cases rv with |@ay l vs nl _ hl a6 hz rl=>
 refine VR (s:=#[s,h,w]) hl λ H t D hm=>?_;obtain⟨L,a1,a2,a3,a4⟩:=hm;have u:A8 W h L:=.ad a1;have y:A8 W L H:=.ad a4;have G:h.get? h.objs.size=none:=Bl h;have en:h.get? (h.objs.size+1)=none:=by
  cases q:h.get? (h.objs.size+1) with
  |none=>rfl
  |some f=>exact absurd (AO q) (EM.mpr (A6 _))
 refine Aa (AA (EP (e:=.Call (.Name "enumerate" j) [.Name x i] [] n) rfl z _) (Aa (AI (Aa (AF (wpAny_pyIter_enum (s:=#[s,H,w]) t ?_))))));have T:∀{a:Addr},h.get? a=none->N.get? a=none:=λ{a} q=>by
  cases a8:N.get? a with
  |none=>rfl
  |some f=>obtain⟨o',U⟩:=AP o.le ⟨f,a8⟩;have q':h.get? a=none:=q;rw[q'] at U;cases U
 have nX:∀{a:Addr},h.get? a=none->a∉X:=λ{a} q m=>by obtain⟨f,ho⟩:=o.F.ah a m;have q':h.get? a=none:=q;rw[q'] at ho;cases ho
 have F1:FI W V z (h.objs.size::Z) (h.objs.size::X) L O:=o.F.fresh (B.am.trans o.le) u G a2;have F2:FI W V z ((h.objs.size+1)::h.objs.size::Z) ((h.objs.size+1)::h.objs.size::X) H O:=F1.fresh ((B.am.trans o.le).trans u) y a3 ⟨_,t⟩;have Y:XS W V z N ((h.objs.size+1)::h.objs.size::Z) ((h.objs.size+1)::h.objs.size::X) #[s,H,w] O:=
  ⟨F2,(o.le.trans u).trans y,o.tk,λ a ha hz=>S.fr a (by
   rcases Ag.mp ha with q |q
   ·exact absurd (q▸Ac) hz
   ·rcases Ag.mp q with q |q
    ·exact absurd (q▸Ad _ Ac) hz
    ·exact q) λ q=>hz (Ad _ (Ad _ q)),(o.fc.bb u).bb y⟩
 refine Kl (h:=none) ?_;rw[GC];have M:RpL W ((h.objs.size+1)::h.objs.size::X) H vs.toList ds:=((rl.au G).au en).ac (u.trans y);have R:H.get? l=some (JI vs nl):=(u.trans y).keep hl (_) (_);exact Qv (s:=#[s,H,w]) B hh hB hO (Nat.succ_ne_self _) (nX en) (nX G) (T en) (T G) S.F.zx S.F.aw S.fr t D R a6 M a5 Y ev (hQ.ba ((I.trans (u.trans y)).af) J)
variable {b:PV}{r:List Stmt} in
def Da (h:Heap):List Addr->Heap
 |[]=>h
 |b::r=>E3 (Da h r) b
theorem Hy:∀{X:List Addr}{b:Addr},b∈X->(Da c X).get? b=none
 |a::r,b,h=>by
  show(E3 (Da c r) a).get? b=none;by_cases q:b=a
  ·subst q;exact GG
  ·rw[EI q];exact Hy ((Ag.mp h).resolve_left q)
theorem B8 {c:Heap}:∀{X:List Addr}{b:Addr},b∉X->(Da c X).get? b=c.get? b
 |[],b,_=>rfl
  |a::r,b,k=>by
   show(E3 (Da c r) a).get? b=_;have h:b≠a:=λ q=>k (by rw[q];exact Ac);rw[EI h];exact B8 λ q=>k (Ad _ q)
def BH.an (h:BH)(k:Heap)(X:List Addr):BH:={h with h0:=Da k X}
section
theorem A8.bg (s:A8 W W.h0 a)(A:∀b∈Y,W.h0.get? b=none)(w:A8 (W.an a Y) h H):A8 W h H:=by
 refine⟨λ b o e=>?_,w.2⟩;rcases w.1 b o e with k |⟨n,k,C,E⟩ |k
 ·exact .inl k
 ·refine .inr (.inl ⟨?_,k,C,E⟩);by_cases q:b∈Y
  ·exact A b q
  ·have z:(Da a Y).get? b=none:=n;rw[B8 q] at z;exact Dx s z
 ·exact .inr (.inr k)
theorem WE:A8 (W.an h Y) (W.an h Y).h0 h:=.ad λ b o e=>by
 by_cases q:b∈Y
 ·have k:(Da h Y).get? b=some o:=e;rw[Hy q] at k;cases k
 ·have k:(Da h Y).get? b=some o:=e;rw[B8 q] at k;exact k
variable {a:Addr}{Y:List Addr}{v:Value}{b:PV}{r:List Stmt}{i n:Nat}{q:Pos}{t:Expr}{x y:Str}{hr:Heap} in
mutual
theorem Rp.an:∀{v:Value}{d:PV},Rp W X h v d->Rp (W.an hr Y) X h v d
 |_,_,.none=>.none
 |_,_,.bool b=>.bool b
 |_,_,.int i t=>.int i t
 |_,_,.str x t a b=>.str x t a b
 |_,_,.obj v=>.obj v
 |_,_,.list e n z r=>.list e n z (RpL.an r)
 |_,_,.ay e n z r=>.ay e n z (RpL.an r)
 |_,_,.dict e n y z q r=>.dict (W:=W.an hr Y) e n y z q (RpL.an r)
theorem RpL.an:∀{vs:List Value}{ds:List PV},RpL W X h vs ds->RpL (W.an hr Y) X h vs ds
 |_,_,.nil=>.nil
 |_,_,.cons a b=>.cons (Rp.an a) (RpL.an b)
end
variable {a:Addr}{Y:List Addr}{v:Value}{b:PV}{r:List Stmt}{i n:Nat}{q:Pos}{t:Expr}{x y:Str}{hr:Heap} in
mutual
theorem Rp.bg:∀{v:Value}{d:PV},Rp (W.an hr Y) X h v d->Rp W X h v d
 |_,_,.none=>.none
 |_,_,.bool b=>.bool b
 |_,_,.int i t=>.int i t
 |_,_,.str x t a b=>.str x t a b
 |_,_,.obj v=>.obj v
 |_,_,.list e n z r=>.list e n z (RpL.bg r)
 |_,_,.ay e n z r=>.ay e n z (RpL.bg r)
 |_,_,.dict e n y z q r=>.dict (W:=W) e n y z q (RpL.bg r)
theorem RpL.bg:∀{vs:List Value}{ds:List PV},RpL (W.an hr Y) X h vs ds->RpL W X h vs ds
 |_,_,.nil=>.nil
 |_,_,.cons a b=>.cons (Rp.bg a) (RpL.bg b)
end
end
section
theorem BX.an:∀{d:PV},BX W X h a d->BX (W.an b Y) X h a d
 | .list _,⟨o,n,e,z,r⟩=>⟨o,n,e,z,r.an⟩
  | .dict _,⟨k,e,y,z,q,r⟩=>⟨k,e,y,z,q,r.an⟩
theorem Bg.an:∀{k:BL},Bg W Z X h v k->Bg (W.an b Y) Z X h v k
 | .aa _,r=>Rp.an r
  | .own _,⟨a,e,m,z,r⟩=>⟨a,e,m,z,r.an⟩
  | .al _,r=>r
  | .bl _ _,r=>⟨r.1,Rp.an r.2⟩
theorem FI.an (F:FI W V z Z X h O)(k:∀a∈X,a∈Y\/d.get? a=none):FI (W.an d Y) V z Z X h O where
 aw:=F.aw
 zx:=F.zx
 kind:=F.kind
 br:=F.br
 bx:=F.bx
 dy:=F.dy
 cu:=F.cu
 di:=F.di
 dr:=F.dr
 ns:=let⟨m,A,o⟩:=F.ns;⟨m,A,λ x s a b=>let⟨v,e,r⟩:=o x s a b;⟨v,e,r.an⟩⟩
 cell:=λ x C=>let⟨c,E,e,i,o⟩:=F.cell x C;⟨c,E,e,i,λ s q=>let⟨v,e,r⟩:=o s q;⟨v,e,r.an⟩⟩
 inj:=F.inj
 dk:=F.dk
 alive:=λ a w=>⟨by
  show(Da d Y).get? a=none;by_cases q:a∈Y
  ·exact Hy q
  ·rw[B8 q];exact(k a w).resolve_left q,(F.alive a w).2⟩
 bu:=F.bu
theorem Gd.an (G:Gd W s):Gd (W.an s.heap Y) s:=⟨WE,G.ea,G.toks⟩
end
variable {r:List Stmt}{x:Str} in
def J3 (h:Addr->Option (List PV))(k:AC):Expr->Option Bool
 | .Name x _=>match k.lookup x with
   |some (.aa (.obj (.ref r)))=>(h r).map λ o=>!o.isEmpty
   |_=>none
 |_=>none
theorem Wx {p:JV}(N:Yo W A V z (p.ev V) (p.ts V) (p.it V)){a:Addr->Option (List PV)}(O:∀r k,a r=some k->∃o n,W.h0.get? r=some (Fz o n)/\o.size<=Bi/\o.toList.length=k.length):
 Yo W A V z (p.ev V) (J3 a) (p.it V) where
 ev:=N.ev
 itr:=N.itr
 tst:=λ l x b h Z X s F G=>by
  unfold J3 at h;split at h
  ·rename_i y w;split at h
   ·rename_i r c;obtain⟨k,C,rfl⟩:=As.mp h;obtain⟨o,n,d,m,q⟩:=O r k C;have e:s.heap.get? r=some (Fz o n):=G.am.keep d (_) (_);have H:=BR.of (W:=W) (A:=A) (s:=s) (t:=isTrue (.Name y w) z (eval (.Name y w) z)) (P:=λ f _=>f= !k.isEmpty) λ Q E g=>by
     refine wpAny_isTrue_value (F.name c λ v i=>?_);have:v=.ref r:=by cases i;rfl
     subst this;refine wpAny_truthy_list ⟨_,e,rfl,_,rfl⟩ (by have:Bi=1048576:=rfl;omega) ?_;have:o.isEmpty=k.isEmpty:=by
      obtain⟨j⟩:=o;cases j<;>cases k<;>simp_all
     rw[this];exact g _ _ _ (.refl _) rfl
    exact H
   ·cases h
  ·cases h
abbrev Cn:Ge:=⟨λ _=>none,λ _=>none⟩
theorem TQ (w:W.h0.Ns a m)(k:A8 W W.h0 h)(z:∀b∈Y,W.h0.get? b=none):(Da h Y).Ns a m:=by
 obtain⟨o,A,C,E,r⟩:=B2 k w;obtain⟨H,_,_,s,_⟩:=w;refine⟨o,A,C,?_,r⟩;rw[B8 λ q=>by rw[z _ q] at s;cases s];exact E
theorem Dh.an (G:Dh W C k mg mb)(s:A8 W W.h0 h)(w:∀b∈Y,W.h0.get? b=none):Dh (W.an h Y) Cn k mg mb where
 g:=TQ G.g s w
 b:=TQ G.b s w
 bx:=G.bx
 jp:=G.jp
 ir:=by
  obtain⟨o,z⟩:=G.ir;obtain⟨E,A⟩:=AP s ⟨o,z⟩;refine⟨E,?_⟩;show(Da h Y).get? sysModules=some E;rw[B8 λ q=>by rw[w _ q] at z;cases z];exact A
 aa:=λ x d q=>nomatch q
 fn:=λ x g q=>nomatch q
theorem eO (U:Dh W C k mg mb)(t:Cg k A)(B:XB W V z N)(S:XS W V z N Z X s O)(Y:∀r xs,rows r=some xs->r∉X/\∃w n,s.heap.get? r=some (Fz w n)/\w.size<=Bi/\w.toList.length=xs.length)
 (hx:O.lookup x=some (.aa (.list xs))) (a0:AR V x=true) (u:Cd V c=true) (I:swapsWithSole [.Name x g] (.ListComp (.Name y i) [⟨.Name y j,.Name x e,[.Name y p],0⟩] c f) d.line z=pure true)
 (J:Cc c (J3 rows) ((By Cn 2).it c) (λ O=>(By Cn 2).ev c O (.Name y i)) [⟨.Name y j,.Name x e,[.Name y p],0⟩] (A3 c O) xs=some out) (L:out.length<=Bi) {Q:Flow->Shared->Prop}
 (e1:DL V (.Name x g) (.list out) O=some (AM O x (.aa (.list out)))) (hQ:D7 W V z N Z X s (.next (AM O x (.aa (.list out)))) Q):
 wpAny W.M A (exec (.Assign [.Name x g] (.ListComp (.Name y i) [⟨.Name y j,.Name x e,[.Name y p],0⟩] c f) d) z) Q E s:=by
 have R:∀b∈X,W.h0.get? b=none:=λ b N=>(S.F.alive b N).1;have G:=S.gd B;have Gr:=U.an G.am R;have a1:Cg k A:=t;have H:∀o,Yo (W.an s.heap X) A c o ((By Cn 2).ev c) (J3 rows) ((By Cn 2).it c):=λ o=>Wx (A2 Gr t 2 c o) λ r xs h=>by
  obtain⟨h1,w,n,h2,h3,h4⟩:=Y r xs h;exact⟨w,n,(B8 h1).trans h2,h3,h4⟩
 have T:FI (W.an s.heap X) V z Z X s.heap O:=S.F.an λ a ha=>.inl ha;rw[QO];refine Aa (AI (Aa (AA I ?_)));simp only[A0];rw[Fp (by rfl)];rw[Om];refine Aa (Aa (BP (Gu (W:=W.an s.heap X) (Q:=λ _ q=>Q .next q) (xs:=xs) (rs:=out) H t.handled u J L T (G.an) (EP (e:=.Name x e) rfl z) ?_ λ D C' h' tk m hD hC a2 M l hn r=>?_) (λ _ _ h=>Af (Af h)) λ _ _ x=>x))
 ·exact λ Q E hq=>T.name hx λ v rv=>hq v s.heap s.toks (.refl _) (Am _) (.list rv)
 ·exact Kn B S t.handled e1 hQ hC (A8.bg G.am R M) l hn (Rp.bg r)
theorem CK (h:O.lookup x=some (.aa d)):GF C V O x=some d:=by unfold GF;rw[h]
theorem Nn (h:O.lookup x=some (.bl v d)):GF C V O x=some d:=by unfold GF;rw[h]
theorem Ok (h:Rq e=none):EL p V O e=p.ev V O e:=by unfold EL;rw[h]
theorem F5 (h:∀d,O.lookup x≠some (.own d)):EL p V O (.Name x q)=p.ev V O (.Name x q):=by
 show(match O.lookup x with |some (.own d)=>some d |_=>p.ev V O (.Name x q))=_;split
 ·rename_i d e;exact absurd e (h d)
 ·rfl
theorem Sk (h:O.lookup x=some (.own d)):EL p V O (.Name x q)=some d:=by
 show(match O.lookup x with |some (.own d)=>some d |_=>p.ev V O (.Name x q))=_;rw[h]
theorem K7:(By C (m+1)).ts V O (.Compare l a b c)=GQ (By C m) V O l a b:=⋯
theorem NM:(By C (m+1)).ev V O (.Subscript v i a)=(EL (By C m) V O v).bind λ b=>K9 (By C m) V O b i:=⋯
theorem Fo:(By C (m+1)).ev V O (.Name x q)=GF C V O x:=⋯
theorem EX (h:AR V x=true):DL V (.Name x q) d O=some (AM O x (.aa d)):=by
 show(if AR V x=true then some (AM O x (.aa d)) else none)=_;rw[Ap h]
theorem GR (h:p.ev V O v=some d)(k:EV v=true)(o:AR V x=true):Ez p a V (n+1) O (.Assign [.Name x q] v b)=some (.next (AM O x (.aa d))):=by
 show(HH p (λ _=>false) V O [.Name x q] v).map Fl.next=_;have:HH p (λ _=>false) V O [.Name x q] v=some (AM O x (.aa d)):=by
  show Jx p V O (.Name x q) v=_;unfold Jx;rw[Ap (by rw[k];show(true&&(Hw v||true))=true;simp),h];exact EX (q:=q) o
 rw[this];rfl
def BO (o:BH)(k:Heap)(r:Addr)(c:List Str):Prop:=∃h n,k.get? r=some (Fz h n)/\h.size<=Bi/\RpL o [] k h.toList (c.map .str)
section
theorem FI.re (F:FI W V z Z X h O)(t:∀a∈Ay z,a∈g)(u:∀a∈g,a∈j)(B:∀a∈j,W.h0.get? a=none/\∃o,H.get? a=some o)(Q:∀a∈Ay z,H.get? a=h.get? a)
 (C:∀x k,b.lookup x=some k->∃s,O.lookup x=some s/\∀v,EZ V z h x v->Bg W Z X h v s->Bg W g j H v k) (D:∀x y d e,b.lookup x=some (.own d)->b.lookup y=some (.own e)->x=y):FI W V z g j H b:=
 {F with
  aw:=t
  zx:=u
  alive:=B
  bu:=D
  ns:=by
   obtain⟨m,l,E⟩:=F.ns;refine⟨m,?_,λ x k n w=>?_⟩
   ·obtain⟨o,G,I,N,r⟩:=l;exact⟨o,G,I,(Q _ Ac).trans N,r⟩
   ·obtain⟨s,A,f⟩:=C x k w;obtain⟨v,e,r⟩:=E x s n A;exact⟨v,e,f v (.inl ⟨n,m,l,e⟩) r⟩
  cell:=λ x p=>by
   obtain⟨c,J,e,i,E⟩:=F.cell x p;refine⟨c,J,e,?_,λ k w=>?_⟩
   ·obtain⟨o,N,hd⟩:=i;exact⟨o,(Q _ (Bq e)).trans N,hd⟩
   ·obtain⟨s,A,f⟩:=C x k w;obtain⟨v,q,r⟩:=E s A;exact⟨v,q,f v (.inr ⟨p,c,e,q▸i⟩) r⟩
  dk:=λ x k w=>let⟨s,A,_⟩:=C x k w;F.dk x s A}
theorem Z6 (r:Rp W X h v (.str d)):Rp W Y H v (.str d):=by cases r with |str _ _ a b=>exact .str _ _ a b
theorem GD:∀{k:List Value}{c:List Str},RpL W X h k (c.map .str)->RpL W Y H k (c.map .str)
 |_,[],.nil=>.nil
  |_,_::_,.cons a b=>.cons (Z6 a) (GD b)
theorem BO.keep (x:BO W h r c)(k:∀o,h.get? r=some o->Db o->H.get? r=some o):BO W H r c:=
 let⟨s,n,e,z,l⟩:=x;⟨s,n,k _ e (.inl rfl),z,GD l⟩
theorem BO.bb (x:BO W h r c)(k:A8 W h H):BO W H r c:=x.keep λ o e d=>Ce k e d
theorem BO.own (x:BO W h r c):BX W X h r (.list (c.map .str)):=let⟨k,n,e,z,l⟩:=x;⟨k,n,e,z,GD l⟩
theorem BO.rp (x:BO W h r c)(k:r∉X):Rp W X h (.ref r) (.list (c.map .str)):=let⟨o,n,e,z,l⟩:=x;.list e k z (GD l)
theorem BO.of (x:BX W X h r (.list (c.map .str))):BO W h r c:=let⟨k,n,e,z,l⟩:=x;⟨k,n,e,z,GD l⟩
theorem BO.some (x:BO W h r c):∃o,h.get? r=some o/\Db o/\o.cls=.type "list":=let⟨k,n,e,z,l⟩:=x;⟨_,e,.inl rfl,rfl⟩
def Ky (x:Str)(l:List Str):List Str:=if l.head? =some x then l.tail else l
theorem Lh:∀(l:List Addr),RpL W X h (l.map Value.ref) (l.map λ r=>PV.obj (.ref r))
 |[]=>.nil
  |r::l=>.cons (.obj _) (Lh l)
theorem Tb {P:Addr->Prop}(F:FI W V z Z X h O)(A:CF z h)(w:∀b o,h.get? b=some o->¬P b->H.get? b=some o)(hP:∀a∈Ay z,¬P a):∀a∈Ay z,H.get? a=h.get? a:=λ a k=>by
 obtain⟨_,o,s⟩:=F.alive a (F.zx _ (F.aw a k));rw[s,w a o s (hP a k)]
theorem XY (Gk:Dh W C k mg mb)(hA:Cg k A)(B:XB W V z N)(S:XS W V z N Z X s O)(h1:O.lookup ("seq":Str)=some (.own (.list ((y::ys).map .str))))(h2:O.lookup ("candidate":Str)=some (.aa (.str x)))
 (hv:EZ V z s.heap "seq" (.ref r)) (hX:r∈X) (hZ:r∉Z)
 (hQ:∀h' tk,XS W V z N Z X #[s,h',tk] (AM O "seq" (.own (.list ((Ky x (y::ys)).map .str))))->BO W h' r (Ky x (y::ys))->(∀b o,b≠r->s.heap.get? b=some o->o.cls≠.type "frame"->o.cls≠.none->h'.get? b=some o)->s.toks<=tk->m .next #[s,h',tk]):
 wpAny W.M A (exec (.If (.Compare (.Subscript (.Name "seq" i) (.Constant (.int 0) g p) u) [.Eq] [.Name "candidate" D] G) [.Delete [.Subscript (.Name "seq" J) (.Constant (.int 0) I j) c] d] [] f) z) m E s:=by
 have H:=A2 Gk hA;have e1:(By C 3).ts V O (.Compare (.Subscript (.Name "seq" i) (.Constant (.int 0) g p) u) [.Eq] [.Name "candidate" D] G)=some (decide (y=x)):=by
  rw[K7];have a1:(By C 2).ev V O (.Subscript (.Name "seq" i) (.Constant (.int 0) g p) u)=some (.str y):=by
   rw[NM];have:EL (By C 1) V O (.Name "seq" i)=some (.list ((y::ys).map .str)):=Sk h1;rw[this];show DS (.list (.str y::ys.map .str)) (.int 0)=_;have e0:seqIndex? 0 ((ys.map PV.str).length+1)=some 0:=by
    unfold seqIndex?;simp
   show(if Lu 0=true then(seqIndex? 0 ((ys.map PV.str).length+1)).bind _ else none)=_;rw[e0];rfl
  have a2:(By C 2).ev V O (.Name "candidate" D)=some (.str x):=by
   rw[Fo,CK h2]
  unfold GQ;simp only[CQ,A0,a1,AX,SZ,Aq,AS,a2];show J8 (.str y) (.str x)=_;rfl
 refine Jz ((H 3 V z).tst O _ _ e1 Z X s S.F (S.gd B) _ _ λ b' T M U a0 b2=>?_);subst b2;have h:=S.ac U a0;have R:=hv.ac U;have w:BX W X T r (.list ((y::ys).map .str)):=by
  obtain⟨v,b3,r'⟩:=h.F.at h1;obtain⟨a,rfl,_,_,o⟩:=r';have:=b3.bk R;cases this;exact o
 by_cases q:y=x
 ·subst q;rw[Ap (_)];have a3:Ky y (y::ys)=ys:=by unfold Ky;simp
  rw[a3] at hQ;refine Al (wpAny_Delete (wpAny_deleteEach_cons ?_));refine wpAny_delete_Subscript (FI.bp (s:=#[s,T,M]) h.F h1 R ?_);refine(H 1 V z).ev O (.Constant (.int 0) I j) (.int 0) rfl Z X #[s,T,M] h.F (h.gd B) _ _ λ iv a6 Q L a7 ri=>?_;cases ri with
  |int _ t=>
   have a8:=h.ac L a7;obtain⟨vs,n,e,b6,l⟩:=w.ac L;have hz:vs.toList.length=ys.length+1:=by have:=l.length;simpa using this
   have b4:vs.size=ys.length+1:=by simpa using hz
   refine delItem_at (s:=#[s,a6,Q]) (k:=0) e {_} (by rw[b4];unfold seqIndex?;simp) (λ Y hs ho=>?_) (Ab b6 Ei);have a9:BO W Y r ys:=by
    refine⟨_,n+1,ho,?_,?_⟩
    ·show(vs.toList.eraseIdx 0).toArray.size<=Bi;have:(vs.toList.eraseIdx 0).length<=vs.toList.length:=List.length_eraseIdx_le _ _;have b7:vs.toList.length=vs.size:=(_)
     simp only[Fb];omega
    ·show RpL W [] Y (vs.toList.eraseIdx 0) (ys.map .str);cases b0:vs.toList with
     |nil=>rw[b0] at hz;cases hz
     |cons a b=>
      rw[b0] at l;cases l with
      |cons _ b'=>exact GD b'
   have b1:XS W V z N Z X #[s,Y,Q] (AM O "seq" (.own (.list (ys.map .str)))):=by
    refine XS.de (s:=#[s,a6,Q]) a8 h1 (R.ac L) hs hX hZ (Hg (w.ac L)) a9.own (Am _)
   refine wpAny_deleteEach_nil (AZ (hQ Y Q b1 a9 (λ b o b5 ho a4 a5=>?_) (Ab a0 a7)));exact(hs.2 b b5).trans (L.keep (U.keep ho a4 a5) a4 a5)
 ·rw[Ak (by simpa using q)];have a3:Ky x (y::ys)=y::ys:=by unfold Ky;simp[q]
  rw[a3] at hQ;refine AZ (hQ T M ?_ (BO.of w) (λ b o _ ho a4 a5=>U.keep ho a4 a5) a0);refine h.ap λ b6 sl hz=>?_;rw[Aw] at hz;split at hz
  ·rename_i q';rw[q',h1];exact hz
  ·exact hz
end
section
def SW (a h:Addr)(x:Str)(k:AC):AC:=("result",.al (.ref a))::("sequences",.al (.ref h))::("candidate",.aa (.str x))::k
def Vl (k:List Str)(h:List PV):AC:=[("result",.own (.list (k.map .str))),("sequences",.aa (.list h))]
def Dp (l:List Addr):List PV:=l.map λ r=>PV.obj (.ref r)
def PB (c:Addr->List Str)(x:Str)(done:List Addr)(r:Addr):List Str:=if r∈done then Ky x (c r) else c r
theorem XZ {a:Addr}{g:List Addr}{d:PV}{k1:Nat}{T R U Y q5 q6 q7 q8:Pos}{x:Str}(Gk:Dh W C k mg mb)(hA:Cg k A)(B:XB W V z N){f:List Addr}{c:Addr->List Str}{out:List Str}{m:Addr}{G:Nat}(S:XS W V z N Z (a::Z) s O)(f3:a∉Z)
 (l1:O.lookup ("result":Str)=some (.own (.list (out.map .str)))) (l2:O.lookup ("candidate":Str)=some (.aa (.str x))) (l3:O.lookup ("sequences":Str)=some (.bl (.ref m) d))
 (hL:s.heap.get? m=some (Fz (f.map Value.ref).toArray G)) (f4:f.length<=Bi) (b0:∀r∈g,W.h0.get? r=none/\N.get? r=none/\r∉a::Z/\BO W s.heap r (c r)) (f5:∀r∈f,r∈g) (i3:f.Nodup) (f6:m∉g) (c9:m∉a::Z) (i4:∀r∈f,c r≠[])
 (i5:V.names.lookup ("seq":Str)=some .local) {L p t u D:Pos} {M:Nat} {J:Flow->Shared->Prop}
 (hQ:∀h' tk,XS W V z N Z (a::Z) #[s,h',tk] (Vl out (Dp f))->(∀r∈g,BO W h' r (PB c x f r))->s.toks<=tk->J .next #[s,h',tk]):
 wpAny W.M A (exec (.For (.Name "seq" T) (.Name "sequences" R) [.If (.Compare (.Subscript (.Name "seq" U) (.Constant (.int 0) M Y) q5) [.Eq] [.Name "candidate" q6] q7) [.Delete [.Subscript (.Name "seq" q8) (.Constant (.int 0) k1 L) p] t] [] u] [] D) z) J E s:=by
 have f7:∀b∈Z,b∈a::Z:=λ b N=>Ad _ N;obtain⟨va,f8,ra⟩:=S.F.at l1;obtain⟨a',rfl,i6,f9,g0⟩:=ra;have i7:a'=a:=(Ag.mp i6).resolve_right f9;subst i7;have k7:∀b∈Ay z,b∉g:=λ b N hr=>(b0 b hr).2.2.1 (S.F.zx _ (S.F.aw b N));have i8:CC ("seq":Str)=true:={_}
 have i9:AR V "seq"=true:=Fe i5 i8;have g1:a'∉g:=λ q=>(b0 a' q).2.2.1 Ac
 let a6:AC:=SW a' m x []
 have d0:∀y s',a6.lookup y=some s'->(y="result"/\s'=.al (.ref a'))\/(y="sequences"/\s'=.al (.ref m))\/(y="candidate"/\s'=.aa (.str x)):=λ y s' e=>by
  unfold a6 SW at e;by_cases e1:y="result"
  ·subst e1;rw[An] at e;cases e;exact .inl ⟨rfl,rfl⟩
  ·rw[Aj e1] at e;by_cases e2:y="sequences"
   ·subst e2;rw[An] at e;cases e;exact .inr (.inl ⟨rfl,rfl⟩)
   ·rw[Aj e2] at e;by_cases e3:y="candidate"
    ·subst e3;rw[An] at e;cases e;exact .inr (.inr ⟨rfl,rfl⟩)
    ·rw[Aj e3] at e;cases e
 have F0:FI W V z Z (g++a'::Z) s.heap a6:=by
  refine S.F.re S.F.aw (λ b N=>Ax _ (f7 b N)) (λ b N=>?_) (λ _ _=>rfl) (λ y s' e=>?_) (λ y H d e h1=>?_)
  ·rcases Au.mp N with q |q
   ·obtain⟨o,ho,_⟩:=(b0 b q).2.2.2.some;exact⟨(b0 b q).1,o,ho⟩
   ·exact S.F.alive b q
  ·rcases d0 y s' e with⟨rfl,rfl⟩ |⟨rfl,rfl⟩ |⟨rfl,rfl⟩
   ·exact⟨_,l1,λ v hv _=>hv.bk f8⟩
   ·exact⟨_,l3,λ v hv r=>r.1⟩
   ·exact⟨_,l2,λ v hv r=>Z6 r⟩
  ·rcases d0 y _ h1 with⟨_,q⟩ |⟨_,q⟩ |⟨_,q⟩<;>cases q
 have S0:XS W V z N Z (g++a'::Z) s a6:=⟨F0,S.le,S.tk,λ b N hz=>by
  rcases Au.mp N with q |q
  ·exact(b0 b q).2.1
  ·exact S.fr b q hz,S.fc⟩
 rw[QI];refine Aa (AI (Aa (FI.al F0 (x:="sequences") (v:=.ref m) ⋯ (Aa (AA (EP (e:=.Name "sequences" R) rfl z _) (Aa (AI (Aa (AF ?_)))))))));have g2:m∉g++a'::Z:=λ q=>(Au.mp q).elim f6 c9;have j0:Rp W (g++a'::Z) s.heap (.ref m) (.list (Dp f)):=.list hL g2 (by simpa using f4) (by
  show RpL W _ _ (f.map Value.ref).toArray.toList _;exact Lh f)
 refine Eo (s:=s) (.list j0) λ I b6 hI j1 d5 j2=>?_;have b8:I∉g++a'::Z:=λ q=>by obtain⟨o,ho⟩:=S0.F.ah I q;rw[hI] at ho;cases ho
 have g3:N.get? I=none:=by
  cases q:N.get? I with
  |none=>rfl
  |some o=>obtain⟨o',c1⟩:=AP S.le ⟨o,q⟩;rw[hI] at c1;cases c1
 have b7:A8 W s.heap b6:=.ad d5;obtain⟨St,j3,b1⟩:=LJ.of (A:=A) (j2 b8) Ac hA.handled;refine Kl (h:=none) ?_;rw[GC];have d6:I∉Ay z:=λ q=>b8 (Ax _ (S.F.zx _ (S.F.aw _ q)));have g4:XS W V z N (I::Z) (I::(g++a'::Z)) #[s,b6,s.toks] a6:=
  ⟨S0.F.fresh (B.am.trans S.le) b7 hI j1,S.le.trans b7,S.tk,λ b N hz=>S0.fr b ((Ag.mp N).resolve_left λ q=>hz (q▸Ac)) λ q=>hz (Ad _ q),S.fc.bb b7⟩
 have j4:a'≠I:=λ q=>b8 (q▸Ax _ Ac);have j5:m≠I:=λ q=>by rw[q,hI] at hL;cases hL
 obtain⟨oa,g5,g6,k8⟩:=(BO.of g0).some
 let Inv (i:Nat) (h:Heap):Prop:=h.get? a'=some oa/\h.get? m=some (Fz (f.map Value.ref).toArray G)/\∀r∈g,BO W h r (PB c x (f.take i) r)
 have g7:Inv 0 b6:=⟨d5 _ _ g5,d5 _ _ hL,λ r hr=>by
  have:PB c x (f.take 0) r=c r:=by unfold PB;rw[List.take_zero,Ak (_)]
  rw[this];exact(b0 r hr).2.2.2.bb b7⟩
 have c2:∀{i:Nat}{h h':Heap},Inv i h->(∀b o,b=a'\/b=m\/b∈g->h.get? b=some o->Db o->h'.get? b=some o)->Inv i h':=λ{i h h'} v kk=>
  ⟨kk _ _ (.inl rfl) v.1 g6,kk _ _ (.inr (.inl rfl)) v.2.1 (.inl rfl),λ r hr=>(v.2.2 r hr).keep λ o e d=>kk _ _ (.inr (.inr hr)) e d⟩
 refine GO (λ n s'=>∃h' tk i,s'=#[s,h',tk]/\i<=(Dp f).length/\n=(Dp f).length-i/\St i h'/\XS W V z N (I::Z) (I::(g++a'::Z)) s' a6/\Inv i h'/\s.toks<=tk) (λ n s' j6=>?_) (Dp f).length
  ⟨b6,s.toks,0,rfl,BT _,rfl,j3,g4,g7,Am _⟩
 obtain⟨h',tk,i,rfl,hi,hn,st,S',iv,l⟩:=j6;obtain⟨oI,g8,g9,h0,k9,l0⟩:=b1.bq _ _ st;have d7:∀{b},Ck V z b->b∈Z:=λ{b} q=>S0.F.wr q;have d8:∀{b},b=a'\/b=m\/b∈g->b≠I:=λ{b} q q'=>by
  rcases q with q |q |q
  ·exact j4 (q▸q')
  ·exact j5 (q▸q')
  ·exact b8 (AT _ (q'▸q))
 have j7:∀{b},b=a'\/b=m\/b∈g->¬Ck V z b:=λ{b} q w=>by
  have:=d7 w;rcases q with q |q |q
  ·exact f3 (q▸this)
  ·exact c9 (Ad _ (q▸this))
  ·exact(b0 b q).2.2.1 (Ad _ this)
 by_cases h3:i<(Dp f).length
 ·have b2:i<f.length:=by simpa[Dp] using h3
  have hx:(Dp f)[i]? =some (.obj (.ref f[i])):=by unfold Dp;rw[AE,Bb b2];rfl
  refine Bw (n:=tk) (Am _) (b1.item i #[s,h',tk] _ _ _ st hx λ v a0 a1 rv a7 a2 c3=>?_);have a3:tk<=a1:=c3;generalize hr:f[i]=r at rv;have h4:r∈f:=hr▸List.getElem_mem b2;have b9:=f5 r h4;have ev:v=.ref r:=by cases rv;rfl
  subst ev;have c6:∃o,a0.get? I=some o:=by obtain⟨o,ho,_⟩:=b1.bq _ _ a7;exact⟨o,ho⟩
  have h5:XS W V z N (I::Z) (I::(g++a'::Z)) #[s,a0,a1] a6:=XS.et (s:=#[s,h',tk]) S' Ac d6 g3 ⟨oI,g8,g9,h0⟩ a2 c6 a3;have a4:Inv i a0:=c2 iv λ b o q e _=>a2 b o (d8 q) e;refine b1.cr (i+1) #[s,a0,a1] _ _ _ _ a7 ?_;refine XS.fg B h5 (x:="seq") (sl:=.al (.ref r)) i9 rfl (λ d q=>nomatch q) λ a5 d9 Q b4 h6=>?_;have a8:Inv i a5:=c2 a4 λ b o q e _=>b4.keep b o (j7 q) e;have h7:BO W a5 r (c r):=by
   have:=a8.2.2 r b9;have e:PB c x (f.take i) r=c r:=by
    unfold PB;rw[Ak];intro hm;obtain⟨j,hj,ej⟩:=List.mem_iff_getElem.mp hm;rw[List.getElem_take] at ej;have j8:j<i:=by rw[FO] at hj;omega
    have j9:j<f.length:=∅
    exact List.pairwise_iff_getElem.mp i3 j i j9 b2 j8 (ej.trans hr.symm)
   rwa[e] at this
  obtain⟨y,ys,h8⟩:∃y ys,c r=y::ys:=by
   cases q:c r with
   |nil=>exact absurd q (i4 r h4)
   |cons y ys=>exact⟨y,ys,rfl⟩
  let c0:AC:=SW a' m x [("seq",.own (.list ((y::ys).map .str)))]
  have e4:AM a6 "seq" (.al (.ref r))=SW a' m x [("seq",.al (.ref r))]:=⋯
  rw[e4] at Q;have k2:EZ V z a5 "seq" (.ref r):=by
   obtain⟨v,hv,rr⟩:=Q.F.at (x:="seq") (sl:=.al (.ref r)) ⋯;have:v=.ref r:=rr;rwa[this] at hv
  have e0:r∉I::Z:=λ q=>by
   rcases Ag.mp q with q |q
   ·exact d8 (.inr (.inr b9)) q
   ·exact(b0 r b9).2.2.1 (Ad _ q)
  have e5:r∈I::(g++a'::Z):=Ad _ (AT _ b9);have h9:XS W V z N (I::Z) (I::(g++a'::Z)) #[s,a5,d9] c0:=by
   refine⟨Q.F.re Q.F.aw Q.F.zx Q.F.alive (λ _ _=>rfl) (λ H s' e=>?_) (λ H z' d e h1 h2=>?_),Q.le,Q.tk,Q.fr,Q.fc⟩
   ·by_cases ez:H="seq"
    ·subst ez;refine⟨.al (.ref r),⋯,λ v hv rr=>?_⟩;have e':c0.lookup ("seq":Str)=some (.own (.list ((y::ys).map .str))):=⋯
     rw[e'] at e;cases e;have:v=.ref r:=rr;exact⟨r,this,e5,e0,h8▸h7.own⟩
    ·refine⟨s',?_,λ v hv rr=>rr⟩;rw[<-e];unfold c0 SW;by_cases z1:H="result"
     ·subst z1;rfl
     ·rw[Aj z1,Aj z1];by_cases z2:H="sequences"
      ·subst z2;rfl
      ·rw[Aj z2,Aj z2];by_cases z3:H="candidate"
       ·subst z3;rfl
       ·rw[Aj z3,Aj z3,Aj ez,Aj ez]
   ·have c4:∀H d,c0.lookup H=some (.own d)->H="seq":=λ H d e=>by
     unfold c0 SW at e;by_cases z1:H="result"
     ·subst z1;rw[An] at e;cases e
     ·rw[Aj z1] at e;by_cases z2:H="sequences"
      ·subst z2;rw[An] at e;cases e
      ·rw[Aj z2] at e;by_cases z3:H="candidate"
       ·subst z3;rw[An] at e;cases e
       ·rw[Aj z3] at e;by_cases z4:H="seq"
        ·exact z4
        ·rw[Aj z4] at e;cases e
    rw[c4 H _ h1,c4 z' _ h2]
  refine Al (XY (y:=y) (ys:=ys) (x:=x) Gk hA B h9 ⋯ ⋯ k2 e5 e0 λ b3 c5 c8 c7 b5 i0=>AZ ?_);have e6:AM c0 "seq" (.own (.list ((Ky x (y::ys)).map .str)))=SW a' m x [("seq",.own (.list ((Ky x (y::ys)).map .str)))]:=⋯
  rw[e6] at c8;have i1:XS W V z N (I::Z) (I::(g++a'::Z)) #[s,b3,c5] a6:=c8.ap λ H sl e=>by
   rcases d0 H sl e with⟨rfl,rfl⟩ |⟨rfl,rfl⟩ |⟨rfl,rfl⟩<;>kernel_rfl
  obtain⟨oJ,i2,d1,d2,d3,d4⟩:=b1.bq _ _ a7;have k3:I≠r:=λ q=>e0 (q▸Ac);have a9:a5.get? I=some oJ:=b4.keep I oJ (λ q=>by
   have:=d7 q;exact b8 (Ax _ (Ad _ this))) i2
  have e7:St (i+1) a5:=b1.frame _ _ _ a7 (λ o ho=>by rw[i2] at ho;cases ho;exact a9) λ b o e8 ho hd=>b4.keep b o (λ q=>e8 (Ad _ (Ax _ (Ad _ (d7 q))))) ho;have e9:St (i+1) b3:=b1.frame _ _ _ e7 (λ o ho=>by rw[a9] at ho;cases ho;exact b5 I _ k3 a9 d3 d1) λ b o e8 ho hd=>b5 b o (λ q=>e8 (q▸e5)) ho (by rcases hd with hd |hd |hd<;>rw[hd]<;>simp) (by rcases hd with hd |hd |hd<;>rw[hd]<;>simp);have f0:Inv (i+1) b3:=by
   have kd:∀b o,b≠r->a5.get? b=some o->Db o->b3.get? b=some o:=λ b o k4 e hd=>b5 b o k4 e (by rcases hd with hd |hd |hd<;>rw[hd]<;>simp) (by rcases hd with hd |hd |hd<;>rw[hd]<;>simp);refine⟨kd _ _ (λ q=>g1 (q▸b9)) a8.1 g6,kd _ _ (λ q=>f6 (q▸b9)) a8.2.1 (.inl rfl),λ r' k5=>?_⟩;by_cases q:r'=r
   ·subst q;have:PB c x (f.take (i+1)) r'=Ky x (y::ys):=by
     unfold PB;rw[Ap,h8];rw[List.take_succ_eq_append_getElem b2];exact Ax _ (by rw[hr];exact Cz.mpr rfl)
    rw[this];exact c7
   ·have:PB c x (f.take (i+1)) r'=PB c x (f.take i) r':=by
     unfold PB;rw[List.take_succ_eq_append_getElem b2,hr];by_cases H:r'∈f.take i
     ·rw[Ap H,Ap (AT _ H)]
     ·rw[Ak H,Ak λ z'=>(Au.mp z').elim H λ z'=>q (Cz.mp z')]
    rw[this];exact(a8.2.2 r' k5).keep λ o e d=>kd _ _ q e d
  exact⟨n-1,∅,b3,c5,i+1,rfl,h3,∅,e9,i1,f0,Ab l (Ab a3 (Ab h6 i0))⟩
 ·have k6:i=(Dp f).length:=∅
  subst k6;refine Bw (n:=tk) (Am _) (b1.done #[s,h',tk] _ _ st λ a0 a1 a2 c3=>AZ ?_);have a3:tk<=a1:=c3;have a4:Inv (Dp f).length a0:=c2 iv λ b o q e _=>a2 b o (d8 q) e;have f1:∀r∈g,BO W a0 r (PB c x f r):=λ r hr=>by
   have:=a4.2.2 r hr;rwa[show f.take (Dp f).length=f by unfold Dp;rw[Ao,List.take_length]] at this
  refine hQ a0 a1 ?_ f1 (Ab l a3);have fS:∀b∈Ay z,a0.get? b=h'.get? b:=Tb (P:=λ b=>b=I) S'.F S'.fc (λ b o e q=>a2 b o q e) λ b N q=>d6 (q▸N);refine⟨S'.F.re S.F.aw f7 (λ b N=>⟨(S.F.alive b N).1,?_⟩) fS (λ H s' e=>?_) (λ H z' d e h1 h2=>?_),S'.le.ext g3 (λ o vs ho hd=>?_) a2,Ab S'.tk a3,S.fr,S'.fc.at λ o ho=>a2 _ o (λ q=>d6 (q▸Ac)) ho⟩
  ·obtain⟨o,ho⟩:=(S'.F.alive b (Ad _ (Ax _ N))).2;exact⟨o,a2 b o (λ q=>b8 (q▸Ax _ N)) ho⟩
  ·unfold Vl at e;by_cases z1:H="result"
   ·subst z1;rw[An] at e;cases e;refine⟨.al (.ref a'),⋯,λ v hv rr=>?_⟩;have f2:v=.ref a':=rr;obtain⟨vs,n,e,H,l⟩:=BO.of g0;have:oa=Fz vs n:=by rw[g5] at e;cases e;rfl
    exact⟨a',f2,Ac,f3,vs,n,by rw[a4.1,this],H,GD l⟩
   ·rw[Aj z1] at e;by_cases z2:H="sequences"
    ·subst z2;rw[An] at e;cases e;refine⟨.al (.ref m),⋯,λ v hv rr=>?_⟩;have f2:v=.ref m:=rr;rw[f2];exact .list a4.2.1 c9 (by simpa using f4) (Lh f)
    ·rw[Aj z2] at e;cases e
  ·have c4:∀H d,(Vl out (Dp f)).lookup H=some (.own d)->H="result":=λ H d e=>by
    unfold Vl at e;by_cases z1:H="result"
    ·exact z1
    ·rw[Aj z1] at e;by_cases z2:H="sequences"
     ·subst z2;rw[An] at e;cases e
     ·rw[Aj z2] at e;cases e
   rw[c4 H _ h1,c4 z' _ h2]
  ·have c1:h'.get? I=some o:=ho;rw[g8] at c1;cases c1;exact⟨g9,h0⟩
end
theorem Rj (h:List PV)(lo k st:Option Int)(o:sliceRange (sliceBounds lo k st h.length).1 (sliceBounds lo k st h.length).2.1 (sliceBounds lo k st h.length).2.2=js):Iw h lo k st=js.filterMap (h[·]?):=by
 unfold Iw;rw[o]
theorem O9 {b:Type}(h:List b)(a k:Nat):((List.range k).map (a+·)).filterMap (h[·]?)=(h.drop a).take k:=by
 have:=pick_run h.toArray a k;simpa using this
theorem SR (h:List PV)(a:Nat):Iw h (some (a:Int)) none none=h.drop a:=by
 have e:sliceBounds (some (a:Int)) none none h.length=(((min a h.length:Nat):Int),(h.length:Int),1):=by
  simp only[sliceBounds,Option.getD_none];have k:¬((a:Int)<0):=∅
  simp only[k,AS,show(1:Int)>0 by decide,A0];congr 1;omega
 rw[Rj h _ _ _ (js:=(List.range (h.length-min a h.length)).map (min a h.length+·)) (by rw[e];exact sliceRange_one _ _),O9]
 by_cases q:a<=h.length
 ·rw[Nat.min_eq_left q,Cq (by rw[LH];exact Am _)]
 ·rw[Nat.min_eq_right ∅,DC (Am _),DC ∅];simp
theorem Q7 (h:List PV)(a:Nat)(k:h.length<=Bi):CA (.list h) (some (a:Int)) none none=some (.list (h.drop a)):=by
 unfold CA;simp only[SR];rw[Ap ⟨(_),by rw[LH];omega⟩]
theorem Pe:∀(l:List Str)(n:Nat),lvlL n (l.map .str)=true
 |[],n=>by cases n<;>rfl
  |x::l,n=>by
   have:=Pe l n;cases n<;>(rw[AL,lvlL,this];rfl)
theorem Zq (a b:Str):PyData.eqv (.str a) (.str b)=decide (a=b):=rfl
theorem M6:∀l:List Str,toPyL (l.map .str)=l.map PyData.str
 |[]=>rfl
  |x::l=>by rw[AL,toPyL,M6 l];rfl
theorem Sm (x:Str):∀l:List Str,((l.map PyData.str).any λ y=>PyData.eqv y (.str x))=l.contains x
 |[]=>rfl
  |y::l=>by
   rw[AL,List.any_cons,Sm x l,Zq,List.contains_cons];congr 1;by_cases q:y=x
   ·subst q;simp
   ·rw[Bs q]
    symm;simpa using λ e:x=y=>q e.symm
theorem Xr (x:Str)(l:List Str):Ua (.str x) (.list (l.map .str))=some (l.contains x):=by
 unfold Ua;have:(Pf 6 (.str x)&&lvlL 6 (l.map .str))=true:=by rw[Pe];rfl
 simp only[this,A0,M6];show some ((l.map PyData.str).any λ y=>PyData.eqv y (.str x))=_;rw[Sm]
def dI (P:Nat->Pos)(K:Nat->Nat):Stmt:=.If (.Compare (.Name "candidate" (P 9)) [.In] [.Subscript (.Name "s2" (P 10)) (.Slice (some (.Constant (.int 1) (K 1) (P 11))) none none (P 12)) (P 13)] (P 14)) [.Assign [.Name "candidate" (P 15)] (.Constant .none (K 2) (P 16)) (P 17),.Break (P 18)] [] (P 19)
def Sj (P:Nat->Pos)(K:Nat->Nat):Stmt:=.Assign [.Name "candidate" (P 2)] (.Subscript (.Name "s1" (P 3)) (.Constant (.int 0) (K 0) (P 4)) (P 5)) (P 6)
def VT (P:Nat->Pos)(K:Nat->Nat):Stmt:=.For (.Name "s2" (P 7)) (.Name "sequences" (P 8)) [dI P K] [.Break (P 20)] (P 21)
def dH (P:Nat->Pos)(K:Nat->Nat):Stmt:=.For (.Name "s1" (P 0)) (.Name "sequences" (P 1)) [Sj P K,VT P K] [] (P 22)
structure dU (sc:Scope):Prop where
 s1:AR sc "s1"=true
 s2:AR sc "s2"=true
 jm:AR sc "candidate"=true
 seq:AR sc "sequences"=true
def Gv (b:Bool)(R:PV)(q:Value)(L:PV)(h k:PV):AC:=
 if b then[("result",.own R),("sequences",.bl q L),("s1",.aa k),("candidate",.aa h)] else[("result",.own R),("sequences",.bl q L),("candidate",.aa h),("s1",.aa k)]
def BB (h:List (List Str)):List PV:=h.map λ c=>.list (c.map .str)
def FH (h:List (List Str))(x:Str):Bool:=h.all λ t=>!(t.tail.contains x)
section
variable {a n m:Nat}{R L:PV}{q:Value}{P:Nat->Pos}{K:Nat->Nat} in
theorem Z7 (T:dU V)(b:Bool){d1:PV}{x:Str}:∀h:List (List Str),(∀t∈h,t.length<=Bi)->
 Gj V (.Name "s2" (P 7)) (λ s=>(DQ (Ez (By C (m+5)) a V (n+3)) [dI P K] s).map (JL ((Gv b R q L (.str x) d1).map (·.1)))) (DQ (Ez (By C (m+5)) a V (n+3)) [.Break (P 20)]) (BB h) (Gv b R q L (.str x) d1)
  =some (if FH h x then .brk (Gv b R q L (.str x) d1) else .next (Gv b R q L .none d1))
 |[],_=>by
  show DQ (Ez (By C (m+5)) a V (n+3)) [.Break (P 20)] _=_;rfl
 |t::h,E=>by
  have Q:=Z7 T b (d1:=d1) (x:=x) h λ t W=>E t (Ad _ W);show(DL V (.Name "s2" (P 7)) (.list (t.map .str)) _).bind _=_;have Z:DL V (.Name "s2" (P 7)) (.list (t.map .str)) (Gv b R q L (.str x) d1)=some (AM (Gv b R q L (.str x) d1) "s2" (.aa (.list (t.map .str)))):=EX T.s2;rw[Z];have H:(AM (Gv b R q L (.str x) d1) "s2" (.aa (.list (t.map .str)))).lookup ("candidate":Str)=some (.aa (.str x)):=by cases b<;>kernel_rfl
  have w:(AM (Gv b R q L (.str x) d1) "s2" (.aa (.list (t.map .str)))).lookup ("s2":Str)=some (.aa (.list (t.map .str))):=by cases b<;>kernel_rfl
  have N:Ci ((Gv b R q L (.str x) d1).map (·.1)) (AM (Gv b R q L (.str x) d1) "s2" (.aa (.list (t.map .str))))=Gv b R q L (.str x) d1:=by cases b<;>kernel_rfl
  have O:Ci ((Gv b R q L (.str x) d1).map (·.1)) (AM (AM (Gv b R q L (.str x) d1) "s2" (.aa (.list (t.map .str)))) "candidate" (.aa .none))=Gv b R q L .none d1:=by cases b<;>kernel_rfl
  generalize AM (Gv b R q L (.str x) d1) "s2" (.aa (.list (t.map .str)))=k at H w N O ⊢;have z:(By C (m+5)).ts V k (.Compare (.Name "candidate" (P 9)) [.In] [.Subscript (.Name "s2" (P 10)) (.Slice (some (.Constant (.int 1) (K 1) (P 11))) none none (P 12)) (P 13)] (P 14))=some (t.tail.contains x):=by
   rw[K7];have c:(By C (m+4)).ev V k (.Name "candidate" (P 9))=some (.str x):=CK H;have f:(By C (m+4)).ev V k (.Subscript (.Name "s2" (P 10)) (.Slice (some (.Constant (.int 1) (K 1) (P 11))) none none (P 12)) (P 13))=some (.list (t.tail.map .str)):=by
    show(EL (By C (m+3)) V k (.Name "s2" (P 10))).bind _=_;rw[F5 λ d e=>(by rw[w] at e;cases e),show(By C (m+3)).ev V k (.Name "s2" (P 10))=some (.list (t.map .str)) from CK w];show CA (.list (t.map .str)) (some ((1:Nat):Int)) none none=_;rw[Q7 _ 1 (by rw[Ao];exact E t Ac),<-List.map_drop,List.drop_one]
   unfold GQ;simp only[CQ,A0,c,AX,SZ,Ok (show Rq (Expr.Subscript _ _ _)=none from rfl),f];exact Xr x t.tail
  have hex:(DQ (Ez (By C (m+5)) a V (n+3)) [dI P K] k)=some (if t.tail.contains x then .brk (AM k "candidate" (.aa .none)) else .next k):=by
   show(((By C (m+5)).ts V k _).bind _).bind _=_;rw[z];cases g:t.tail.contains x with
   |false=>rfl
   |true=>
    show(DQ (Ez (By C (m+5)) a V (n+2)) [.Assign [.Name "candidate" (P 15)] (.Constant .none (K 2) (P 16)) (P 17),.Break (P 18)] k).bind _=_;have:DQ (Ez (By C (m+5)) a V (n+2)) [.Assign [.Name "candidate" (P 15)] (.Constant .none (K 2) (P 16)) (P 17),.Break (P 18)] k=some (.brk (AM k "candidate" (.aa .none))):=by
     rw[DQ,GR (d:=.none) (by rfl) (by rfl) T.jm];rfl
    rw[this];rfl
  simp only[AX,hex,MY];show(match JL _ (if t.tail.contains x=true then _ else _) with | .next o=>Gj _ _ _ _ (BB h) o | .brk o=>some (.next o) | .ret d=>some (.ret d))=_;have A:FH (t::h) x=(!(t.tail.contains x)&&FH h x):=by unfold FH;rw[Dd]
  rw[A];cases g:t.tail.contains x with
  |false=>
   simp only[Aq,AS,Bool.not_false,Bool.true_and,JL,N];exact Q
  |true=>simp only[A0,JL,O,HK,JG,Aq,AS]
variable {r:List Stmt}{x:Str} in
def DW (all:List (List Str)):List (List Str)->Option Str
 |[]=>none
 |[]::r=>DW all r
 |(x::_)::r=>if FH all x then some x else DW all r
variable {x:Str} in
def PA:Option Str->PV
 |some x=>.str x
 |none=>.none
variable {a:ClassData} in
def I7 (R:PV)(q:Value)(L:PV):Option PV->AC
 |none=>[("result",.own R),("sequences",.bl q L)]
 |some a=>[("result",.own R),("sequences",.bl q L),("candidate",.aa a)]
def Xl:List Str:=["result","sequences","candidate"]
theorem Z8 {fuel n m:Nat}{R:PV}{q:Value}{P:Nat->Pos}{K:Nat->Nat}(T:dU V){all:List (List Str)}(A:∀t∈all,t.length<=Bi)(k:Option PV):∀h:List (List Str),(∀t∈h,t≠[])->(h=[]->k=some .none)->
 Gj V (.Name "s1" (P 0)) (λ w=>(DQ (Ez (By C (m+5)) fuel V (n+5)) [Sj P K,VT P K] w).map (JL Xl)) (λ H=>some (.next H)) (BB h) (I7 R q (.list (BB all)) k)
  =some (.next (I7 R q (.list (BB all)) (some (PA (DW all h)))))
 |[],_,N=>by rw[N rfl];rfl
  |[]::h,s,_=>absurd rfl (s [] Ac)
  |(x::t)::h,s,_=>by
   show(DL V (.Name "s1" (P 0)) (.list ((x::t).map .str)) _).bind _=_;have O:DL V (.Name "s1" (P 0)) (.list ((x::t).map .str)) (I7 R q (.list (BB all)) k)=some (AM (I7 R q (.list (BB all)) k) "s1" (.aa (.list ((x::t).map .str)))):=EX T.s1;rw[O];obtain⟨b,E⟩:∃b,AM (AM (I7 R q (.list (BB all)) k) "s1" (.aa (.list ((x::t).map .str)))) "candidate" (.aa (.str x))=Gv b R q (.list (BB all)) (.str x) (.list ((x::t).map .str)):=by
    cases k with
    |none=>exact⟨true,⋯⟩
    |some f=>exact⟨false,⋯⟩
   have z:(AM (I7 R q (.list (BB all)) k) "s1" (.aa (.list ((x::t).map .str)))).lookup ("s1":Str)=some (.aa (.list ((x::t).map .str))):=by cases k<;>kernel_rfl
   generalize AM (I7 R q (.list (BB all)) k) "s1" (.aa (.list ((x::t).map .str)))=o at E z ⊢;have Q:Ez (By C (m+5)) fuel V (n+5) o (Sj P K)=some (.next (Gv b R q (.list (BB all)) (.str x) (.list ((x::t).map .str)))):=by
    rw[<-E];refine GR ?_ (by rfl) T.jm;show(EL (By C (m+4)) V o (.Name "s1" (P 3))).bind _=_;rw[F5 λ d e=>(by rw[z] at e;cases e),show(By C (m+4)).ev V o (.Name "s1" (P 3))=some (.list ((x::t).map .str)) from CK z];show(if Lu 0=true then(seqIndex? 0 ((t.map PV.str).length+1)).bind _ else none)=_;have W:seqIndex? 0 ((t.map PV.str).length+1)=some 0:=by unfold seqIndex?;simp
    rw[W];rfl
   have Z:Ez (By C (m+5)) fuel V (n+5) (Gv b R q (.list (BB all)) (.str x) (.list ((x::t).map .str))) (VT P K)=some (if FH all x then .brk (Gv b R q (.list (BB all)) (.str x) (.list ((x::t).map .str))) else .next (Gv b R q (.list (BB all)) .none (.list ((x::t).map .str)))):=by
    show((By C (m+5)).it V _ _).bind _=_;have:(By C (m+5)).it V (Gv b R q (.list (BB all)) (.str x) (.list ((x::t).map .str))) (.Name "sequences" (P 8))=some (BB all):=by
     show(GF C V _ "sequences").bind SM=_;rw[Nn (v:=q) (d:=.list (BB all)) (by cases b<;>kernel_rfl)];rfl
    rw[this];exact Z7 T b all A
   have hex:DQ (Ez (By C (m+5)) fuel V (n+5)) [Sj P K,VT P K] o=some (if FH all x then .brk (Gv b R q (.list (BB all)) (.str x) (.list ((x::t).map .str))) else .next (Gv b R q (.list (BB all)) .none (.list ((x::t).map .str)))):=by
    rw[DQ,Q];show(Ez (By C (m+5)) fuel V (n+5) _ (VT P K)).bind _=_;rw[Z];cases e:FH all x<;>rfl
   simp only[AX,hex,MY];cases e:FH all x with
   |true=>
    simp only[DW,e,A0,JL,PA];cases b<;>kernel_rfl
   |false=>
    simp only[DW,e,Aq,AS,JL];have a:Ci Xl (Gv b R q (.list (BB all)) .none (.list ((x::t).map .str)))=I7 R q (.list (BB all)) (some .none):=by cases b<;>kernel_rfl
    rw[a];exact Z8 T A (some .none) h (λ t c=>s t (Ad _ c)) λ _=>rfl
end
theorem Hz {a b:Type}{f:a->Option b}{g:a->b}:∀{k:List a},(∀x∈k,f x=some (g x))->k.mapM f=some (k.map g)
 |[],_=>rfl
  |x::k,h=>by
   rw[GZ,h x Ac,Hz λ y o=>h y (Ad _ o)];rfl
theorem Mm {a b:Type}(q:a->Bool)(f:a->b):∀h:List a,(h.map λ x=>if q x then[f x] else[]).flatten=(h.filter q).map f
 |[]=>rfl
  |x::h=>by
   rw[AL,List.flatten_cons,Mm q f h,FQ];cases q x<;>rfl
theorem Ig {ifs:List Expr}{xs:List PV}{it t:Expr}{a:Type}{tst:AC->Expr->Option Bool}{itr:AC->Expr->Option (List PV)}{emit:AC->Option a}(q:PV->Bool)(f:PV->a)
 (k:(DY t).all (λ x=>(O.lookup x).isNone)=true) (o:∀x∈xs,∃h,Dc V t x O=some h/\F9 tst h ifs=some (q x)/\(q x=true->emit h=some (f x))):
 Cc V tst itr emit [⟨t,it,ifs,0⟩] O xs=some ((xs.filter q).map f):=by
 rw[Cc,Ap ⟨rfl,k⟩];rw[Hz (g:=λ x=>if q x then[f x] else[]) λ x s=>?_]
 ·show some _=_;rw[Mm]
 ·obtain⟨h,w,z,A⟩:=o x s;simp only[w,AX,z];cases C:q x with
  |true=>simp only[A0,A C,MY]
  |false=>simp only[Aq,AS]
theorem RL (h:∀x,a.names.lookup x≠some .free)(k:AC):A3 a k=[]:=by
 unfold A3;rw[MD];intro q _ e;exact h q.1 (Bo e)
def IA (h:List (List Str)):List (List Str):=h.filter λ c=>!c.isEmpty
variable {n:Nat}{x:Str} in
def Mx:Nat->List (List Str)->List Str->Option (Option (List Str)×List (List Str))
 |0,_,_=>none
 |n+1,h,k=>if(IA h).isEmpty then some (some k,h) else match DW (IA h) (IA h) with
  |none=>some (none,h)
  |some x=>Mx n (h.map (Ky x)) (k++[x])
def KV:Str:="Inconsistent hierarchy"
def ZK (h:Scope)(P:Nat->Pos):Stmt:=.Assign [.Name "sequences" (P 23)] (.ListComp (.Name "s" (P 24)) [⟨.Name "s" (P 25),.Name "sequences" (P 26),[.Name "s" (P 27)],0⟩] h (P 28)) (P 29)
def fP (P:Nat->Pos):Stmt:=.If (.UnaryOp .Not (.Name "sequences" (P 30)) (P 31)) [.Return (some (.Name "result" (P 32))) (P 33)] [] (P 34)
def ZJ (P:Nat->Pos)(K:Nat->Nat):Stmt:=.If (.Compare (.Name "candidate" (P 35)) [.Is] [.Constant .none (K 3) (P 36)] (P 37)) [.Raise (some (.Call (.Name "RuntimeError" (P 38)) [.Constant (.str "Inconsistent hierarchy") (K 4) (P 39)] [] (P 40))) none (P 41)] [] (P 42)
def fR (P:Nat->Pos):Stmt:=.Expr (.Call (.Attribute (.Name "result" (P 43)) "append" (P 44)) [.Name "candidate" (P 45)] [] (P 46)) (P 47)
def fQ (P:Nat->Pos)(K:Nat->Nat):Stmt:=.For (.Name "seq" (P 48)) (.Name "sequences" (P 49)) [.If (.Compare (.Subscript (.Name "seq" (P 50)) (.Constant (.int 0) (K 5) (P 51)) (P 52)) [.Eq] [.Name "candidate" (P 53)] (P 54)) [.Delete [.Subscript (.Name "seq" (P 55)) (.Constant (.int 0) (K 6) (P 56)) (P 57)] (P 58)] [] (P 59)] [] (P 60)
def X8 (h:Scope)(P:Nat->Pos)(K:Nat->Nat):Stmt:=.While (.Constant (.bool true) (K 7) (P 61)) [ZK h P,fP P,dH P K,ZJ P K,fR P,fQ P K] [] (P 62)
def Od (h:Scope)(P:Nat->Pos)(K:Nat->Nat):List Stmt:=[.Assign [.Name "result" (P 63)] (.List [] (P 64)) (P 65),X8 h P K]
structure PH (sc sp:Scope)(P:Nat->Pos):Prop where
 S:dU sc
 seq:sc.names.lookup ("seq":Str)=some .local
 kg:AR sc "result"=true
 ke:Bz sc "RuntimeError"=true
 jy:Cd sc sp=true
 jx:∀x,sp.names.lookup x≠some .free
 jw:AR sp "s"=true
 kq:((P 44).endLine==(P 46).line)=true
section
def H6 (c:Addr->List Str)(r:Addr):Bool:=!(c r).isEmpty
theorem WF {e:List Addr}{a:Scope}{P:Nat->Pos}(T:PH V a P){b:List Addr}{c:Addr->List Str}(h:∀r∈b,r∈e)(k:AC):
 Cc a (J3 λ r=>if r∈e then some ((c r).map PV.str) else none) ((By Cn 2).it a) (λ k=>(By Cn 2).ev a k (.Name "s" (P 24))) [⟨.Name "s" (P 25),.Name "sequences" (P 26),[.Name "s" (P 27)],0⟩] (A3 a k) (Dp b)=some (Dp (b.filter (H6 c))):=by
 rw[RL T.jx];have o:=Ig (V:=a) (tst:=J3 λ r=>if r∈e then some ((c r).map PV.str) else none) (itr:=(By Cn 2).it a) (emit:=λ k=>(By Cn 2).ev a k (.Name "s" (P 24))) (t:=.Name "s" (P 25)) (it:=.Name "sequences" (P 26)) (ifs:=[.Name "s" (P 27)]) (O:=[]) (xs:=Dp b)
  (λ d=>match d with | .obj (.ref r)=>H6 c r |_=>false) id rfl λ d hd=>by
   obtain⟨r,s,rfl⟩:=At.mp hd;have w:AR a ("s":Str)=true:=T.jw;refine⟨[("s",.aa (.obj (.ref r)))],?_,?_,λ _=>?_⟩
   ·show(if AR a ("s":Str)=true then _ else none)=_;rw[Ap w]
   ·unfold F9;have:J3 (λ r=>if r∈e then some ((c r).map PV.str) else none) [("s",.aa (.obj (.ref r)))] (.Name "s" (P 27))=some (H6 c r):=by
     show(if r∈e then some ((c r).map PV.str) else none).map (λ z=>!z.isEmpty)=_;rw[Ap (h r s)];unfold H6;cases c r<;>rfl
    rw[this];show(match some (H6 c r) with |some true=>F9 _ _ [] |some false=>some false |none=>none)=some (H6 c r);cases H6 c r<;>rfl
   ·show GF Cn a [("s",.aa (.obj (.ref r)))] "s"=_;rw[CK An];rfl
 rw[o,OR];unfold Dp;rw[Dv];rfl
def ED (o:BH)(s:Heap)(k:List Addr)(h:List (List Str)):Prop:=∃c:Addr->List Str,k.map c=h/\∀r∈k,BO o s r (c r)
abbrev RF (h:List Str)(k:List Addr):AC:=Vl h (Dp k)
theorem PW:∀{k:List Value}{l:List Addr},RpL W X h k (Dp l)->k=l.map Value.ref
 |_,[],.nil=>rfl
  |_,_::_,.cons a b=>by cases a;rw[PW b];rfl
theorem PU (c:Addr->List Str):∀(l:List Addr),(∀r∈l,r∉X/\BO W h r (c r))->RpL W X h (l.map Value.ref) (BB (l.map c))
 |[],_=>.nil
  |r::l,H=>.cons ((H r Ac).2.rp (H r Ac).1) (PU c l λ x k=>H x (Ad _ k))
theorem Lr (e:(RF a b).lookup y=some c):(y="result"/\c=.own (.list (a.map .str)))\/(y="sequences"/\c=.aa (.list (Dp b))):=by
 unfold RF Vl at e;by_cases h:y="result"
 ·subst h;rw[An] at e;cases e;exact .inl ⟨rfl,rfl⟩
 ·rw[Aj h] at e;by_cases k:y="sequences"
  ·subst k;rw[An] at e;cases e;exact .inr ⟨rfl,rfl⟩
  ·rw[Aj k] at e;cases e
theorem RD (c:Addr->List Str):∀h:List Addr,IA (h.map c)=(h.filter (H6 c)).map c
 |[]=>rfl
  |r::h=>by
   have:=RD c h;unfold IA at this ⊢;rw[AL,FQ,FQ,this];unfold H6;cases (c r).isEmpty<;>rfl
theorem Uq {c:Addr->List Str}{x:Str}{d:List Addr}:∀l:List Addr,(∀r∈l,r∈d)->l.map (PB c x (d.filter (H6 c)))=(l.map c).map (Ky x)
 |[],_=>rfl
  |r::l,h=>by
   rw[AL,AL,AL,Uq l λ y k=>h y (Ad _ k)];congr 1;unfold PB;by_cases q:r∈d.filter (H6 c)
   ·rw[Ap q]
   ·rw[Ak q];have:H6 c r=false:=by
     cases e:H6 c r with
     |false=>rfl
     |true=>exact absurd (AU.mpr ⟨h r Ac,e⟩) q
    unfold H6 at this;have:c r=[]:=by
     cases e:c r with
     |nil=>rfl
     |cons a b=>rw[e] at this;cases this
    rw[this];rfl
theorem Vg {a:List Addr}{x:Str}{c:Addr->List Str}:(a.filter (H6 c)).filter (H6 (PB c x (a.filter (H6 c))))=a.filter (H6 (PB c x (a.filter (H6 c)))):=by
 rw[List.filter_filter];apply CI;intro r k;by_cases q:H6 c r=true
 ·rw[q,HM]
 ·have:H6 c r=false:=by simpa using q
  rw[this,Bool.and_false];have h:r∉a.filter (H6 c):=λ z=>q (AU.mp z).2;have e:H6 (PB c x (a.filter (H6 c))) r=H6 c r:=by
   show(!(PB c x (a.filter (H6 c)) r).isEmpty)=_;rw[show PB c x (a.filter (H6 c)) r=c r from Ak h];rfl
  rw[e,this]
end
def Su (o:BH)(h k:Heap)(e:Addr)(s v:Value)(f:Addr):Prop:=
 A8 o h k/\h.get? e=none/\∃t n T,k.get? t=some (JI #[v] n)/\UD k e s (.ref t) (some T) (rawInt f)/\h.get? T=none
section
variable {C:Value}
theorem W3 (B:C≠.none/\C≠.type "code")(r:A.frames=some (z::a))(St:AQ W s.heap (z::a))(F:It W hs s.heap e C v)
 (L:∀u,Su W hs u e C v z.locals->AQ W u (z::a)->E (.ref e) #[s,u]):notedBy M A z (λ e R=>cameBackBy M A z E e R) (.ref e) s:=by
 unfold notedBy;refine F.fs B r St λ h t n T Z D k S c=>?_;obtain⟨x,G,m,d,H,I,p,N,U,Y,O,g,Q,J⟩:=c;have hf:=k.2.1;unfold cameBackBy;refine Aa (B5 (s:=#[s,h]) m H p ?_);rw[Ak (_)];rw[hf];unfold setFlight;refine Aa (B5 (s:=#[s,h]) m H p ?_);rw[Ap (show(Value.ref T !=Value.none)=true from by simp)];have i:=(Ch.mp J).1;have j:=Dl Q (·.setIfInBounds 3 ((some z.locals:Option Addr).elim Value.none λ f=>rawInt f))
 have w:UD h e C (.ref t) (some T) (rawInt z.locals):=⟨x,G,m,d,H,I,p,N,U,Y,O,g,Q,J⟩;have l:∀b o,h.get? b=some o->b≠T->(h.update T (Obj.mapFields (·.setIfInBounds 3 ((some z.locals:Option Addr).elim Value.none λ f=>rawInt f)))).get? b=some o:=λ b o y V=>by rw[Ca _ _ (Ne.symm V)];exact y
 have K:Sw (Em (z::a)) e (some T) h (h.update T (Obj.mapFields (·.setIfInBounds 3 ((some z.locals:Option Addr).elim Value.none λ f=>rawInt f)))):=λ b o y _ V=>.inl (l b o y λ q=>V (by rw[q]))
 refine HN (s:=#[s,h]) O Q i (L _ ⟨Z.fv k K w B F.2.1 λ T' q=>by cases q;exact D,F.2.1,t,n,T,K.seq k w S rfl,⟨x,G,l e x m N.symm,d,H,I,p,N,_,_,Bc _ O (Dj j),(MZ _ _).trans g,j,by simp[i]⟩,D⟩ (K.stack k w))
theorem Su.be (g:C≠.none/\C≠.type "code")(St:AQ W s.heap (z::a))(F:Su W c s.heap e C v z.locals)(i:∀N,It W c N e C v->AQ W N (z::a)->b () #[s,N]):wpAny M A (leaving z (.ref e)) b E s:=by
 obtain⟨H,j,t,n,T,l,m,p⟩:=F;unfold leaving;refine Aa ?_;obtain⟨q,r,k,O,h,u,d,Q,x,y,o,V,w,f⟩:=m;have B:=St.2.1;have Z:UD s.heap e C (.ref t) (some T) (rawInt z.locals):=⟨q,r,k,O,h,u,d,Q,x,y,o,V,w,f⟩;unfold noteFrame;simp only[B];refine Aa (B5 k h d ?_);rw[Ap (show(Value.ref T !=Value.none)=true from by simp)];refine Aa (B5 o w f ?_);rw[Ap (_)];exact Af (It.land g St H j p l Z i)
end
section
theorem BO.af (x:BO W h r c)(k:BY V z Z X h H)(s:r∉X):BO W H r c:=x.keep λ o e d=>k r o (.inl ⟨s,d⟩) e
theorem aY:(By C (m+1)).ts V O (.UnaryOp .Not e a)=((By C m).ts V O e).map (!·):=⋯
theorem Zg:(By C (m+1)).it V O (.Name x a)=((By C m).ev V O (.Name x a)).bind SM:=⋯
theorem Yu:(By C (m+1)).ts V O (.Name x a)=(GF C V O x).bind IU:=⋯
theorem dO (T:PH V a P)(h:O.lookup ("result":Str)=some (.own (.list (out.map .str))))(k:O.lookup ("candidate":Str)=some (.aa (.str x)))(o:out.length<Bi):
 KO (By C 2) V O (.Call (.Attribute (.Name "result" (P 43)) "append" (P 44)) [.Name "candidate" (P 45)] [] (P 46))=some (AM O "result" (.own (.list ((out++[x]).map .str)))):=by
 have s:(([]:List Keyword).isEmpty&&Bk (.Name "candidate" (P 45))&&((P 44).endLine==(P 46).line))=true:=by rw[T.kq];rfl
 show(if(([]:List Keyword).isEmpty&&Bk (.Name "candidate" (P 45))&&((P 44).endLine==(P 46).line))=true then _ else none)=_;rw[Ap s];have w:Gg O ("result":Str)=some (.list (out.map .str)):=by unfold Gg;rw[h]
 have hd:(By C 2).ev V O (.Name "candidate" (P 45))=some (.str x):=by rw[Fo,CK k]
 show(Gg O ("result":Str)).bind _=_;rw[w];simp only[AX,hd];rw[Ap {_},Ap (by rw[Ao];exact o),BV];rfl
theorem ZF {a:Addr}{b:List Addr}{j:Nat}{m:List Env}{D:Scope}{P:Nat->Pos}{K:Nat->Nat}(Gk:Dh W C k mg mb)(hA:Cg k A)(B:XB W V z N)(T:PH V D P)(i6:a∉Z)(i7:b.Nodup)(d2:∀r∈b,W.h0.get? r=none/\N.get? r=none/\r∉a::Z)(k3:b.length<=Bi)
 (k4:V5 W A z N m) (i8:mg "RuntimeError"=none/\mb "RuntimeError"=some (.type "RuntimeError")) (i9:swapsWithSole [.Name "sequences" (P 23)] (.ListComp (.Name "s" (P 24)) [⟨.Name "s" (P 25),.Name "sequences" (P 26),[.Name "s" (P 27)],0⟩] D (P 28)) (P 29).line z=pure true)
 {c:Addr->List Str} {g:List Str} {i:List Addr} {p:Option (List Str)} {f:List (List Str)} (S:XS W V z N Z (a::Z) s (RF g i)) (g0:∀r∈b,BO W s.heap r (c r)) (g1:∀r∈i,r∈b) (g2:i.filter (H6 c)=b.filter (H6 c)) (j0:g.length+j<=Bi)
 (e:Mx j (b.map c) g=some (p,f)) {u:Flow->Shared->Prop}
 (hQ:∀g3,p=some g3->∀h' tk,A8 W N h'->s.toks<=tk->BO W h' a g3->ED W h' b f->u (.ret (.ref a)) #[s,h',tk])
 (hE:p=none->∀a2 h' tk e t,s.toks<=tk->A8 W N a2->ED W a2 b f->Su W a2 h' e (.type "RuntimeError") (.str KV t) z.locals->AQ W h' (z::m)->E (.ref e) #[s,h',tk]):
 wpAny W.M A (exec (X8 D P K) z) u E s:=by
 have H:=A2 Gk hA;refine wpAny_While (codeAny_whileLoop (λ n s'=>∃h' tk O w L,s'=#[s,h',tk]/\XS W V z N Z (a::Z) s' (RF w L)/\s.toks<=tk/\(∀r∈b,BO W h' r (O r))/\(∀r∈L,r∈b)/\L.filter (H6 O)=b.filter (H6 O)/\w.length+n<=Bi/\Mx n (b.map O) w=some (p,f)) (λ n s' hI=>?_) j
  ⟨s.heap,s.toks,c,g,i,rfl,S,Am _,g0,g1,g2,j0,e⟩)
 obtain⟨g4,f3,O,w,L,rfl,b2,g5,b3,b4,a3,i5,Q⟩:=hI;cases n with
 |zero=>cases Q
 |succ n=>
  refine wpAny_isTrue_value ((H 1 V z).ev _ (.Constant (.bool true) (K 7) (P 61)) (.bool true) rfl Z (a::Z) #[s,g4,f3] b2.F (b2.gd B) _ _ λ v a2 j1 d8 d9 rv=>?_);cases rv;refine CV ?_;simp only[A0];have g6:=b2.ac d8 d9;have a4:∀r∈b,BO W a2 r (O r):=λ r G=>(b3 r G).bb d8;have b5:∀r∈b,r∉a::Z:=λ r G=>(d2 r G).2.2;have j2:(Dp (L.filter (H6 O))).length<=Bi:=by
   rw[a3];have:=DM (H6 O) b;unfold Dp;rw[Ao];omega
  refine Al (eO (Q:=_) Gk hA B g6 (rows:=λ r=>if r∈b then some ((O r).map PV.str) else none) (λ r xs hx=>?_) (x:="sequences") (y:="s") (xs:=Dp L) (out:=Dp (L.filter (H6 O))) ⋯ T.S.seq T.jy i9 (WF T b4 _) j2 (by rw[EX T.S.seq]) λ e0 b6 a0 f4 g7=>?_)
  ·split at hx
   ·rename_i G;cases hx;obtain⟨vs,n',e1,e5,l⟩:=a4 r G;exact⟨b5 r G,vs,n',e1,e5,l.length⟩
   ·cases hx
  rw[a3] at a0;have e2:AM (RF w L) "sequences" (.aa (.list (Dp (b.filter (H6 O)))))=RF w (b.filter (H6 O)):=⋯
  rw[e2] at a0;have b7:∀r∈b,BO W e0 r (O r):=λ r G=>(a4 r G).af f4 (b5 r G);have f5:s.toks<=b6:=Ab g5 (Ab d9 g7);generalize a7:b.filter (H6 O)=o at a0 e2;have R:∀r∈o,r∈b:=λ r G=>by rw[<-a7] at G;exact(AU.mp G).1
  have e6:∀r∈o,O r≠[]:=λ r G q=>by
   rw[<-a7] at G;have:=(AU.mp G).2;unfold H6 at this;rw[q] at this;cases this
  have g8:o.Nodup:=by rw[<-a7];exact i7.filter _
  have g9:IA (b.map O)=o.map O:=by rw[RD,a7]
  have t2:(By C 2).ts V (RF w o) (.UnaryOp .Not (.Name "sequences" (P 30)) (P 31))=some o.isEmpty:=by
   rw[aY,Yu,CK (d:=.list (Dp o)) ⋯];show some (!(!(Dp o).isEmpty))=_;unfold Dp;cases o<;>rfl
  refine Al (Jz ((H 2 V z).tst _ _ _ t2 Z (a::Z) #[s,e0,b6] a0.F (a0.gd B) _ _ λ b' a1 U e9 f0 f6=>?_));subst f6;have I:=a0.ac e9 f0;have J:∀r∈b,BO W a1 r (O r):=λ r G=>(b7 r G).bb e9;have b8:s.toks<=U:=Ab f5 f0;obtain⟨va,h0,ra⟩:=I.F.at (x:="result") (sl:=.own (.list (w.map .str))) ⋯;obtain⟨a',rfl,j3,h3,j4⟩:=ra;have j5:a'=a:=(Ag.mp j3).resolve_right h3;subst j5;rw[Mx,g9] at Q;cases b9:o with
  |nil=>
   rw[b9] at Q I;simp only[GY,FP,A0,CH,Prod.mk.injEq] at Q;obtain⟨rfl,rfl⟩:=Q;simp only[FP,A0];refine Al (CW (FI.bp (s:=#[s,a1,U]) I.F (x:="result") (sl:=.own (.list (w.map .str))) ⋯ h0 ?_));exact hQ w rfl a1 U I.le b8 (BO.of j4) ⟨O,rfl,J⟩
  |cons r0 rl=>
   rw[b9] at Q;simp only[AL,Kj,Aq,AS] at Q ⊢;rw[<-AL,<-b9] at Q;refine AZ ?_;obtain⟨vq,h4,rq⟩:=I.F.at (x:="sequences") (sl:=.aa (.list (Dp o))) ⋯;obtain⟨Y,j6,nq,rfl,d3,d4,j7⟩:∃Y vs n,vq=.ref Y/\a1.get? Y=some (Fz vs n)/\Y∉a'::Z/\vs.toList=o.map Value.ref:=by
    cases rq with |@list Y vs n _ e1 e2 e3 e4=>exact⟨Y,vs,n,rfl,e1,e2,PW e4⟩
   have h5:j6=(o.map Value.ref).toArray:=by rw[<-j7]
   subst h5;have j8:Y∉b:=λ q=>by
    obtain⟨vs,n',e1,_,l⟩:=J Y q;rw[d3] at e1;cases e1;rw[b9] at l;simp only[AL,List.toList_toArray] at l;cases hc:O Y with
    |nil=>rw[hc] at l;cases l
    |cons y ys=>rw[hc] at l;cases l with |cons e5 _=>cases e5
   have h6:XS W V z N Z (a'::Z) #[s,a1,U] (I7 (.list (w.map .str)) (.ref Y) (.list (BB (o.map O))) none):=by
    refine⟨I.F.re I.F.aw I.F.zx I.F.alive (λ _ _=>rfl) (λ y s' hy=>?_) (λ y e5 d d' h1 h2=>?_),I.le,I.tk,I.fr,I.fc⟩
    ·unfold I7 at hy;by_cases z1:y="result"
     ·subst z1;rw[An] at hy;cases hy;exact⟨_,⋯,λ v hv r=>r⟩
     ·rw[Aj z1] at hy;by_cases z2:y="sequences"
      ·subst z2;rw[An] at hy;cases hy;refine⟨.aa (.list (Dp o)),⋯,λ v hv r=>?_⟩;have j9:=hv.bk h4;subst j9;refine⟨rfl,.list d3 d4 ?_ ?_⟩
       ·cases r with |list e1 _ e5 _=>rw[d3] at e1;cases e1;exact e5
       ·exact PU O o λ r G=>⟨b5 r (R r G),J r (R r G)⟩
      ·rw[Aj z2] at hy;cases hy
    ·have h7:∀y d,(I7 (.list (w.map .str)) (.ref Y) (.list (BB (o.map O))) none).lookup y=some (.own d)->y="result":=λ y d hy=>by
      unfold I7 at hy;by_cases z1:y="result"
      ·exact z1
      ·rw[Aj z1] at hy;by_cases z2:y="sequences"
       ·subst z2;rw[An] at hy;cases hy
       ·rw[Aj z2] at hy;cases hy
     rw[h7 y _ h1,h7 e5 _ h2]
   have k0:∀t∈o.map O,t.length<=Bi:=λ t ht=>by
    obtain⟨r,G,rfl⟩:=At.mp ht;obtain⟨vs,n',_,e5,l⟩:=J r (R r G);have:=l.length;rw[Ao] at this;have k5:vs.toList.length=vs.size:=(_)
    omega
   have h8:∀t∈o.map O,t≠[]:=λ t ht=>by
    obtain⟨r,G,rfl⟩:=At.mp ht;exact e6 r G
   have k1:=Z8 (P:=P) (K:=K) (C:=C) (m:=0) (fuel:=0) (n:=0) (R:=.list (w.map .str)) (q:=.ref Y) T.S k0 none (o.map O) h8 (λ q=>by rw[b9] at q;cases q);have k2:(By C 5).it V (I7 (.list (w.map .str)) (.ref Y) (.list (BB (o.map O))) none) (.Name "sequences" (P 1))=some (BB (o.map O)):=by
    rw[Zg,Fo,Nn (v:=.ref Y) (d:=.list (BB (o.map O))) ⋯];rfl
   refine Al (Pt B hA.handled (H 5) (λ ρ fl h=>Qi (t:=execs [Sj P K,VT P K] z) (ks:=Xl) (λ ρ fl h=>Jc (λ st ρ fl h=>G8 Gk hA (H 4) B 0 5 st ρ fl h) _ ρ fl h) h) (λ ρ fl h=>by cases h;exact λ Z X s u E S hQ=>AZ (hQ s.heap s.toks S .refl (Am _))) k2 k1 Z (a'::Z) #[s,a1,U] _ _ h6 λ c0 c1 c2 c3 h9=>?_);have c4:∀r∈b,BO W c0 r (O r):=λ r G=>(J r G).af c3 (b5 r G);have d5:c0.get? Y=some (Fz (o.map Value.ref).toArray nq):=c3 Y _ (.inl ⟨d4,.inl rfl⟩) d3;have f7:s.toks<=c1:=Ab b8 h9;have t5:∀oc:Option Str,(By C 2).ts V (I7 (.list (w.map .str)) (.ref Y) (.list (BB (o.map O))) (some (PA oc))) (.Compare (.Name "candidate" (P 35)) [.Is] [.Constant .none (K 3) (P 36)] (P 37))=some oc.isNone:=λ oc=>by
    rw[K7];unfold GQ;simp only[CQ,A0,Fo,CK (show(I7 (.list (w.map .str)) (.ref Y) (.list (BB (o.map O))) (some (PA oc))).lookup ("candidate":Str)=some (.aa (PA oc)) from by kernel_rfl),AX,SZ,Aq,AS];cases oc<;>rfl
   refine Al (Jz ((H 2 V z).tst _ _ _ (t5 _) Z (a'::Z) #[s,c0,c1] c2.F (c2.gd B) _ _ λ b' c5 c6 c7 f1 f6=>?_));subst f6;have M:=c2.ac c7 f1;have a5:∀r∈b,BO W c5 r (O r):=λ r G=>(c4 r G).bb c7;have c8:s.toks<=c6:=Ab f7 f1;cases i0:DW (o.map O) (o.map O) with
   |none=>
    rw[i0] at Q;simp only[CH,Prod.mk.injEq] at Q;obtain⟨rfl,rfl⟩:=Q;simp only[Option.isNone_none,A0];have d6:(backTo (P 40) (starEach [.Constant (.str "Inconsistent hierarchy") (K 4) (P 39)] z)).any (·.1)=false:=by rw[AN (P 40) z _ rfl];rfl
    refine Al (wpAny_Raise_call F.excCall_RuntimeError F.excRaise_RuntimeError hA.handled d6 (BM Gk M.F (M.gd B) T.ke (.inr i8) ⟨rfl,?_⟩));rw[AN (P 40) z _ rfl];refine A1 (Av ((H 1 V z).ev _ (.Constant (.str "Inconsistent hierarchy") (K 4) (P 39)) (.str KV) ⋯ Z (a'::Z) #[s,c5,c6] M.F (M.gd B) _ _ λ v a6 a8 a9 b0 rv=>AV ⟨rfl,by simp[sizeLine],λ b1 e8 m8=>?_⟩));cases rv with |str _ t o1 z1=>
    have kk:A8 W c5 b1:=a9.trans (.ad m8.keeps);refine W3 (W:=W) (s:=#[s,b1,a8]) (hs:=a6) (C:=.type "RuntimeError") (v:=.str KV t) (_) k4.fr ((k4.stack (M.ac a9 b0)).bb (.ad m8.keeps)) (It.gc m8.of) λ i1 i2 f8=>?_;exact hE rfl a6 i1 a8 e8 t (Ab c8 b0) (M.le.trans a9) ⟨O,rfl,λ r G=>(a5 r G).bb a9⟩ i2 f8
   |some x=>
    rw[i0] at Q M;simp only[Option.isNone_some,Aq,AS];refine AZ ?_;refine Al (Ia hA (H 2) B M (dO (out:=w) (x:=x) T ⋯ ⋯ ∅) λ a6 a8 f2 c9 b0=>?_);have e7:AM (I7 (.list (w.map .str)) (.ref Y) (.list (BB (o.map O))) (some (PA (some x)))) "result" (.own (.list ((w++[x]).map .str)))=I7 (.list ((w++[x]).map .str)) (.ref Y) (.list (BB (o.map O))) (some (.str x)):=⋯
    rw[e7] at f2;have d0:∀r∈b,BO W a6 r (O r):=λ r G=>(a5 r G).af c9 (b5 r G);have d7:a6.get? Y=some (Fz (o.map Value.ref).toArray nq):=c9 Y _ (.inl ⟨d4,.inl rfl⟩) (c7.keep d5 (_) (_));refine Al (XZ (x:=x) (out:=w++[x]) (d:=.list (BB (o.map O))) Gk hA B f2 i6 ⋯ ⋯ ⋯ d7 (by
     have:=DM (H6 O) b;rw[a7] at this;omega) (λ r G=>⟨(d2 r G).1,(d2 r G).2.1,(d2 r G).2.2,d0 r G⟩) R g8 j8 d4 e6 T.seq λ b1 f9 i3 d1 i4=>AZ ?_)
    refine⟨n,Eu _,b1,f9,PB O x o,w++[x],o,rfl,i3,Ab c8 (Ab b0 i4),d1,R,?_,by rw[BZ,List.length_singleton];omega,?_⟩
    ·rw[<-a7];exact Vg
    ·rw[<-a7,Uq b λ r G=>G];exact Q
end
section
theorem Nr (k:h.get? b=none)(Y:List Addr):(Da h Y).get? b=none:=by
 by_cases q:b∈Y
 ·exact Hy q
 ·rw[B8 q];exact k
theorem Pd (e:(Da h Y).get? b=some o):h.get? b=some o:=by
 by_cases q:b∈Y
 ·rw[Hy q] at e;cases e
 ·rw[B8 q] at e;exact e
theorem Rx:∀Y:List Addr,A8 W (Da h Y) h
 |[]=>.refl _
  |b::r=>A8.trans (Qb (h:=Da h r)) (Rx r)
theorem Nq (R:A8 W W.h0 h):∀Y:List Addr,(∀b∈Y,W.h0.get? b=none/\∀o k,h.get? b=some o->o.data≠.fields k)->A8 W W.h0 (Da h Y)
 |[],_=>R
  |b::r,H=>Pc (Nq R r λ x s=>H x (Ad _ s)) (H b Ac).1 λ o k e=>(H b Ac).2 o k (Pd e)
theorem Lp (T:W.dc h):∀Y:List Addr,(∀b∈Y,∀o k,h.get? b=some o->o.data≠.fields k)->W.dc (Da h Y)
 |[],_=>T
  |b::r,H=>KC (Lp T r λ x s=>H x (Ad _ s)) λ o k e=>H b Ac o k (Pd e)
theorem ZG {f:List Addr}{m:Nat}{l:List Env}{u:Scope}{P:Nat->Pos}{K:Nat->Nat}(Gk:Dh W C k mg mb){p:Addr}(fo:EF W p fd ["sequences"] (Od u P K))(T:PH fd.scope u P)(c6:∀n,swapsWithSole [.Name "sequences" (P 23)] (.ListComp (.Name "s" (P 24)) [⟨.Name "s" (P 25),.Name "sequences" (P 26),[.Name "s" (P 27)],0⟩] u (P 28)) (P 29).line (callEnvC fd n p)=pure true)
 (c7:mg "RuntimeError"=none/\mb "RuntimeError"=some (.type "RuntimeError")) (hA:Cg (k+1) A) (c8:A.frames=some l) (St:AQ W s.heap l) (G:Gd W s) {c:Addr->List Str} {j x:Nat} (hL:s.heap.get? j=some (Fz (f.map Value.ref).toArray x)) (d9:j∉f)
 (c9:f.Nodup) (U:f.length<=Bi) (V:∀r∈f,W.h0.get? r=none/\BO W s.heap r (c r)) (hf:m<=Bi) {i:Option (List Str)} {g:List (List Str)} (e:Mx m (f.map c) []=some (i,g))
 (hQ:∀S,i=some S->∀a Y tk,s.heap.get? a=none->A8 W (Da s.heap f) Y->s.toks<=tk->BO W Y a S->ED W Y f g->Q (.ref a) #[s,Y,tk])
 (hE:i=none->∀w Y tk e t,s.toks<=tk->A8 W (Da s.heap f) w->ED W w f g->It W w Y e (.type "RuntimeError") (.str KV t)->AQ W Y l->E (.ref e) #[s,Y,tk]):
 wpAny W.M A (call (.ref p) [.ref j]) Q E s:=by
 refine Eg fo hA G (X:=[]) (λ b hb=>nomatch hb) (args:=[.al (.ref j)]) (.al .nil) rfl λ o w d0 he B d6 a1 N=>?_;have a5:=hA.down o;have H:=A2 Gk a5;rw[Cj] at N;have b3:∀b∈f,∀i vs,s.heap.get? b=some i->i.data≠.fields vs:=λ b hb i vs e=>by
  obtain⟨us,n,e1,_⟩:=(V b hb).2;rw[e1] at e;cases e;simp
 have a2:∀a∈Ay o,s.heap.get? a=none:=λ a ha=>by rw[he] at ha;exact Mj a ha
 have Bm:XB W fd.scope o (Da s.heap f):=⟨Nq G.am f λ b hb=>⟨(V b hb).1,b3 b hb⟩,Lp G.ea f b3,λ a ha=>Nr (B.wr a ha) f⟩;have d1:∀r∈f,r∉Ay o:=λ r I q=>by
  obtain⟨i,Z,_⟩:=(V r I).2.some;rw[a2 r q] at Z;cases Z
 have b4:∀r∈f,BO W w r (c r):=λ r I=>(V r I).2.bb N.le;unfold Od;refine Al (Bf (t:=.Name "result" (P 63)) rfl rfl rfl (Go (p:=By C 1) Gk (H 1) N.F (N.gd B) (e:=.List [] (P 64)) (d:=.list []) ⋯ λ a d7 d2 ha b5 b6 ro=>?_));refine Pb B N T.kg (λ y d hy=>?_) ha b5 b6 ro λ J a6 h a3=>?_
 ·have hy:List.lookup y [(("sequences":Str),BL.al (.ref j))]=some (.own d):=hy;by_cases z:y="sequences"
  ·subst z;rw[An] at hy;cases hy
  ·rw[Aj z] at hy;cases hy
 have d3:a∉Ay o:=λ q=>by obtain⟨i,Z⟩:=N.F.ah a q;have z:w.get? a=none:=ha;rw[z] at Z;cases Z
 have a7:s.heap.get? a=none:=by
  cases q:s.heap.get? a with
  |none=>rfl
  |some i=>obtain⟨o',b7⟩:=AP N.le ⟨i,q⟩;have z:w.get? a=none:=ha;rw[z] at b7;cases b7
 have d4:a∉f:=λ q=>by obtain⟨i,Z,_⟩:=(V a q).2.some;rw[a7] at Z;cases Z
 have L:∀r∈f,BO W J r (c r):=λ r I=>(V r I).2.bb h.le;have a8:J.get? j=some (Fz (f.map Value.ref).toArray x):=h.le.keep hL (_) (_);have d5:j∉a::Ay o:=λ q=>by
  rcases Ag.mp q with q |q
  ·rw[q,a7] at hL;cases hL
  ·rw[a2 _ q] at hL;cases hL
 have e3:AM ((["sequences"]:List Str).zip [BL.al (.ref j)]) "result" (.own (.list []))=([("sequences",.al (.ref j)),("result",.own (.list []))]:AC):=⋯
 rw[e3] at h;have a4:XS W fd.scope o (Da s.heap f) (Ay o) (a::Ay o) #[s,J,a6] (RF [] f):=by
  refine⟨h.F.re h.F.aw h.F.zx h.F.alive (λ _ _=>rfl) (λ y s' hy=>?_) (λ y z d d' h1 h2=>?_),(Rx f).trans h.le,h.tk,λ b hb hz=>Nr (h.fr b hb hz) f,h.fc⟩
  ·rcases Lr hy with⟨rfl,rfl⟩ |⟨rfl,rfl⟩
   ·exact⟨.own (.list []),⋯,λ v hv r=>r⟩
   ·refine⟨.al (.ref j),⋯,λ v hv r=>?_⟩;have:v=.ref j:=r;subst this;exact .list a8 d5 (by simpa using U) (Lh f)
  ·rcases Lr h1 with⟨rfl,q1⟩ |⟨rfl,q1⟩
   ·rcases Lr h2 with⟨rfl,q2⟩ |⟨rfl,q2⟩
    ·rfl
    ·cases q2
   ·cases q1
 have b8:AQ W (Da s.heap f) l:=St.imp λ d8 fc=>by
  obtain⟨i,es,ep,Z,hc,hd⟩:=fc;refine⟨i,es,ep,?_,hc,hd⟩;rw[B8];· exact Z
  intro q;obtain⟨vs,n,e1,_⟩:=(V _ q).2;rw[Z] at e1;injection e1 with e1;rw[e1] at hc;simp at hc
 have O:V5 W (A.deeper o) o (Da s.heap f) l:=⟨by show A.frames.map (o::·)=_;rw[c8];rfl,by rw[a4.F.kind];simp,by rw[he];rfl,b8,a5.handled⟩
 refine Al (ZF Gk a5 Bm T d3 c9 (λ r I=>⟨(V r I).1,Hy I,λ q=>?_⟩) U O c7 (by rw[he];exact c6 _) a4 L (λ r I=>I) rfl (by rw[List.length_nil];omega) e (λ S Z M a9 b0 b9 c0 D=>?_) λ Z M c1 R e6 t c2 b0 D c3 b1=>?_)
 ·rcases Ag.mp q with q |q
  ·exact d4 (q▸I)
  ·exact d1 r I q
 ·exact hQ S Z a M a9 a7 b0 (Ab a1 (Ab a3 b9)) c0 D
 ·refine Su.be (s:=#[s,c1,R]) (_) b1 c3 λ c4 c5 b2=>?_;exact hE Z M c4 R e6 t (Ab a1 (Ab a3 c2)) b0 D c5 b2.2.2.2.2
end
def Ew (h:BH)(A:Around)(C:Scope)(k:Env)(H:AC)(o:Expr)(c:List Str):Prop:=
 ∀(Z X:List Addr)(s:Shared)(Q:JD)(E:JD),FI h C k Z X s.heap H->Gd h s->
  (∀a w z,s.heap.get? a=none->A8 h s.heap w->s.toks<=z->BO h w a c->Q (.ref a) #[s,w,z])->wpAny h.M A (eval o k) Q E s
variable {a:List Value}{r:List Stmt}{c:Nat}{l:List Env} in
def CE (h:BH)(X:List Addr)(k:Heap):List Addr->List (List Str)->Prop
 |[],[]=>True
 |r::a,c::l=>(h.h0.get? r=none/\r∉X/\BO h k r c)/\CE h X k a l
 |_,_=>False
def fY (o:BH)(D:Addr)(X:List Addr)(k:Heap)(l:List (List Str)):Prop:=∃h n,k.get? D=some (Fz (h.map Value.ref).toArray n)/\h.Nodup/\CE o X k h l
theorem CE.bc (k:∀b o,h.get? b=some o->b∉X->Db o->H.get? b=some o/\b∉Y):∀{s:List Addr}{l:List (List Str)},CE W X h s l->CE W Y H s l
 |[],[],_=>trivial
  |r::s,c::l,⟨⟨a,b,x⟩,t⟩=>⟨⟨a,by obtain⟨o,w,hd,_⟩:=x.some;exact(k r o w b hd).2,x.keep λ o e d=>(k r o e b d).1⟩,CE.bc k t⟩
theorem CE.len:∀{k:List Addr}{l:List (List Str)},CE W X h k l->k.length=l.length
 |[],[],_=>rfl
  |_::_,_::_,⟨_,t⟩=>by simp[CE.len t]
theorem CE.append:∀{k o:List Addr}{l m:List (List Str)},CE W X h k l->CE W X h o m->CE W X h (k++o) (l++m)
 |[],_,[],_,_,t=>t
  |_::_,_,_::_,_,⟨a,b⟩,t=>⟨a,CE.append b t⟩
theorem CE.mem:∀{k:List Addr}{l:List (List Str)},CE W X h k l->∀r∈k,W.h0.get? r=none/\r∉X/\∃c,BO W h r c
 |_::_,_::_,⟨⟨a,b,x⟩,t⟩,r,o=>by
  rcases Ag.mp o with q |q
  ·subst q;exact⟨a,b,_,x⟩
  ·exact CE.mem t r q
theorem CE.an:∀{k:List Addr}{l:List (List Str)},CE (W.an c Y) X h k l->∀r∈k,(Da c Y).get? r=none/\r∉X
 |_::_,_::_,⟨⟨a,b,x⟩,t⟩,r,c=>by
  rcases Ag.mp c with q |q
  ·subst q;exact⟨a,b⟩
  ·exact CE.an t r q
theorem CE.fn:∀{k:List Addr}{l:List (List Str)},k.Nodup->CE d X h k l->∃c:Addr->List Str,k.map c=l/\∀r∈k,BO d h r (c r)
 |[],[],_,_=>⟨λ _=>[],rfl,λ _ h=>nomatch h⟩
  |r::k,x::l,s,⟨⟨a,b,t⟩,o⟩=>by
   rw[CN] at s;obtain⟨c,z,A⟩:=CE.fn s.2 o;refine⟨λ y=>if y=r then x else c y,?_,λ y w=>?_⟩
   ·rw[AL,Ap rfl,<-z];congr 1;exact A7 λ y w=>Ak λ q:y=r=>s.1 (q▸w)
   ·rcases Ag.mp w with q |q
    ·subst q;show BO d h y (if y=y then x else c y);rw[Ap rfl];exact t
    ·show BO d h y (if y=r then x else c y);rw[Ak λ C:y=r=>s.1 (C▸q)];exact A y q
theorem hV (D:Addr):V2 D (fY W D) where
 bc:=λ⟨h,n,e,k,r⟩ o hd=>⟨h,n,hd _ e,k,r.bc o⟩
 obj:=λ⟨h,n,e,_⟩=>⟨_,e,.inl rfl⟩
theorem VD (h:Dh W C k mg mb)(o:Cg k A)(w:Ll (By C m) V O b=some (.list (c.map .str))):Ew W A V z O b c:=λ Z X s Q E F G H=>
 Go h (A2 h o m) F G w λ a N d e k l r=>H a N d e k l (BO.of r)
theorem JN (b5:∀k,Yo W A d k L f i)(hh:A.handled=none)(a8:∀k a2 c,t a2=some c->Ew W A d k a2 j c)
 (a9:Cd V d=true) (b0:Cc d f i t (g::I) (A3 d O) M=some u) (a3:u.length<=Bi)
 (F:FI W V z Z X s.heap O) (G:Gd W s) (Y:∀v,foldedSetIterable g.iter z v=pure v) (b1:BR W A (eval g.iter z) s λ v T=>V4 W X T v M)
 (hQ:∀(D C:Addr)(T:Heap)(tk:Nat)(m:Str->Option Value) U n,s.heap.get? D=none->s.heap.get? C=none->D≠C->D∉X->A8 W s.heap T->s.toks<=tk->T.Ns C m->T.get? D=some (Fz (U.map Value.ref).toArray n)->U.Nodup->CE W (C::X) T U u->
  compPost W.M A E p Q (.ref D) C (.ok .next) #[s,T,tk]):
 wpAny W.M A (comprehension (.ListComp j (g::I) d B) d z J (newList []) false (eval g.iter z) p) Q E s:=by
 refine Ka b5 hh (N2 j (g::I) d B) (Acc:=fY W) hV t (newAcc:=newList []) (oN:=Fz #[] 0) rfl (λ s Q E hq=>Bj hq) (λ D X h e=>⟨[],0,e,.nil,trivial⟩) ?_ a9 b0 a3 F G Y b1 ?_
 ·intro D k O b hb Z X s ds Q E F G a0 a4 a3 hk;obtain⟨U,n,hD,nd,hr⟩:=a4;unfold NP;refine Aa (a8 k O b hb Z X s _ _ F G λ a w a1 ha H a5 ra=>?_);have N:w.get? D=some (Fz (U.map Value.ref).toArray n):=H.keep hD (_) (_);have b6:=hr.len;refine Aa (Io N (by simp;omega) λ a6 a7 R S=>Af ?_);have b2:a∉X:=λ q=>by obtain⟨o,ho⟩:=F.ah a q;rw[ha] at ho;cases ho
  refine hk w a6 a1 H S ⟨_,N,.inl rfl⟩ ⟨_,R⟩ a5 ⟨U++[a],a7,by rw[R];simp,?_,?_⟩
  ·rw[List.nodup_append];refine⟨nd,(_),λ x hx y hy q=>?_⟩;rw[Cz.mp hy] at q;obtain⟨_,_,c,rc⟩:=hr.mem x hx;obtain⟨o,ho,_⟩:=rc.some;rw[q,ha] at ho;cases ho
  ·have step:CE W X w (U++[a]) (ds++[b]):=(hr.bc λ b o e n hd=>⟨Ce H e hd,n⟩).append ⟨⟨Dx G.am ha,b2,ra⟩,trivial⟩;exact step.bc λ b o e n hd=>⟨(S.2 b λ q=>n (q▸a0)).trans e,n⟩
 ·intro D C T tk m hD hC b3 a0 b4 l hn ⟨U,n,e,nd,r⟩;exact hQ D C T tk m U n hD hC b3 a0 b4 l hn e nd r
theorem GK (Gk:Dh W C k mg mb)(U:Cg k A)(Y:∀w J c,p J=some c->Ew (W.an s.heap X) A d w J g c)
 (a0:Cd V d=true) (a1:Cc d ((By Cn m).ts d) ((By Cn m).it d) p [⟨t,f,j,0⟩] (A3 d O) u=some i) (a2:i.length<=Bi)
 (F:FI W V z Z X s.heap O) (G:Gd W s) (L:CQ f=true) (hx:(By Cn m).it V O f=some u)
 (hQ:∀D B T h n,s.heap.get? D=none->A8 W s.heap B->s.toks<=T->B.get? D=some (Fz (h.map Value.ref).toArray n)->h.Nodup->(∀r∈h,s.heap.get? r=none)->CE W X B h i->Q (.ref D) #[s,B,T]):
 wpAny W.M A (eval (.ListComp g [⟨t,f,j,0⟩] d v) z) Q E s:=by
 have hX:∀b∈X,W.h0.get? b=none:=λ b hb=>(F.alive b hb).1;have Gr:=Gk.an G.am hX;rw[arm_eval_ListComp];refine JN (W:=W.an s.heap X) (λ w=>A2 Gr U m d w) U.handled Y a0 a1 a2 (F.an λ a ha=>.inl ha) G.an (EP L z) (((A2 Gr U m V z).itr O f u hx).2 Z X s (F.an λ a ha=>.inl ha) G.an) λ D C' B T mm h n hD hC a3 a6 a4 l hn e nd r=>?_;have M:=A8.bg G.am hX a4;refine⟨mm,hn,λ H hs=>?_⟩;have I:∀x∈h,s.heap.get? x=none:=λ x hx=>by
  obtain⟨r1,r2⟩:=r.an x hx;rw[B8 λ q=>r2 (Ad _ q)] at r1;exact r1
 refine hQ D H T h n hD (M.az hC (λ o h ho hd=>?_) hs) l ((hs.2 D a3).trans e) nd I ?_
 ·obtain⟨o',es,ep,R,S,_⟩:=hn;rw[ho] at R;cases R;rw[hd] at S;cases S
 ·have un:∀{h:List Addr}{l:List (List Str)},(∀x∈h,s.heap.get? x=none)->CE (W.an s.heap X) (C'::X) B h l->CE W X H h l:=by
   intro h;induction h with
   |nil=>intro l _ r;cases l with |nil=>trivial |cons _ _=>exact r.elim
   |cons y h ih=>
    intro l hy r;cases l with
    |nil=>exact r.elim
    |cons c l=>
     obtain⟨⟨a,b,x⟩,t⟩:=r;refine⟨⟨?_,λ q=>b (Ad _ q),?_⟩,ih (λ a5 hz=>hy a5 (Ad _ hz)) t⟩
     ·exact Dx G.am (hy y Ac)
     ·obtain⟨us,n',e',a5,l'⟩:=x;exact⟨us,n',(hs.2 y λ q=>b (q▸Ac)).trans e',a5,GD (W:=W) (X:=[]) (h:=H) (Y:=[]) (N l')⟩
  exact un I r
where
 N {W:BH} {s:Shared} {X:List Addr} {B H:Heap}:∀{h:List Value}{c:List Str},RpL (W.an s.heap X) [] B h (c.map .str)->RpL W [] H h (c.map .str)
 |_,[],.nil=>.nil
 |_,_::_,.cons a b=>.cons (by cases a with |str _ _ x y=>exact .str _ _ x y) (N b)
theorem FI.dz (F:FI W V z Z X h O)(R:A8 W W.h0 h)(k:A8 W h H)(w:∀a∈Y,h.get? a=none/\∃o,H.get? a=some o):FI W V z (Y++Z) (Y++X) H O:=
 {F with
  aw:=λ b s=>Ax _ (F.aw b s)
  zx:=λ b s=>by
   rcases Au.mp s with q |q
   ·exact AT _ q
   ·exact Ax _ (F.zx b q)
  ns:=by
   obtain⟨m,N,A⟩:=F.ns;exact⟨m,B2 k N,λ x C a b=>let⟨v,e,r⟩:=A x C a b;⟨v,e,(r.aq λ a E=>(w a E).1).ac k⟩⟩
  cell:=λ x Q=>let⟨c,d,e,i,A⟩:=F.cell x Q;⟨c,d,e,E6 k i,λ C q=>let⟨v,e,r⟩:=A C q;⟨v,e,(r.aq λ a E=>(w a E).1).ac k⟩⟩
  alive:=λ b s=>by
   rcases Au.mp s with q |q
   ·exact⟨Dx R (w b q).1,(w b q).2⟩
   ·exact⟨(F.alive b q).1,AP k (F.alive b q).2⟩}
theorem E5 (s:A8 W h H)(w:H.get? a=none):h.get? a=none:=by
 cases q:h.get? a with
 |none=>rfl
 |some o=>obtain⟨z,k⟩:=AP s ⟨o,q⟩;rw[w] at k;cases k
theorem BO.gy (x:Rp W X h (.ref a) (.list (c.map .str))):BO W h a c:=by
 cases x with |list e n z l=>exact⟨_,_,e,z,GD l⟩
theorem RW {g:Pos}{b:List PV}(Gk:Dh W C k mg mb)(hA:Cg k A){m:Nat}{v:Expr}{lo d st:Option Expr}{f:Pos}{l u t:Option Int}{c:List Str}(hb:EL (By C m) V O v=some (.list b))(hl:Fg (By C m) V O lo=some l)(hu:Fg (By C m) V O d=some u)(ht:Fg (By C m) V O st=some t)
 (e:CA (.list b) l u t=some (.list (c.map .str))):Ew W A V z O (.Subscript v (.Slice lo d st f) g) c:=λ Z X s Q E F G hQ=>by
 have H:=A2 Gk hA m;refine Subscript_ (Im H F G hb _ _ λ ov j D o w rv=>wpAny_Slice ?_);refine FF H (s:=#[s,j,D]) (F.ac o) (G.step o w) hl _ _ λ M T I N p p1=>?_;have q:=(F.ac o).ac N;have r:=(G.step o w).step N p;refine FF H (s:=#[s,T,I]) q r hu _ _ λ R U J i x p2=>?_;have y:=q.ac i;have Y:=r.step i x;refine FF H (s:=#[s,U,J]) y Y ht _ _ λ S h L B a0 p3=>?_;have kk:A8 W j h:=N.trans (i.trans B);have a1:=y.ac B;have k5:A8 W h (h.push {cls:=.type "slice",data:=.fields [M,R,S].toArray}):=.push _ _;have a8:=a1.ac k5;have sub:∃a2,subscripted (.Slice lo d st f) false ov (.ref h.objs.size)=operate a2 (getItem ov (.ref h.objs.size)):=by
  cases st with
  |none=>exact⟨_,rfl⟩
  |some _=>exact⟨_,rfl⟩
 obtain⟨a2,a3⟩:=sub;have a6:=(rv.ac kk).ac k5;obtain⟨a,ws,n,rfl,e1,z1,r1⟩:=a6.list;unfold CA at e;simp only at e;split at e
 ·rename_i hz;simp only[CH,PV.list.injEq] at e;have a9:=Ei;refine CX (s:={s with heap:=h.push {cls:=.type "slice",data:=.fields [M,R,S].toArray},toks:=L}) (T:="list") ⟨_,e1,rfl⟩ slot_list_getitem.lookup ?_ a3;have a7:(h.push {cls:=.type "slice",data:=.fields [M,R,S].toArray}).IsSliceOf h.objs.size M R S:=⟨_,Ar _ rfl,rfl,rfl⟩;have fr:=Bl (h.push {cls:=.type "slice",data:=.fields [M,R,S].toArray});refine wpAny_getItem_list_slice ⟨_,e1,rfl,_,rfl⟩ a7 p1 p2 p3 hz.1 (hQ _ _ _ (E5 (o.trans (kk.trans k5)) fr) (o.trans (kk.trans (k5.trans (.push _ _)))) (Ab w (Ab p (Ab x a0))) ?_) ∅;have a4:=r1.length;simp at a4;have r2:RpL W X (h.push {cls:=.type "slice",data:=.fields [M,R,S].toArray}) (slicePick ws l u t).toList (Iw b l u t):=by
   unfold slicePick Iw;rw[a4];have:=r1.eg (sliceRange (sliceBounds l u t b.length).1 (sliceBounds l u t b.length).2.1 (sliceBounds l u t b.length).2.2);simpa using this
  rw[e] at r2;refine⟨_,_,Ar _ rfl,?_,GD r2⟩;have:=r2.length;simp at this;have a5:=hz.2;rw[e] at a5;simp at a5;omega
 ·cases e
theorem S9 (R:Dh W C k mg mb)(I:Cg k A)(e:EO (By C m) V b O (λ O=>(By C m).ev b O j) d=some (c.map .str)):Ew W A V z O (.ListComp j d b n) c:=λ Z X s Q E F G S=>by
 have H:=A2 R I m;obtain⟨g,J,T,rfl,v,w,U,N,x⟩:=HB e;have h:=GN N;rw[arm_eval_ListComp];have Y:firstAsync (g::J)=false:=by obtain⟨t,i,f,a⟩:=g;simp only at h;subst h;rfl
 have h2:firstIter (g::J) z=eval g.iter z:=by obtain⟨t,i,f,a⟩:=g;rfl
 rw[Y,h2];refine Gu (λ p=>H b p) I.handled v N x F G (EP w z) (((H V z).itr O g.iter T U).2 Z X s F G) λ D C h' tk mm hD hC a0 y l L r=>?_;refine⟨mm,L,λ B M=>S D B tk hD (y.az hC (λ o vs ho hd=>?_) M) l (BO.gy ((r.az M Ac)))⟩;obtain⟨o',es,ep,q,u,_⟩:=L;rw[ho] at q;cases q;rw[hd] at u;cases u
theorem Rn (a b:List Addr):Dp (a++b)=Dp a++Dp b:=BV
theorem UZ (Gk:Dh W C k mg mb)(hA:Cg k A)(B:XB W V z N)(S:XS W V z N Z X s O)
 (b8:∀W':BH,Dh W' Cn k mg mb->∀a4 a5 c,t a5=some c->Ew W' A f a4 a5 y c) (b9:∀W':BH,Dh W' Cn k mg mb->∀a4 a5 c,u a5=some c->Ew W' A g a4 a5 D c)
 (d0:Cd V f=true) (d1:Cd V g=true) (n1:CQ i=true) (n2:CQ j=true) (h1:(By Cn m).it V O i=some xs1) (h2:(By Cn m).it V O j=some xs2)
 (g1:Cc f ((By Cn m).ts f) ((By Cn m).it f) t [⟨t1,i,l,0⟩] (A3 f O) xs1=some r1) (g2:Cc g ((By Cn m).ts g) ((By Cn m).it g) u [⟨G,j,p,0⟩] (A3 g O) xs2=some r2) (hz:r1.length+r2.length<=Bi) (hx:AR V x=true)
 (hQ:∀h' tk rs L0 n,XS W V z N (rs++Z) (rs++X) #[s,h',tk] (AM O x (.al (.ref L0)))->A8 W N h'->s.toks<=tk->h'.get? L0=some (Fz (rs.map Value.ref).toArray n)->rs.Nodup->(∀r∈rs,s.heap.get? r=none)->L0∉rs++X->CE W X h' rs (r1++r2)->I .next #[s,h',tk]):
 wpAny W.M A (exec (.Assign [.Name x J] (.BinOp (.ListComp y [⟨t1,i,l,0⟩] f M) .Add (.ListComp D [⟨G,j,p,0⟩] g R) T) L) z) I E s:=by
 have hX:∀b∈X,W.h0.get? b=none:=λ b N=>(S.F.alive b N).1;refine Bf (t:=.Name x J) rfl rfl rfl (MH (GK Gk hA (b8 _ (Gk.an (S.gd B).am hX)) d0 g1 ∅ S.F (S.gd B) n1 h1 λ D1 a3 b3 H m1 d3 a6 a7 y d4 d5 R1=>?_));have Y:=S.ac a6 a7;refine GK (s:=#[s,a3,b3]) Gk hA (b9 _ (Gk.an (Y.gd B).am hX)) d1 g2 ∅ Y.F (Y.gd B) n2 h2 λ D2 h a2 w m2 d6 U a8 D d7 c0 R2=>?_;have c1:XS W V z N Z X #[s,h,a2] O:=Y.ac (tk:=a2) U a8;have c2:D1∉X:=λ q=>by obtain⟨o,Q⟩:=S.F.ah D1 q;rw[d3] at Q;cases Q
 have c3:D2∉X:=λ q=>by obtain⟨o,Q⟩:=Y.F.ah D2 q;have c4:a3.get? D2=none:=d6;rw[c4] at Q;cases Q
 have ra:Rp W X h (.ref D1) (.list (Dp H)):=.list (U.keep y (_) (_)) c2 (by have:=R1.len;simp;omega) (by
  show RpL W X _ (H.map Value.ref).toArray.toList _;exact Lh H)
 have rb:Rp W X h (.ref D2) (.list (Dp w)):=.list D c3 (by have:=R2.len;simp;omega) (by
  show RpL W X _ (w.map Value.ref).toArray.toList _;exact Lh w)
 have c5:EY .Add (.list (Dp H)) (.list (Dp w))=some (.list (Dp (H++w))):=by
  show(if(Dp H).length+(Dp w).length<=Bi then some (PV.list (Dp H++Dp w)) else none)=_;have l1:=R1.len;have l2:=R2.len;rw[Ap (by unfold Dp;simp;omega),<-Rn]
 refine Oh (s:=#[s,h,a2]) ⟨_,rfl⟩ ra rb c5 _ _ λ v a0 b4 a1 b0 rv=>?_;obtain⟨rfl,vs,n3,e3,z3,rl⟩:=rv;have d8:vs=((H++w).map Value.ref).toArray:=by rw[<-PW rl]
 subst d8;have d2:∀r∈w,s.heap.get? r=none:=λ r hr=>E5 a6 (c0 r hr);have b5:∀r∈H,∃o,a3.get? r=some o:=λ r hr=>by obtain⟨_,_,c,rc⟩:=R1.mem r hr;obtain⟨o,Q,_⟩:=rc.some;exact⟨o,Q⟩
 have c6:∀r∈w,∃o,h.get? r=some o:=λ r hr=>by obtain⟨_,_,c,rc⟩:=R2.mem r hr;obtain⟨o,Q,_⟩:=rc.some;exact⟨o,Q⟩
 have a9:A8 W s.heap a0:=a6.trans (U.trans a1);have dd:∀r∈H++w,s.heap.get? r=none/\∃o,a0.get? r=some o:=λ r hr=>by
  rcases Au.mp hr with q |q
  ·exact⟨d5 r q,AP (U.trans a1) (b5 r q)⟩
  ·exact⟨d2 r q,AP a1 (c6 r q)⟩
 have nd:(H++w).Nodup:=by
  rw[List.nodup_append];refine⟨d4,d7,λ a ha b N q=>?_⟩;obtain⟨o,Q⟩:=b5 a ha;have c4:a3.get? b=none:=c0 b N;rw[q,c4] at Q;cases Q
 have c7:h.objs.size∉(H++w)++X:=λ q=>by
  have fr:=Bl h;rcases Au.mp q with q |q
  ·rcases Au.mp q with q |q
   ·obtain⟨o,Q⟩:=AP U (b5 _ q);rw[fr] at Q;cases Q
   ·obtain⟨o,Q⟩:=c6 _ q;rw[fr] at Q;cases Q
  ·obtain⟨o,Q⟩:=c1.F.ah _ q;have c4:h.get? h.objs.size=none:=fr;rw[c4] at Q;cases Q
 have c8:XS W V z N ((H++w)++Z) ((H++w)++X) #[s,a0,b4] O:=
  ⟨S.F.dz (S.gd B).am a9 dd,S.le.trans a9,Ab S.tk (Ab a7 (Ab a8 b0)),λ a ha hz=>by
    rcases Au.mp ha with q |q
    ·exact absurd (AT _ q) hz
    ·exact S.fr a q λ q'=>hz (Ax _ q'),S.fc.bb a9⟩
 refine XS.fg B c8 (x:=x) (sl:=.al (.ref h.objs.size)) hx rfl (λ d q=>nomatch q) λ b1 b6 b2 b7 c9=>?_;have nw:∀b,Ck V z b->b∈X:=λ b q=>S.F.bo q;have kp:∀b o,b∉X->a0.get? b=some o->b1.get? b=some o:=λ b o q e=>b7.keep b o (λ q'=>q (nw b q')) e;have RR:CE W X a0 (H++w) (r1++r2):=(R1.bc λ b o e n hd=>⟨Ce (U.trans a1) e hd,n⟩).append (R2.bc λ b o e n hd=>⟨Ce a1 e hd,n⟩);exact hQ b1 b6 (H++w) h.objs.size n3 b2 b2.le (Ab a7 (Ab a8 (Ab b0 c9))) (kp _ _ (λ q=>c7 (Ax _ q)) e3) nd (λ r hr=>(dd r hr).1) c7 (RR.bc λ b o e n hd=>⟨kp b o n e,n⟩)
theorem CE.gq:∀{k:List Addr}{l:List (List Str)},CE f X h k l->(∀r∈k,r∉d)->RpL W d h (k.map Value.ref) (BB l)
 |[],[],_,_=>.nil
  |r::k,c::l,⟨⟨a,b,x⟩,t⟩,o=>.cons (by
    obtain⟨C,n,e,z,w⟩:=x;exact .list e (o r Ac) z (s w)) (CE.gq t λ y A=>o y (Ad _ A))
where
 s {f:BH} {d:List Addr} {h:Heap}:∀{k:List Value}{c:List Str},RpL f [] h k (c.map .str)->RpL W d h k (c.map .str)
 |_,[],.nil=>.nil
 |_,_::_,.cons a b=>.cons (by cases a with |str _ _ x y=>exact .str _ _ x y) (s b)
theorem Vj (Gk:Dh W C k mg mb)(U:Cg k A)(B:XB W V z N)(S:XS W V z N Z X s O)(H:FI W V z j g s.heap e)
 (J:∀W':BH,Dh W' Cn k mg mb->∀Q Y c,p Y=some c->Ew W' A d Q Y t c)
 (a0:Cd V d=true) (n1:CQ f=true) (h1:(By Cn m).it V e f=some xs1)
 (g1:Cc d ((By Cn m).ts d) ((By Cn m).it d) p [⟨t1,f,i,0⟩] (A3 d e) xs1=some r1) (hz:r1.length<=Bi) (hx:AR V x=true) (hQ:D7 W V z N Z X s (.next (AM O x (.aa (.list (BB r1))))) u):
 wpAny W.M A (exec (.Assign [.Name x G] (.ListComp t [⟨t1,f,i,0⟩] d I) v) z) u E s:=by
 have w:∀b∈g,W.h0.get? b=none:=λ b N=>(H.alive b N).1;have a1:DL V (.Name x G) (.list (BB r1)) O=some (AM O x (.aa (.list (BB r1)))):=EX hx;obtain⟨b,a2,b2⟩:=JY (z:=z) (t:=.Name x G) (value:=.ListComp t [⟨t1,f,i,0⟩] d I) rfl rfl v.line;have aX:∀b,s.heap.get? b=none->b∉X:=λ b N q=>by obtain⟨o,ho⟩:=S.F.ah b q;rw[N] at ho;cases ho
 cases b with
 |false=>
  refine Bf rfl a2 (HX rfl (.inl rfl)) (GK Gk U (J _ (Gk.an (S.gd B).am w)) a0 g1 hz H (S.gd B) n1 h1 λ D a3 a9 vs n hD L M eD nd dd R=>?_);have rr:Rp W X a3 (.ref D) (.list (BB r1)):=.list eD (aX D hD) (by have:=R.len;simp;omega) (by
   show RpL W X _ (vs.map Value.ref).toArray.toList _;exact R.gq λ r hr=>aX r (dd r hr))
  exact Eh U.handled B (S.ac L M) a1 rr λ a4 T a5 St a6=>hQ a4 T a5 (L.af.trans (St.af λ a ha=>S.F.bo ha)) (Ab M a6)
 |true=>
  have Gr:=Gk.an (S.gd B).am w;rw[QO];refine Aa (AI (Aa (AA a2 ?_)));simp only[A0];rw[Fp (by rfl),Om];refine Aa (Aa (BP (JN (W:=W.an s.heap g) (Q:=λ _ a7=>u .next a7) (λ Q=>A2 Gr U m d Q) U.handled (J _ Gr) a0 g1 hz (H.an λ a ha=>.inl ha) (S.gd B).an (EP n1 z) (((A2 Gr U m V z).itr e f xs1 h1).2 j g s (H.an λ a ha=>.inl ha) (S.gd B).an) λ D C' h' tk mm vs n hD hC b0 b3 b1 l hn eD nd R=>?_) (λ _ _ h=>Af (Af h)) λ _ _ x=>x));have a8:∀y∈vs,s.heap.get? y=none:=λ y hy=>by
   obtain⟨r1,r2⟩:=R.an y hy;rw[B8 λ q=>r2 (Ad _ q)] at r1;exact r1
  refine Kn B S U.handled a1 hQ hC (A8.bg (S.gd B).am w b1) l hn (.list eD (λ q=>?_) (by have:=R.len;simp;omega) ?_)
  ·rcases Ag.mp q with q |q
   ·exact b0 q
   ·exact aX D hD q
  ·show RpL W (C'::X) _ (vs.map Value.ref).toArray.toList _;exact R.gq λ y hy q=>by
    rcases Ag.mp q with q |q
    ·exact(R.an y hy).2 (q▸Ac)
    ·exact aX y (a8 y hy) q
theorem FI.dq (F:FI W V z Z X h O)(w:∀r∈rs,r∈X/\r∉Ay z)(Q:A8 W (Da h rs) H)(j:∀r∈rs,∃o,H.get? r=some o)(A:∀y d,O.lookup y≠some (.own d)):FI W V z Z X H O:=
 have s:∀{y v k},O.lookup y=some k->Bg W Z X h v k->Bg W Z X H v k:=λ{y v k} C r=>by
  have g:∀{v d},Rp W X h v d->Rp W X H v d:=λ r=>Rp.ac Q (r.bc λ b o e n _=>⟨(B8 λ q=>n (w b q).1).trans e,n⟩);cases k with
  |aa e=>exact g r
  |al u=>exact r
  |bl u d=>exact⟨r.1,g r.2⟩
  |own e=>exact absurd C (A y e)
 {F with
  ns:=by
   obtain⟨m,l,a⟩:=F.ns;refine⟨m,B2 Q ?_,λ y k C E=>let⟨v,e,r⟩:=a y k C E;⟨v,e,s E r⟩⟩;obtain⟨o,p,t,N,r⟩:=l;exact⟨o,p,t,(B8 λ q=>(w _ q).2 Ac).trans N,r⟩
  cell:=λ y C=>by
   obtain⟨c,x,e,i,a⟩:=F.cell y C;refine⟨c,x,e,E6 Q ?_,λ k E=>let⟨v,B,r⟩:=a k E;⟨v,B,s E r⟩⟩;obtain⟨o,N,hd⟩:=i;exact⟨o,(B8 λ q=>(w _ q).2 (Bq e)).trans N,hd⟩
  alive:=λ b f=>⟨(F.alive b f).1,by
   by_cases q:b∈rs
   ·exact j b q
   ·obtain⟨o,N⟩:=(F.alive b f).2;exact AP Q ⟨o,(B8 q).trans N⟩⟩}
theorem Ry (k:A8 W N h)(hd:∀r∈a,N.get? r=none)(s:∀r∈a,∀o w,h.get? r=some o->o.data≠.fields w):A8 W N (Da h a):=by
 refine⟨λ b o e=>?_,λ t=>Lp (k.2 t) a s⟩;have q:b∉a:=λ q=>by rw[hd b q] at e;cases e
 rw[B8 q];exact k.1 b o e
theorem CF.gz (f:CF z h)(k:∀r∈a,r∉Ay z):CF z (Da h a):=f.at λ o s=>(B8 λ q=>k _ q Ac).trans s
theorem XS.dq (S:XS W V z N Z X s O)(h:∀r∈rs,r∈X/\r∉Ay z/\N.get? r=none/\∀o C,s.heap.get? r=some o->o.data≠.fields C)(A:A8 W (Da s.heap rs) H)(E:∀r∈rs,∃o,H.get? r=some o)(w:∀y d,O.lookup y≠some (.own d))(l:s.toks<=a):XS W V z N Z X #[s,H,a] O:=
 ⟨S.F.dq (λ r k=>⟨(h r k).1,(h r k).2.1⟩) A E w,(Ry S.le (λ r k=>(h r k).2.2.1) λ r k=>(h r k).2.2.2).trans A,Ab S.tk l,S.fr,(S.fc.gz λ r k=>(h r k).2.1).bb A⟩
section
theorem Yz (N:A.units+2<cLine)(I:Gn s.heap e (.type "RuntimeError") (.str m a))(O:Q (.str m a) s):wpAny W.M A (call (.type "str") [.ref e]) Q E s:=
 callType_new F.called_str {_} (F.typeCall_str_1 _) (F.newCall_str_1 _) (λ o=>F.args_object_init_2 o _) F.entry_str_new
  (meets_str_new (S:=λ w R k=>w.units+1<cLine/\k.heap=s.heap/\R (.ok (.ret (.str m a))) k)
   λ _ _ w _ k z=>by
    obtain⟨j,l,p,q,V⟩:=k;obtain⟨C,h,H⟩:=z;simp only at h;subst h;obtain⟨Z,b,t,n,c,d,f,g,i⟩:=I;exact strOf_exc_one (A:=w.in1) F.excStr_RuntimeError C (t0:=t) ⟨Z,b,c,d,f,g⟩ ⟨_,n,i,rfl,rfl⟩ H)
  ⟨(show A.units+1+1<cLine from N),rfl,IT _ _ _,O⟩
theorem N4 (n:A.units<9000)(p:CQ r=true)(q:BR W A (eval l z) s λ v O=>Rp W X1 O v d1)(t:∀k h,A8 W s.heap k->s.toks<=h->BR W A (eval r z) #[s,k,h] λ v O=>Rp W X1 O v d2)(e:IG a d1 d2=some b):
 BR W A (eval (.Compare l [a] [r] c) z) s (λ v O=>v=.bool b):=λ Q E i=>
 wpAny_Compare1 (q _ _ λ v k h o w u=>t k h o w _ _ λ v2 V H C Z j=>by
  have:=BR.of (W:=W) (A:=A) (s:=#[s,V,H]) (t:=compareOp a v v2) (P:=λ v O=>v=.bool b) λ Q E i=>Ii (X:=X1) n (u.ac C) (.inl j) e λ x=>i _ _ x (.refl _) rfl;exact this _ _ λ v3 d N f g m=>i v3 d N ((o.trans C).trans f) (Ab w (Ab Z g)) m) (MO p)
theorem Sn (f:BR W A (eval x z) s λ v Z=>v=.bool b)(g:b=true->∀k h,A8 W s.heap k->s.toks<=h->BR W A (boolOp c .And (evalEach (y::a) z)) #[s,k,h] λ v Z=>v=.bool d):
 BR W A (boolOp c .And (evalEach (x::y::a) z)) s (λ v Z=>v=.bool (b&&d)):=λ Q E e=>by
 show wpAny W.M A (do let v <-eval x z;standAt c;let t <-holding [v] (truthy v);match BoolOp.And,t with | .And,false=>pure v | .Or,true=>pure v |_,_=>boolOp c .And (evalEach (y::a) z)) Q E s;refine Aa (f _ _ λ v k h o w i=>?_);subst i;refine Aa (AI (Aa (AF (CV ?_))));cases b with
 |false=>exact Af (e _ k h o w rfl)
 |true=>exact g rfl k h o w _ _ λ v2 H C N O V=>e v2 H C (o.trans N) (Ab w O) V
def Oc (P:Nat->Pos)(K:Nat->Nat):List Expr:=[.Compare (.Name "best" (P 0)) [.Is] [.Constant .none (K 0) (P 1)] (P 2),.Compare (.Call (.Name "str" (P 3)) [.Name "error" (P 4)] [] (P 5)) [.Eq] [.Constant (.str "Inconsistent hierarchy") (K 1) (P 6)] (P 7),.Compare (.Name "rows" (P 8)) [.Eq] [.Name "left" (P 9)] (P 10)]
theorem NZ (h:N0 c=some d):BR W A (eval (.Constant c b a) z) s (λ v w=>Rp W X w v d):=by
 unfold N0 at h;split at h
 ·cases h;exact λ Q E k=>wpAny_Constant_none (k _ s.heap s.toks (.refl _) (Am _) .none)
 ·cases h;exact λ Q E k=>wpAny_Constant_bool (k _ s.heap s.toks (.refl _) (Am _) (.bool _))
 ·cases h;exact λ Q E k=>wpAny_Constant_int (k _ s.heap (s.toks+1) (.refl _) (A6 _) (.int _ _))
 ·split at h<;>cases h;rename_i o;unfold Ix at o;rw[Ah,AK] at o;exact λ Q E k=>He (k _ s.heap (s.toks+1) (.refl _) (A6 _) (.str _ _ o.1 o.2))
 ·cases h
theorem ZD {f:List Addr}{m:Pos}{P:Nat->Pos}{K:Nat->Nat}(U:Dh W C k mg mb)(R:A.units<9000)(F:FI W V z Z X s.heap O)(G:Gd W s){d:PV}{b left:List (List Str)}{g l e:Addr}{t:Tok}{i j:Bool}(hb:O.lookup ("best":Str)=some (.aa d))(he:O.lookup ("error":Str)=some (.al (.ref e)))(S:O.lookup ("rows":Str)=some (.al (.ref g)))(hl:O.lookup ("left":Str)=some (.aa (.list (BB left))))
 (hL:s.heap.get? g=some (Fz (f.map Value.ref).toArray l)) (hz:f.length<=Bi) (B:ED W s.heap f b) (I:Gn s.heap e (.type "RuntimeError") (.str KV t)) (hg:Bz V "str"=true) (e1:IG .Is d .none=some i) (e3:J8 (.list (BB b)) (.list (BB left))=some j):
 BR W A (boolOp m .And (evalEach (Oc P K) z)) s (λ v h'=>v=.bool (i&&(true&&j))):=by
 unfold Oc;refine Sn (N4 (X1:=X) R rfl (λ Q E D=>F.name hb λ v r=>D v s.heap s.toks (.refl _) (Am _) r) (λ o h H u=>NZ (by rfl)) e1) λ _ o h H u=>?_;have n:=F.ac H;have J:=G.step H u;refine Sn (s:=#[s,o,h]) (N4 (X1:=X) (d1:=.str KV) (d2:=.str KV) R rfl (λ Q E D=>?_) (λ N w p L=>NZ ⋯) ⋯) λ _ N w p L=>?_
 ·refine BG (BM (s:=#[s,o,h]) U n J hg (.inr (U.bx .str)) ?_);rw[AN (P 5) z [.Name "error" (P 4)] rfl];refine Jj rfl (A1 (Av (FI.al (s:=#[s,o,h]) n he (AV ?_))));exact Yz (s:=#[s,o,h]) (by have:cLine=9900:=rfl;omega) (I.bb (_) H) (D _ o h (.refl _) (Am _) (.str KV t {_} {_}))
 ·have x:=n.ac p;show BR W A (eval (.Compare (.Name "rows" (P 8)) [.Eq] [.Name "left" (P 9)] (P 10)) z) _ _;have Y:=H.trans p;obtain⟨c,hc,T⟩:=B;refine N4 (s:=#[s,N,w]) (X1:=[]) R rfl (λ Q E D=>FI.al (s:=#[s,N,w]) x S (D _ N w (.refl _) (Am _) ?_)) (λ y q M a0 Q E D=>FI.name (s:=#[s,y,q]) (x.ac M) hl λ v r=>D v y q (.refl _) (Am _) (Rp.ag (Y:=[]) (λ a ha=>absurd ha (_)) r)) e3;refine .list (Y.keep hL (_) (_)) (_) (by simpa using hz) ?_;rw[<-hc];show RpL W [] N (f.map Value.ref).toArray.toList _;exact PU c f λ r S=>⟨(_),(T r S).bb Y⟩
theorem dF {i:List Addr}{fuel:Nat}{U q2 Y q4 q5 q6 q7 q8:Pos}{D:List Env}{J:Scope}{P:Nat->Pos}{K:Nat->Nat}(Gk:Dh W C k mg mb)(B:XB W V z N)(f2:V5 W A z N D)(S:XS W V z N Z X s O){u:Addr}{oc:Obj}{j:Nat->Pos}{L:Nat->Nat}(fo:EF W u fd ["sequences"] (Od J j L))(f3:mg "_c3_merge"=some (.ref u))(T:PH fd.scope J j)
 (f4:∀n,swapsWithSole [.Name "sequences" (j 23)] (.ListComp (.Name "s" (j 24)) [⟨.Name "s" (j 25),.Name "sequences" (j 26),[.Name "s" (j 27)],0⟩] J (j 28)) (j 29).line (callEnvC fd n u)=pure true) (c8:mg "RuntimeError"=none/\mb "RuntimeError"=some (.type "RuntimeError")) (hA:Cg (k+1) A)
  {m left:List (List Str)} {p x:Nat} {best:PV} (hL:s.heap.get? p=some (Fz (i.map Value.ref).toArray x)) (b2:p∉i++X) (f5:i.Nodup) (hz:i.length<=Bi) (a2:∀r∈i,r∈X/\r∉Ay z/\N.get? r=none) (c9:ED W s.heap i m) (d0:∀y d,O.lookup y≠some (.own d))
 (l1:O.lookup ("rows":Str)=some (.al (.ref p))) (l2:O.lookup ("best":Str)=some (.aa best)) (l3:O.lookup ("left":Str)=some (.aa (.list (BB left)))) (hm:AR V "merged"=true) (d1:V.names.lookup ("error":Str)=some .local) (g1:Bz V "_c3_merge"=true) (g2:Bz V "RuntimeError"=true) (g3:Bz V "str"=true)
  (hf:fuel<=Bi) {f:Option (List Str)} {g:List (List Str)} (e:Mx fuel m []=some (f,g)) {M G:Pos} {I:Flow->Shared->Prop}
 (hQ:∀a5,f=some a5->∀h' tk,XS W V z N Z X #[s,h',tk] (AM O "merged" (.aa (.list (a5.map .str))))->h'.get? p=some (Fz (i.map Value.ref).toArray x)->ED W h' i g->s.toks<=tk->I .next #[s,h',tk])
 (hE:f=none->∃b1 b3,IG .Is best .none=some b1/\J8 (.list (BB g)) (.list (BB left))=some b3/\∀h' tk,A8 W N h'->s.toks<=tk->I (.ret (.bool (b1&&(true&&b3)))) #[s,h',tk]):
 wpAny W.M A (exec (.Try [.Assign [.Name "merged" U] (.Call (.Name "_c3_merge" q2) [.Name "rows" Y] [] q4) q5] [.ExceptHandler (some (.Name "RuntimeError" q6)) (some "error") [.Return (some (.BoolOp .And (Oc P K) q7)) q8] M] [] [] G) z) I E s:=by
 obtain⟨c,hc,d2⟩:=c9;obtain⟨of,f6,f7,d3,d4⟩:=fo.obj;have f8:∀r∈i,W.h0.get? r=none/\BO W s.heap r (c r):=λ r hr=>⟨(S.F.alive r (a2 r hr).1).1,d2 r hr⟩;have f9:∀r∈i,∀f vs,s.heap.get? r=some f->f.data≠.fields vs:=λ r hr f vs e=>by
  obtain⟨us,n,e1,_⟩:=d2 r hr;rw[e1] at e;cases e;simp
 have b4:∀{h' tk},A8 W (Da s.heap i) h'->ED W h' i g->s.toks<=tk->XS W V z N Z X #[s,h',tk] O:=λ{h' tk} H R l=>
  S.dq (λ r hr=>⟨(a2 r hr).1,(a2 r hr).2.1,(a2 r hr).2.2,f9 r hr⟩) H (λ r hr=>by obtain⟨c',_,h2⟩:=R;obtain⟨f,ho,_⟩:=(h2 r hr).some;exact⟨f,ho⟩) d0 l
 have LL:∀{h'},A8 W (Da s.heap i) h'->h'.get? p=some (Fz (i.map Value.ref).toArray x):=λ{h'} H=>H.keep ((B8 λ q=>b2 (AT _ q)).trans hL) (_) (_);have hu:A.units<9000:=by have:=hA.units;omega
 refine IR (Al (Bf (t:=.Name "merged" U) rfl rfl rfl (BG (BM Gk S.F (S.gd B) g1 (.inl f3) ?_))));rw[AN q4 z [.Name "rows" Y] rfl];have d5:s.heap.get? u=some of:=(S.gd B).am.keep f6 d3 d4;refine Cm (o:=of) (fd:=fd) (A1 (Av (S.F.al l1 (AV ⟨⟨d5,f7⟩,?_⟩))));refine ZG Gk fo T f4 c8 hA f2.fr (f2.stack S) (S.gd B) hL (λ q=>b2 (AT _ q)) f5 hz f8 hf (by rw[hc];exact e) (λ a5 ho a a6 h ha b5 o ra b6=>?_) λ ho d6 a6 h ex t o b7 b8 d7 c3=>?_
 ·have d8:=b4 b5 b6 o;have aX:a∉X:=λ q=>by obtain⟨f,ho⟩:=S.F.ah a q;rw[ha] at ho;cases ho
  refine XS.fg B d8 (x:="merged") (sl:=.aa (.list (a5.map .str))) hm (ra.rp aX) (λ d q=>nomatch q) λ w c4 a4 Q d9=>AZ (AZ ?_);have kp:∀b f,b∉X->a6.get? b=some f->w.get? b=some f:=λ b f q e=>Q.keep b f (λ q'=>q (S.F.bo q')) e;refine hQ a5 ho w c4 a4 (kp _ _ (λ q=>b2 (Ax _ q)) (LL b5)) ?_ (Ab o d9);obtain⟨c',h1,h2⟩:=b6;refine⟨c',h1,λ r hr=>(h2 r hr).keep λ f e d=>Q.keep r f (λ q=>?_) e⟩;rcases q with q |⟨y,_,q⟩
  ·exact(a2 r hr).2.1 (q▸Ac)
  ·exact(a2 r hr).2.1 (Bq q)
 ·obtain⟨b1,b3,e1,e3,g0⟩:=hE ho;have b9:XS W V z N Z X #[s,d6,s.toks] O:=b4 b7 b8 (Am _);refine PL (s:=#[s,a6,h]) (_) f2.fr c3 d7 λ w a7 Q=>?_;have a4:XS W V z N Z X #[s,w,h] O:=b9.ac a7.1 o;have e0:=a4.gd B;refine wpAny_handleBy_cons (codeAny_handlers_test (BM (s:=#[s,w,h]) Gk a4.F e0 g2 (.inr c8) ?_)) (by intro q;cases q);obtain⟨oe,vs,t',n,i1,i2,i3,i4,i5⟩:=a7.is;refine wpAny_excMatches_type (s:=#[s,w,h]) ⟨oe,i1,i2⟩ F.isExc_RuntimeError F.notTuple_RuntimeError F.self_RuntimeError ?_;refine codeAny_handlers_suite_as (It.again (s:=#[s,w,h]) (_) Q a7 λ c0 e2 g4 a8=>?_);have c1:XS W V z N Z X #[s,c0,h] O:=b9.ac a8 o;have g5:AR V "error"=true:=Fe d1 {_};refine c1.putName B g5 (sl:=.al (.ref ex)) rfl (λ d q=>nomatch q) λ a1 c5 a9 a3 e4=>?_;have e5:Gn a1 ex (.type "RuntimeError") (.str KV t):=e2.is.bf c1.F a3;have kp:∀b f,b∉Ay z->c0.get? b=some f->a1.get? b=some f:=λ b f q e=>a3.keep b f (λ q'=>q (by
   rcases q' with q' |⟨y,_,q'⟩
   ·exact q'▸Ac
   ·exact Bq q')) e
  have L4:a1.get? p=some (Fz (i.map Value.ref).toArray x):=a3.keep p _ (λ q=>b2 (Ax _ (S.F.bo q))) (a8.keep (LL b7) (_) (_));have R4:ED W a1 i g:=by
   obtain⟨c',h1,h2⟩:=b8;exact⟨c',h1,λ r hr=>((h2 r hr).bb a8).keep λ f e d=>kp r f (a2 r hr).2.1 e⟩
  have b0:∀{y:Str}{sl},y≠"error"->O.lookup y=some sl->(AM O "error" (.al (.ref ex))).lookup y=some sl:=λ{y sl} q e=>by rw[Aw,Ak q];exact e
  refine Al (CW (ZD (A:=A.mark (some (.ref ex))) (s:=#[s,a1,c5]) Gk hu a9.F (a9.gd B) (b0 {_} l2) (by rw[Aw,Ap rfl]) (b0 {_} l1) (b0 {_} l3) L4 hz R4 e5 g3 e1 e3 _ _ λ v e6 c6 e7 c2 hv=>?_));subst hv;have e8:=a9.ac e7 c2;exact XS.fu (s:=#[s,e6,c6]) B e8 d1 {_} λ e9 c7 f0 g6 f1=>g0 e9 c7 f0.le (Ab o (Ab e4 (Ab c2 f1)))
end
section
theorem Cg.ag (h:Cg k A)(o:j<=k):Cg j A:=⟨h.handled,by have:=h.depth;omega,by have:=h.units;omega⟩
theorem UY (S:XS W V z N Z X s O)(w:s.heap.get? a=some o)(hd:o.data=.seq b n):¬Ck V z a:=λ q=>by
 rcases q with q |⟨x,A,q⟩
 ·obtain⟨C,E,H,h,_,k⟩:=S.fc;rw[<-q,w] at h;cases h;rw[hd] at k;cases k
 ·obtain⟨c,Q,e,⟨C,h,k⟩,_⟩:=S.F.cell x (.inl A);rw[q] at e;cases e;rw[w] at h;cases h;rw[hd] at k;cases k
theorem Te (R:Dh W C k mg mb)(hA:Cg k A)(F:FI W V z Z X s.heap O)(G:Gd W s)
 (hQ:∀x S D t n v1 v2,A8 W s.heap x->s.toks<=S->s.heap.get? D=none->s.heap.get? t=none->t≠D->x.get? t=some (JI #[.ref D,v1,v2] n)->BX W (D::X) x D (.dict [])->Rp W (D::X) x v1 (.list [])->Rp W (D::X) x v2 (.list [])->Q (.ref t) #[s,x,S]):
 wpAny W.M A (eval (.Tuple [.Dict [] [] d,.List [] b,.List [] c] e a) z) Q E s:=by
 have H:=A2 R hA 1;rw[Lx,AN a z _ rfl];refine Aa (AI (Aa ?_));refine Av (Go (p:=By C 1) (d:=.dict []) R H F G ⋯ λ D j u T N l i=>?_);have U:=F.ac N;have m:=G.step N l;have Y:FI W V z (D::Z) (D::X) j O:=F.fresh G.am N T i.alive;refine Av ((H V z).ev O (.List [] b) (.list []) ⋯ (D::Z) (D::X) #[s,j,u] Y m _ _ λ v1 p w h r y=>?_);have B:Gd W #[s,p,w]:=m.step (tk:=w) h r;refine Av ((H V z).ev O (.List [] c) (.list []) ⋯ (D::Z) (D::X) #[s,p,w] (Y.ac h) B _ _ λ v2 f v g I J=>?_);refine AV ?_;have L:A8 W s.heap f:=N.trans (h.trans g);have fr:s.heap.get? f.objs.size=none:=E5 L (Bl _);have M:f.objs.size≠D:=λ q=>by
  obtain⟨o,ho⟩:=AP (h.trans g) i.alive;rw[<-q,Bl] at ho;cases ho
 refine Bj (hQ _ v D f.objs.size 0 v1 v2 (L.trans (.push _ _)) (Ab l (Ab r I)) T fr M (Ar _ rfl) (((i.ac h).ac g).ac (.push _ _)) (((y.ac g)).ac (.push _ _)) (J.ac (.push _ _))) (by show 3<=sizeLine;simp[sizeLine])
theorem UN {kk n:Nat}{a0 q1 q2 q3 q4 q5 q6 q7 q8:Pos}{u:List PV}{G:List Env}{x x3:Str}{P:Nat->Pos}{K:Nat->Nat}(Gk:Dh W C k mg mb)(B:XB W V z N)(f0:V5 W A z N G)(S:XS W V z N Z X s O)(c1:∀y d,O.lookup y≠some (.own d))(d3:∀b∈X,Ck V z b){M:Addr}(R:Uy W mg mb M)(d4:mg "reduce"=some (.ref M)){U:Addr}{j:FuncData}{f g l:Expr}(fo:EF W U j ["state","reply"] (FU x3 f g l P K))(T:K2 j.scope x3 f g)(d5:mg "_law_heard"=some (.ref U))
 {C1 I:Addr} {L p:List Value} (x1:D8 W mg "error_reply" C1 L) (x2:D8 W mg "error_proto" I p) (d6:(Value.ref I::p).contains (.ref C1)=false) (hA:Cg (k+2) A) {m:Nat} {c:Expr} (ht:(By C m).ev V O c=some (.list u)) (d7:Bk c=true)
 {es:Nat->List (Str×PV)} {hs ss:Nat->List PV} (e0:es 0=[]) (h0:hs 0=[]) (s0:ss 0=[]) (hR:∀i x,u[i]? =some x->∃r,x=.str r/\Ss W (By C (n+1)) k j.scope P K f g l C1 I r (es i) (hs i) (ss i) (es (i+1)) (hs (i+1)) (ss (i+1)))
  (hx:AR V x=true) (g1:Bz V "reduce"=true) (g2:Bz V "_law_heard"=true) {Y:Flow->Shared->Prop}
 (hQ:∀h' tk D t nt v1 v2,XS W V z N (D::Z) (D::X) #[s,h',tk] (AM O x (.al (.ref t)))->s.heap.get? D=none->t∉D::X->h'.get? t=some (JI #[.ref D,v1,v2] nt)->Rp W (D::X) h' v1 (.list (hs u.length))->Rp W (D::X) h' v2 (.list (ss u.length))->BX W (D::X) h' D (.dict (es u.length))->s.toks<=tk->Y .next #[s,h',tk]):
 wpAny W.M A (exec (.Assign [.Name x q1] (.Call (.Name "reduce" q2) [.Name "_law_heard" q3,c,.Tuple [.Dict [] [] q4,.List [] q5,.List [] q6] kk q7] [] q8) a0) z) Y E s:=by
 have c2:Cg k A:=hA.ag ∅;obtain⟨d8,_,_,_,_,_,_,_,_,_,_,_,_,_,_,_,_,_,_,_,_,_,_,_,_,c3,_⟩:=R.ex;obtain⟨d9,c4,e1,c5,c6⟩:=c3.obj;obtain⟨oh,f3,f4,f1,f2⟩:=fo.obj;refine Bf (t:=.Name x q1) rfl rfl rfl (BG (BM Gk S.F (S.gd B) g1 (.inl d4) ?_));rw[AN q8 z _ (by show(true&&(Bk c&&(true&&true)))=true;rw[d7];rfl)];refine Cm (o:=d9) (fd:=d8) (A1 (Av (BM Gk S.F (S.gd B) g2 (.inl d5) ?_)));refine Av ((A2 Gk c2 m V z).ev O c _ ht Z X s S.F (S.gd B) _ _ λ tv a2 b6 a9 b0 rt=>?_);have h:=S.ac a9 b0;refine Av (Te (s:=#[s,a2,b6]) Gk c2 h.F (h.gd B) λ w H D t nt v1 v2 a1 b1 hD c7 e2 eT oD r1 r2=>?_);refine AV ⟨⟨((B.am.trans h.le).trans a1).keep c4 c5 c6,e1⟩,?_⟩;have a3:XS W V z N ([D]++Z) ([D]++X) #[s,w,H] O:=
  ⟨h.F.dz (h.gd B).am a1 (λ a ha=>by rw[Cz.mp ha];exact⟨hD,oD.alive⟩),h.le.trans a1,Ab h.tk b1,λ a ha hz=>by
    rcases Au.mp ha with q |q
    ·exact absurd (AT _ q) hz
    ·exact h.fr a q λ q'=>hz (Ax _ q'),h.fc.bb a1⟩
 have c8:s.heap.get? D=none:=E5 a9 hD;have b7:∀o,w.get? D=some o->(∀vs,o.data≠.fields vs)/\o.cls≠.type "frame":=λ o ho=>by
  obtain⟨e3,⟨o',e4,ep,a5,hx,hd,_⟩,_⟩:=oD;rw[a5] at ho;cases ho;refine⟨λ vs q=>?_,?_⟩
  ·rw[hd] at q;cases q
  ·rw[hx.1];simp
 have b2:Gd W #[s,w,H]:=a3.gd B;have a6:∀b∈D::X,W.h0.get? b=none/\∃o,w.get? b=some o:=λ b N=>a3.F.alive b N;have D0:W.h0.get? D=none:=(a6 D Ac).1;have b8:A8 W W.h0 (Gh w (some D)):=Np b2.am (λ B q=>by cases q;exact D0) λ B q o vs e=>by cases q;exact(b7 o e).1 vs
 have t0:W.h0.get? t=none:=Dx (h.gd B).am c7;have f5:t∉D::X:=λ q=>by
  rcases Ag.mp q with q |q
  ·exact e2 q
  ·obtain⟨o,ho⟩:=h.F.ah t q;have b9:a2.get? t=none:=c7;rw[b9] at ho;cases ho
 have e5:Rp W (D::X) w tv (.list u):=(rt.au hD).ac a1;have St:=RS Gk fo T x1 x2 d6 (D:=D) (X:=D::X) Ac (N:=Gh w (some D)) b8 (λ b N=>⟨(a6 b N).1,by
  by_cases q:b=D
  ·exact .inl q
  ·right;obtain⟨o,ho⟩:=(a6 b N).2;exact⟨o,(Hx λ B' q'=>by cases q';exact q).trans ho⟩⟩) hR
 have e6:Cg (k+1+1) A:=hA;refine L7 (s:=#[s,w,H]) (ob:=some D) (X:=D::X) Gk R e6 b2 a6 e5 (λ B' q=>by cases q;exact⟨Ac,b7⟩) f0.fr (f0.stack a3) (t:=t) ⟨t0,_,eT⟩ St ⟨t,nt,v1,v2,rfl,eT,by rw[h0];exact r1,by rw[s0];exact r2,by rw[e0];exact oD⟩ λ b3 a4 v c9 b4 J=>?_;obtain⟨t',e7,w1,w2,rfl,a7,p1,p2,p3⟩:=J;have b5:XS W V z N ([D]++Z) ([D]++X) #[s,b3,a4] O:=XS.dq (s:=#[s,w,H]) a3 (rs:=[D]) (λ r hr=>by
  rw[Cz.mp hr];refine⟨AT _ Ac,λ q=>?_,?_,λ o vs e=>(b7 o e).1 vs⟩
  ·obtain⟨o,ho⟩:=h.F.ah D (h.F.zx _ (h.F.aw _ q));have b9:a2.get? D=none:=hD;rw[b9] at ho;cases ho
  ·exact E5 S.le c8) c9 (λ r hr=>by rw[Cz.mp hr];exact p3.alive) c1 b4
 have tX:t'∉D::X:=λ q=>by
  rcases Ag.mp q with q |q
  ·obtain⟨e3,⟨o',e4,ep,a5,e8,_⟩,_⟩:=p3;rw[q] at a7;rw[a7] at a5;cases a5;have b9:=e8.1;simp at b9
  ·exact UY b5 (s:=#[s,b3,a4]) a7 rfl (d3 _ q)
 refine XS.fg B b5 (x:=x) (sl:=.al (.ref t')) hx rfl (λ d q=>nomatch q) λ d0 c0 d1 Q d2=>?_;have nW:∀b,Ck V z b->b∈X:=λ b q=>S.F.bo q;have e9:¬Ck V z D:=λ q=>by obtain⟨o,ho⟩:=h.F.ah D (nW D q);have b9:a2.get? D=none:=hD;rw[b9] at ho;cases ho
 have a8:∀a,Ck V z a->a∈D::X:=λ a q=>Ad _ (nW a q);exact hQ d0 c0 D t' e7 w1 w2 d1 c8 tX (Q.keep t' _ (λ q=>tX (a8 _ q)) a7) (Rp.bf a8 Q p1) (Rp.bf a8 Q p2) (BX.bf Q a8 e9 p3) (Ab b0 (Ab b1 (Ab b4 d2)))
end
section
theorem BX.rp (x:BX W X h a d)(k:a∉Y)(o:∀b∈Y,b∈X):Rp W Y h (.ref a) d:=by
 cases d with
 |list w=>obtain⟨A,n,e,z,l⟩:=x;exact .list e k z (l.ag o)
 |dict C=>obtain⟨s,e,y,z,q,l⟩:=x;exact .dict e k y z q (l.ag o)
 |_=>exact x.elim
theorem Zh (Gk:Dh W C k mg mb)(hA:Cg k A)(B:XB W V z N)(S:XS W V z N (D::Z) (D::X) s O)(hx:O.lookup x=some (.al (.ref t)))(M:∀y d,O.lookup y≠some (.own d))(a0:∀a∈Ay z,a∈Z)(a1:∀a∈Z,a∈X)(T:D∉X)
 (ht:t∉D::X) (hT:s.heap.get? t=some (JI #[.ref D,v1,v2] f)) (p1:Rp W (D::X) s.heap v1 l) (p2:Rp W (D::X) s.heap v2 n) (pD:BX W (D::X) s.heap D (.dict p))
  (hr:(By C m).ev V O c=some (.ay [.dict g,i,j])) (a2:CQ c=true) (q1:MT p g=some true) (q2:J8 l i=some true) (q3:J8 n j=some true)
 (hQ:∀h' tk,XS W V z N Z X #[s,h',tk] (AM O x (.aa (.ay [.dict p,l,n])))->s.toks<=tk->G .next #[s,h',tk]):
 wpAny W.M A (exec (.If (.Compare (.Name x I) [.NotEq] [c] J) b [] L) z) G E s:=by
 have hu:A.units+20<cLine:=by have:=hA.units;have:cLine=9900:=rfl;omega
 refine Jz (QT (S.F.al hx ((A2 Gk hA m V z).ev O c _ hr (D::Z) (D::X) s S.F (S.gd B) _ _ λ vb w H h R rb=>?_)) (MO a2));have Q:w.get? t=some (JI #[.ref D,v1,v2] f):=h.keep hT (_) (_);have o:=S.ac h R;refine Yw (s:=#[s,w,H]) (X:=D::X) (Y:=D::X) hu Q (pD.ac h) (p1.ac h) (p2.ac h) Ac rb q1 q2 q3 (CV ?_);simp only[Bool.and_self,HK,Aq,AS];refine AZ (hQ w H ?_ R);have less:∀b∈X,b∈D::X:=λ b N=>Ad _ N;refine⟨o.F.re a0 a1 (λ a Y=>o.F.alive a (less a Y)) (λ _ _=>rfl) (λ y s' U=>?_) (λ y a3 d e h1 h2=>?_),o.le,o.tk,λ a Y hz=>o.fr a (less a Y) λ q=>?_,o.fc⟩
 ·rw[Aw] at U;split at U
  ·rename_i q;subst q;cases U;refine⟨_,hx,λ v hv r=>?_⟩;have e:v=.ref t:=r;subst e;exact .ay Q (λ q=>ht (less t q)) (by simp[Bi]) (.cons ((pD.ac h).rp T less) (.cons ((p1.ac h).ag less) (.cons ((p2.ac h).ag less) .nil)))
  ·refine⟨s',U,λ v hv r=>?_⟩;cases s' with
   |aa d=>exact Rp.ag less r
   |al u=>exact r
   |bl u d=>exact⟨r.1,Rp.ag less r.2⟩
   |own d=>exact absurd U (M y d)
 ·rw[Aw] at h1;split at h1
  ·cases h1
  ·exact absurd h1 (M y d)
 ·rcases Ag.mp q with q |q
  ·exact T (q▸Y)
  ·exact hz q
end
section
structure UA (W:BH)(mg:Str->Option Value)(sc:Scope)(env:Env)(ρ:AC)(params:Arguments)(body:Expr)(lsc:Scope)(pos:Pos)(ps:List Str)(φ:AC):Prop where
 ff:∃c P ls qual,ZX W c P ls/\mainGlobals≠P/\W.h0.BuiltinsAt mg P/\env.code=.ref c/\(pos,qual)∈ls/\env.qual++"<lambda>"=qual
 dfl:defaultsOf params env=([],[])
 jt:Ym params body lsc ps
 nd:(lsc.names.map (·.1)).Nodup
 free:∀p∈lsc.names,p.2=.free->sc.names.lookup p.1=some .cell
 fw:∀x sl,φ.lookup x=some sl->lsc.names.lookup x=some .free/\CC x=true/\ρ.lookup x=some sl/\∃d,sl=.aa d
theorem RG (Gk:Dh W C k mg mb)(L:UA W mg V z O g j b l m n)(F:FI W V z Z X s.heap O)(G:Gd W s)
 (hQ:∀I tk f H,A8 W s.heap I->s.toks<=tk->(∀a∈H.map (·.2),a∈X)->(∀Y:List Addr,(∀a∈Y,a∈X)->Op W I Y f j b m H n)->Q (.ref f) #[s,I,tk]):wpAny W.M A (eval (.Lambda g j b l) z) Q E s:=by
 obtain⟨c,P,ls,J,LT,a0,a1,u,M,hq⟩:=L.ff;have N:∀p∈b.names,p.2=.free->∃c R,z.cells.lookup p.1=some c/\s.heap.IsCell c R/\∀B,O.lookup p.1=some B->∃v,R=some v/\Bg W Z X s.heap v B:=λ p o hf=>F.cell p.1 (.inl (L.free p o hf));have w:∀p∈b.names,p.2=.free->(z.cells.lookup p.1).isSome=true:=λ p o hf=>by obtain⟨c,R,e,_⟩:=N p o hf;rw[e];rfl
 have S:=Hk w;have t:∀x,(E7 z b.names []).lookup x=if b.names.lookup x=some .free then z.cells.lookup x else none:=λ x=>Jh x b.names [] L.nd w
 refine Xe Gk LT a0 a1 F.br u M hq L.dfl S G λ I tk f cd ct h T hf ho hc=>?_;have cX:∀a∈(E7 z b.names []).map (·.2),a∈X:=λ a U=>by
  obtain⟨p,o,rfl⟩:=At.mp U;exact F.zx _ (F.aw _ (Bq (N7 b.names [] w (λ p o=>nomatch o) p o)))
 refine hQ I tk f (E7 z b.names []) h T cX λ Y hY=>⟨⟨J,g,_,cd,ct,ho,hc,L.jt⟩,λ x B e=>?_,λ x hx=>?_,λ x y c D e2=>?_,λ a U=>?_⟩
 ·obtain⟨h1,h2,_,d,rfl⟩:=L.fw x B e;exact⟨h1,h2,λ d q=>nomatch q⟩
 ·obtain⟨c,R,e,i,hv⟩:=N (x,.free) (mem_of_lookup hx) rfl;refine⟨c,R,by rw[t,Ap hx];exact e,E6 h i,λ B hs=>?_⟩;obtain⟨_,_,hr,d,rfl⟩:=L.fw x B hs;obtain⟨v,D,r⟩:=hv _ hr;refine⟨v,D,?_⟩;have r':Rp W X s.heap v d:=r;refine Rp.ag (λ a U=>?_) (r'.ac h);rcases Au.mp U with q |q
  ·exact cX a q
  ·exact hY a q
 ·rw[t] at D e2;split at D
  ·split at e2
   ·exact F.inj x y c D e2
   ·cases e2
  ·cases D
 ·obtain⟨p,o,rfl⟩:=At.mp U;have:=F.alive p.2 (F.zx _ (F.aw _ (Bq (N7 b.names [] w (λ p o=>nomatch o) p o))));exact⟨this.1,AP h this.2⟩
theorem OY {b:List Value}{i:Nat}{a:List Str}(r:RpL W X h b (a.map .str))(k:i<a.length):Rp W X h (b.getD i .none) (.str (a.getD i Str.empty)):=by
 obtain⟨v,e,o⟩:=r.get (k:=i) (d:=.str (a.getD i Str.empty)) (by rw[AE,Bb k,Az,Bb k];rfl);rw[Az,e];exact o
theorem Vh {a0 Y q2 q3 q4 q6 q7 q8:Pos}{J:List Str}{d:Arguments}{x y:Str}{M:AC}(Gk:Dh W C k mg mb)(hA:Cg (k+4) A)(B:XB W V z N)(S:XS W V z N Z X s O){I T:Nat}{U:Ge}(CT:UE W mg mb U T I)(c4:mg "cmp_to_key"=some (.ref I))(c5:∃o fd,W.h0.get? I=some o/\o.data=.func fd/\o.cls≠.type "frame"/\o.cls≠.none)(a8:W.h0.NoLimit)
 {c:Expr} {g:Scope} {u:Pos} (L:UA W mg V z O d c g u J M) (b3:J.length=2) {ns:List Str} (hy:O.lookup y=some (.aa (.list (ns.map .str)))) (hn:ns.length<7) {m:Nat} {G:Nat->Nat->Bool} (ok:LB ns.length G)
 (c6:∀i j,i<ns.length->j<ns.length->∃v,(By C m).ev g (J.zip [.aa (.str (ns.getD i Str.empty)),.aa (.str (ns.getD j Str.empty))]++M) c=some (.int v)/\G i j=decide (v<0)) (hx:AR V x=true) (g1:Bz V "sorted"=true) (g2:Bz V "cmp_to_key"=true)
  {R:Flow->Shared->Prop} (hQ:∀p,Gm ns.length G p->D7 W V z N Z X s (.next (AM O x (.aa (.list ((p.map λ i=>ns.getD i Str.empty).map .str))))) R):
 wpAny W.M A (exec (.Assign [.Name x Y] (.Call (.Name "sorted" q2) [.Name y q3] [⟨some "key",.Call (.Name "cmp_to_key" q4) [.Lambda d c g u] [] q6,q7⟩] q8) a0) z) R E s:=by
 obtain⟨o,fd,ho,hd,c7,c8⟩:=c5;refine Bf (t:=.Name x Y) rfl rfl rfl (wpAny_Call_Name_kw (BM Gk S.F (S.gd B) g1 (.inr (Gk.bx .sorted)) ?_));refine callWith_kw ?_;rw[AN q8 z [.Name y q3] rfl];refine Av (S.F.name hy λ v rv=>AV ?_);obtain⟨l,us,n,rfl,el,lX,lz,rl⟩:∃l us n,v=.ref l/\s.heap.get? l=some (Fz us n)/\l∉X/\us.size<=Bi/\RpL W X s.heap us.toList (ns.map .str):=by
  have c9:Rp W X s.heap v (.list (ns.map .str)):=rv;cases c9 with |list e n d0 l=>exact⟨_,_,_,rfl,e,n,d0,l⟩
 refine kws_cons (BG (BM Gk S.F (S.gd B) g2 (.inl c4) ?_));rw[AN q6 z [.Lambda d c g u] rfl];refine Cm (o:=o) (fd:=fd) (A1 (Av (RG Gk L S.F (S.gd B) λ b8 b4 f d4 Q a9 _ LO=>AV ⟨⟨((S.gd B).am.trans Q).keep ho c7 c8,hd⟩,?_⟩)));have b0:=S.ac Q a9;have cf:=Zb Gk (LO [] λ a ha=>absurd ha (_)) b3 a8 m;refine CT.call (s:=#[s,b8,b4]) (k:=k) (hA.ag ∅) (b0.gd B) cf _ _ λ vK a1 H a2 b1 hK=>?_;obtain⟨K,rfl,_,KL⟩:=hK;refine kws_nil ?_;have a3:XS W V z N Z X #[s,a1,H] O:=b0.ac (tk:=H) a2 b1;have kk:=Q.trans a2;have b5:a1.get? l=some (Fz us n):=kk.keep el (_) (_);have a4:=rl.ac kk;have w:us.toList.length=ns.length:=by have:=rl.length;simpa using this
 have h:∀i,i<ns.length->∃t,us.toList.getD i .none=.str (ns.getD i Str.empty) t/\PyData.strOk (ns.getD i Str.empty)=true/\(ns.getD i Str.empty).length<=Bi:=λ i hi=>by
  have r:=OY a4 hi;generalize us.toList.getD i .none=v at r;cases r with |str _ t a b=>exact⟨t,rfl,a,b⟩
 have CO:UF (Un C m g J M c) us.toList G:=by
  refine⟨λ i j hi hj=>?_,by rw[w];exact ok,λ v hv=>?_⟩
  ·rw[w] at hi hj;obtain⟨t1,e1,o1,z1⟩:=h i hi;obtain⟨t2,e2,o2,z2⟩:=h j hj;obtain⟨v,ev,d1⟩:=c6 i j hi hj;refine⟨v,?_,d1⟩;rw[e1,e2];unfold Un;simp only;rw[Ap ⟨o1,z1,o2,z2⟩];simp only[ev]
  ·obtain⟨i,hi,e⟩:=List.mem_iff_getElem.mp hv;obtain⟨t1,e1,_⟩:=h i (by rw[<-w];exact hi);rw[Az,Bb hi] at e1;rw[<-e];have d2:us.toList[i]=_:=e1;rw[d2];rfl
 refine Wp (s:=#[s,a1,H]) (k:=k+1) (by rw[w];exact hn) KL hA (a3.gd B) a8 CO ⟨_,b5,rfl,n,(_)⟩ λ a5 a6 D c2 p gp a7 b2 hD eD=>?_;rw[w] at gp;have b9:XS W V z N Z X #[s,a5,a6] O:=a3.ac (tk:=a6) a7 b2;have d3:D∉X:=λ q=>by obtain⟨o,ho⟩:=a3.F.ah D q;have d0:a1.get? D=none:=hD;rw[d0] at ho;cases ho
 have b3:∀i∈p,i<ns.length:=λ i hi=>AD.mp ((gp.1.mem_iff).mp hi);have rp:∀q:List Nat,(∀i∈q,i<ns.length)->RpL W X a5 (q.map λ i=>us.toList.getD i .none) ((q.map λ i=>ns.getD i Str.empty).map .str):=by
  intro q;induction q with
  |nil=>intro _;exact .nil
  |cons i q ih=>intro hq;exact .cons (OY (a4.ac a7) (hq i Ac)) (ih λ j hj=>hq j (Ad _ hj))
 have rD:Rp W X a5 (.ref D) (.list ((p.map λ i=>ns.getD i Str.empty).map .str)):=by
  refine .list (vs:=(p.map λ i=>us.toList.getD i .none).toArray) eD d3 ?_ (rp p b3);have:=gp.1.length_eq;simp at this ⊢;have:=Ei;have:(6:Nat)<=Bi:={_}
  omega
 refine Eh (hA.ag (j:=0) ∅).handled B b9 (EX hx) rD λ c0 b6 c1 b7 c3=>?_;exact hQ p gp c0 b6 c1 ((Q.trans (a2.trans a7)).af.trans (b7.af λ a ha=>S.F.bo ha)) (Ab a9 (Ab b1 (Ab b2 c3)))
end
section
theorem O3 (S:XS W V z N (Y++Z) (Y++X) s O)(p:O.lookup x=some (.al (.ref i)))(h:∀y d,O.lookup y≠some (.own d))(C:∀a∈Ay z,a∈Z)(E:∀a∈Z,a∈X)(H:∀a∈Y,a∉X)(t:s.heap.get? i=some (Fz (g.map Value.ref).toArray j))(Q:i∉X)(l:g.length<=Bi)(o:ED W s.heap g f)(m:∀r∈g,r∉X):
 XS W V z N Z X s (AM O x (.aa (.list (BB f)))):=by
 have less:∀b∈X,b∈Y++X:=λ b N=>Ax _ N;refine⟨S.F.re C E (λ a w=>S.F.alive a (less a w)) (λ _ _=>rfl) (λ y n k=>?_) (λ y G d e A I=>?_),S.le,S.tk,λ a w l=>S.fr a (less a w) λ q=>?_,S.fc⟩
 ·rw[Aw] at k;split at k
  ·rename_i q;subst q;cases k;refine⟨_,p,λ v B r=>?_⟩;have e:v=.ref i:=r;subst e;obtain⟨c,rfl,D⟩:=o;exact .list t Q (by simpa using l) (by
    show RpL W X _ (g.map Value.ref).toArray.toList _;exact PU c g λ r o=>⟨m r o,D r o⟩)
  ·refine⟨n,k,λ v B r=>?_⟩;cases n with
   |aa d=>exact Rp.ag less r
   |al u=>exact r
   |bl u d=>exact⟨r.1,Rp.ag less r.2⟩
   |own d=>exact absurd k (h y d)
 ·rw[Aw] at A;split at A
  ·cases A
  ·exact absurd A (h y d)
 ·rcases Au.mp q with q |q
  ·exact H a q w
  ·exact l q
theorem cB (r:Dh W C k mg mb)(y:Cg k A)(B:XB W V z N)(S:XS W V z N Z X s O)(H:mg "isinstance"=none/\mb "isinstance"=some (.builtin "isinstance"))(D:O.lookup x=some (.aa (.list xs)))(G:Bz V "isinstance"=true)(I:Bz V "list"=true)(J:GS (By C m) V O .Or a=some false)
 (L:D7 W V z N Z X s (.next O) c):wpAny W.M A (exec (.If (.BoolOp .Or (.UnaryOp .Not (.Call (.Name "isinstance" g) [.Name x i,.Name "list" j] [] d) p::a) q) b [] f) z) c E s:=by
 refine Jz (wpAny_isTrue_BoolOp (wpAny_allTrue_Or_cons (wpAny_isTrue_Not (wpAny_isTrue_value ?_))));refine BG (BM r S.F (S.gd B) G (.inr H) ?_);rw[AN d z _ rfl];refine Fr rfl (A1 (Av (S.F.name D λ v M=>Av (BM r S.F (S.gd B) I (.inr (r.bx .list)) (AV ?_)))));have t:Rp W X s.heap v (.list xs):=M;cases t with |list e n R l=>
 refine IsiPair.list_list (prog:=W.prog) (w:=W.w) e rfl (CV ?_);simp only[HK,Aq,AS];refine Lz (A2 r y m) a s S.F (S.gd B) J _ _ λ T Q w h o u=>?_;subst u;simp only[Aq,AS];exact AZ (L Q w (S.ac h o) h.af o)
theorem VO (u:Dh W C k mg mb)(v:Cg k A)(F:FI W V z Z X s.heap O)(G:Gd W s)(x:Bk a=true)(y:Bk b=true)(B:(By C m).ev V O a=some d)(D:(By C m).ev V O b=some e)
 (I:∀q r t,A8 W s.heap q->s.toks<=r->s.heap.get? t=none->Rp W X q (.ref t) (.ay [d,e])->Q (.ref t) #[s,q,r]):wpAny W.M A (eval (.Tuple [a,b] f c) z) Q E s:=by
 have H:=A2 u v m;rw[Lx,AN c z _ (by show(Bk a&&(Bk b&&true))=true;rw[x,y];rfl)];refine Aa (AI (Aa ?_));refine Av ((H V z).ev O a _ B Z X s F G _ _ λ v1 l g h o J=>?_);refine Av ((H V z).ev O b _ D Z X #[s,l,g] (F.ac h) (G.step h o) _ _ λ v2 w i N n L=>AV ?_);have j:A8 W s.heap w:=h.trans N;have p:=F.ac j;refine Bj (I _ i w.objs.size (j.trans (.push _ _)) (Ab o n) (E5 j (Bl _)) (.ay (Ar _ rfl) (HC p.ah) (by simp[Bi]) (.cons ((J.ac N).ac (.push _ _)) (.cons (L.ac (.push _ _)) .nil)))) (by show 2<=sizeLine;simp[sizeLine])
theorem Wz {d1 d2:PV}{kk:Nat}{a0 q1 q2 q7 q8:Pos}{I:List PV}{U:Expr}{y:List Env}{D:List Str}{p:Arguments}{x:Str}{T:AC}(Gk:Dh W C k mg mb)(hA:Cg (k+2) A)(B:XB W V z N)(f5:V5 W A z N y)(S:XS W V z N Z X s O){M:Addr}(R:Uy W mg mb M)(d8:mg "reduce"=some (.ref M))(c2:W.h0.NoLimit)
 {c:Expr} {g:Scope} {u:Pos} (L:UA W mg V z O p c g u D T) (d9:D.length=2) {m:Nat} {j G:Expr} (c3:(By C m).ev V O j=some (.list I)) (e0:Bk j=true) (n1:Bk G=true) (n2:Bk U=true) (h1:(By C m).ev V O G=some d1) (h2:(By C m).ev V O U=some d2)
 {st:Nat->PV} (e3:st 0=.ay [d1,d2]) (e4:∀i x,I[i]? =some x->(By C m).ev g (D.zip [.aa (st i),.aa x]++T) c=some (st (i+1))) (hx:AR V x=true) (g1:Bz V "reduce"=true)
  {Y:Flow->Shared->Prop} (hQ:D7 W V z N Z X s (.next (AM O x (.aa (st I.length)))) Y):
 wpAny W.M A (exec (.Assign [.Name x q1] (.Call (.Name "reduce" q2) [.Lambda p c g u,j,.Tuple [G,U] kk q7] [] q8) a0) z) Y E s:=by
 have b8:Cg k A:=hA.ag ∅;obtain⟨e5,_,_,_,_,_,_,_,_,_,_,_,_,_,_,_,_,_,_,_,_,_,_,_,_,c4,_⟩:=R.ex;obtain⟨e6,c5,e7,c6,c7⟩:=c4.obj;refine Bf (t:=.Name x q1) rfl rfl rfl (BG (BM Gk S.F (S.gd B) g1 (.inl d8) ?_));rw[AN q8 z _ (by show(true&&(Bk j&&(true&&true)))=true;rw[e0];rfl)];refine Cm (o:=e6) (fd:=e5) (A1 (Av (RG Gk L S.F (S.gd B) λ c8 b9 f a5 b1 b2 cX e8=>?_)));have a6:=S.ac b1 b2;have LO:=e8 X λ a ha=>ha;refine Av ((A2 Gk b8 m V z).ev O j _ c3 Z X #[s,c8,b9] a6.F (a6.gd B) _ _ λ tv b3 a3 a7 b4 rt=>?_);have a1:XS W V z N Z X #[s,b3,a3] O:=a6.ac (tk:=a3) a7 b4;refine Av (VO (s:=#[s,b3,a3]) Gk b8 a1.F (a1.gd B) n1 n2 h1 h2 λ w a4 t a2 b5 ht rT=>?_);have Q:XS W V z N Z X #[s,w,a4] O:=a1.ac (tk:=a4) a2 b5;refine AV ⟨⟨((B.am.trans a1.le).trans a2).keep c5 c6 c7,e7⟩,?_⟩;have a8:=(LO.ac a7).ac a2;have e9:∃o,w.get? t=some o:=by cases rT with |ay e _ _ _=>exact⟨_,e⟩
 obtain⟨c9,pr,pm,cd,ct,f0,_⟩:=a8.obj;have St:On W (k+1) none X (.ref f) I (Gh w none) (λ i v h=>Rp W X h v (st i)):=by
  refine⟨λ i v h h' hk r=>r.bc λ b o e n hd=>⟨hk b o e hd,n⟩,λ i v h _ B q=>(nomatch q),⟨f,Qh "<lambda>" c9 pr c g a5 pm cd ct,rfl,λ h H=>⟨_,H.keep f0 (_) (_),rfl⟩⟩,λ A' s' i v e x l f1 f6 f7 G' H' f2 hJ rx Q' E' f3=>?_⟩;have d0:A8 W w s'.heap:=H';have LX:Op W s'.heap X f c g D a5 T:=a8.ac d0;have up:∀{v d},Rp W X s'.heap v d->Rp W (a5.map (·.2)++X) s'.heap v d:=λ r=>r.ag λ a ha=>(Au.mp ha).elim (cX a) id
  refine RH Gk LX c2 f1 G' (λ b N=>⟨(Q.F.alive b N).1,AP d0 (Q.F.alive b N).2⟩) (args:=[.aa (st i),.aa x]) (.aa (up hJ) (.aa (up rx) .nil)) d9.symm (e4 i x f2) _ _ λ v' h' tk k l' r=>?_;exact f3 v' h' tk k l' (r.ag λ a ha=>Ax _ ha)
 have f4:Cg (k+1+1) A:=hA;refine L7 (s:=#[s,w,a4]) (ob:=none) (X:=X) Gk R f4 (Q.gd B) Q.F.alive (rt.ac a2) (λ B' q=>nomatch q) f5.fr (f5.stack Q) (t:=t) ⟨Dx (a1.gd B).am ht,e9⟩ St (by rw[e3];exact rT) λ b6 a9 v d3 b7 J=>?_;have b0:A8 W w b6:=d3;have d4:XS W V z N Z X #[s,b6,a9] O:=Q.ac (tk:=a9) b0 b7;refine Eh b8.handled B d4 (EX hx) J λ d5 c0 d6 c1 d7=>?_;exact hQ d5 c0 d6 ((b1.trans (a7.trans (a2.trans b0))).af.trans (c1.af λ a ha=>S.F.bo ha)) (Ab b2 (Ab b4 (Ab b5 (Ab b7 d7))))
end
theorem YK (f:Str×Value->PUnit->Sem (ForInStep PUnit))(V:∀n v u,f (n,v) u=(do storeName z n v;pure (.yield ⟨⟩)))(W:z.scope.kind=.function)
 (x:InCallC s₀ z.locals m z.cells cm s) (Z:CF z s.heap) (C:z.kindOf n=some .local)
 (d:∀w,InCallC s₀ z.locals (bindL z.kindOf [(n,v)] m) z.cells (bindC z.kindOf [(n,v)] cm) w->CF z w.heap->1<=w.toks->a ⟨⟩ w):wpAny M A (forIn [(n,v)] ⟨⟩ f) a E s:=by
 obtain⟨O,i,rfl⟩:=id x.toInCall.same;rw[Bt,V];refine Aa (Aa (B6 C x.toInCall.ns (λ g H h N=>Af ?_) (by rw[W];rfl)));show wpAny M A (forIn [] _ _) _ E _;rw[Fv];refine Af (d _ ⟨⟨⟨g,_,rfl⟩,?_,λ b o e=>?_,x.toInCall.fresh⟩,λ k c Q=>?_,x.apart,x.above⟩ (Z.bi N) (Nat.le_add_left _ _))
 ·have e:bindL z.kindOf [(n,v)] m=λ y=>if y=n then some v else m y:=by
   unfold bindL;simp only[C,A0];rfl
  rw[e];exact H
 ·exact h.extBut b o (BU (C3 (AO e) x.toInCall.fresh)) (x.toInCall.keep b o e)
 ·have e:bindC z.kindOf [(n,v)] cm=cm:=by
   unfold bindC;simp only[C,A0];rfl
  rw[e];exact(x.cell k c Q).sameBut h (Cy (x.above k c (mem_of_lookup Q)))
theorem YS {v:Value}{g:Str}{M:Model}{a:Scope}{globals:Addr}{n:Str}{f:Option Addr}{code:Value}{d:Addr}{i:Env->Shared->Prop}(O:a.kind=.function)(Q:a.names.lookup n=some .local)
 (V:∀h,h=newEnv a s.heap.objs.size globals (cellsFrom (s.heap.objs.size+1) a.names []) g f code none d->
  ∀k,InCallC s h.locals (bindL h.kindOf [(n,v)] λ _=>none) h.cells (bindC h.kindOf [(n,v)] λ _=>none) k->CF h k.heap->1<=k.toks->i h k):
 wpAny M A (newFunctionEnv a globals [] [(n,v)] g f code none d) i E s:=by
 simp only[newFunctionEnv,Option.isSome_none,Aq,AS];refine Aa (MG ?_);refine Aa (wpAny_layCells _ (λ name w C=>by cases H:w==NameKind.cell<;>simp[H]) _ _ _ _ ?_);have z:=cellsFrom_ok a.names (s.heap.push {cls:=.type "frame",data:=.dict #[]}) (s.heap.objs.size+1) [] ⟨λ _ _ N=>(nomatch N),List.Pairwise.nil⟩ (by rw[Bh];exact Am _);rw[Bh] at z;rw[show({s with heap:=s.heap.push {cls:=.type "frame",data:=.dict #[]}}:Shared).heap.objs.size=s.heap.objs.size+1 from Bh ..];refine Aa (YK (s₀:=s) (z:=newEnv a s.heap.objs.size globals (cellsFrom (s.heap.objs.size+1) a.names []) g f code none d) _ (λ _ _ _=>rfl) O (m:=λ _=>none) (cm:=λ _=>none)
  ⟨⟨⟨_,_,rfl⟩,(Heap.Ns.new s.heap (.type "frame")).keeps (C6 _ _),λ b o e=>C6 _ _ b o (Ai _ e),Am _⟩,
    λ n c W=>(z.empty n c (mem_of_lookup W)).1,z.apart,λ n c N=>(z.empty n c N).2⟩
  ⟨_,_,_,C6 _ _ _ _ (Ar _ rfl),rfl,rfl⟩ Q λ k x Z l=>Af (V _ rfl k x Z l))
theorem Vm (H:EF W a fd [n] g)(S:fd.scope.names.lookup n=some .local)(T:Cg (k+1) A)(z:A8 W W.h0 s.heap)(l:W.dc s.heap)(r:Rp W [] s.heap v d)
 (U:∀(w:Env)(C:Heap)(h:Nat),w=callEnvC fd s.heap.objs.size a->XB W fd.scope w s.heap->XS W fd.scope w s.heap (Ay w) (Ay w) #[s,C,h] [(n,.aa d)]->
  wpAny W.M (A.deeper w) (execs g w) (λ f N=>Q (match f with | .ret v=>v |_=>.none) N) (λ e N=>wpAny W.M (A.deeper w) (leaving w e) (λ _ O=>E e O) (λ Y O=>E Y O) N) #[s,C,h]):
 wpAny W.M A (call (.ref a) [v]) Q E s:=by
 obtain⟨o,ho,V,D,G⟩:=H.obj;obtain⟨c,oc,vs,t,Z,I,J,m,p,u⟩:=H.code;have L:=z.keep ho D G;have M:s.heap.CodeRec fd.code fd.qualname:=⟨c,oc,vs,t,Z,z.keep I p u,J,m⟩;have B:s.heap.NoLimit:=let⟨mc,h1,h2⟩:=H.ki;⟨mc,B2 z h1,h2⟩;have i:A.depth<recursionLimit:=by have:=T.depth;show A.depth<1000;omega
 refine B7 (Sg i L V H.co H.bc H.body M ?_);refine H.bind [v] s z rfl _ _ _ _ ?_;rw[H.jc];show wpAny (model W.prog W.w) A.in1 (newFunctionEnv fd.scope fd.globals [] [(n,v)] _ _ _ none fd.builtins) _ _ s;refine YS H.kind S λ w he N x fc R=>?_;subst he;refine⟨B.keeps x.toInCall.keep,codeAny_func ?_⟩;have G0:Gd W {s with toks:=max s.toks 1}:=⟨z,l,Nat.le_max_right _ _⟩;have x0:InCallC {s with toks:=max s.toks 1} (callEnvC fd s.heap.objs.size a).locals (bindL (callEnvC fd s.heap.objs.size a).kindOf (([n]:List Str).zip [v]) λ _=>none) (callEnvC fd s.heap.objs.size a).cells (bindC (callEnvC fd s.heap.objs.size a).kindOf (([n]:List Str).zip [v]) λ _=>none) N:=by
  obtain⟨⟨⟨C,h,e⟩,i2,i3,i4⟩,i5,i6,i7⟩:=x;exact⟨⟨⟨C,h,e⟩,i2,i3,i4⟩,i5,i6,i7⟩
 have F:=RX (X:=[]) H G0 (λ b j=>nomatch j) (ID.fj (.cons r .nil)) x0;obtain⟨C,h,e⟩:=x.toInCall.same;subst e;have fresh:∀b∈Ay (callEnvC fd s.heap.objs.size a),s.heap.get? b=none:=λ b j=>by
  rcases Ag.mp j with q |q
  ·rw[q];exact Bl s.heap
  ·obtain⟨⟨n,c⟩,hm,rfl⟩:=At.mp q;exact Fn (Jl (x.above n c hm))
 rw[Cj] at F;refine BP (U (callEnvC fd s.heap.objs.size a) C h rfl ⟨z,l,λ b j=>fresh b ?_⟩ ⟨F,.ad x.toInCall.keep,R,λ b j hz=>absurd j hz,fc⟩) (λ f N m=>?_) λ e N m=>m
 ·rcases j with rfl |⟨y,_,hy⟩
  ·exact Ac
  ·exact Bq hy
 ·exact m
variable {a f:Addr}{v:Value}{b:PV}{d:List Value}{c i n:Nat}{t:Expr}{j:List Comprehension}{l:List Env}{p:JV} in
def L9:Nat->Expr->List (Pos×Nat)
 |0,_=>[]
 |n+1,e=>
  let o:Option Expr->List (Pos×Nat):=λ x=>(x.map (L9 n)).getD []
  let l:List Expr->List (Pos×Nat):=λ h=>h.flatMap (L9 n)
  match e with
  | .BoolOp _ h p=>l h++[(p,0)]
  | .BinOp a _ b p=>L9 n a++L9 n b++[(p,0)]
  | .UnaryOp _ a p=>L9 n a++[(p,0)]
  | .IfExp a b c p=>L9 n a++L9 n b++L9 n c++[(p,0)]
  | .Dict s d p=>s.flatMap o++l d++[(p,0)]
  | .Compare a _ b p=>L9 n a++l b++[(p,0)]
  | .Call f a k p=>L9 n f++l a++k.flatMap (λ q=>match q with |⟨_,v,w⟩=>L9 n v++[(w,0)])++[(p,0)]
  | .Constant _ k p=>[(p,k)]
  | .Attribute a _ p=>L9 n a++[(p,0)]
  | .Subscript a b p=>L9 n a++L9 n b++[(p,0)]
  | .Name _ p=>[(p,0)]
  | .List h p=>l h++[(p,0)]
  | .Tuple h k p=>l h++[(p,k)]
  | .Slice a b c p=>o a++o b++o c++[(p,0)]
  | .ListComp a j _ p=>L9 n a++j.flatMap (λ g=>match g with |⟨t,i,f,_⟩=>L9 n t++L9 n i++l f)++[(p,0)]
  | .Lambda _ b _ p=>L9 n b++[(p,0)]
  |_=>[]
variable {v:Value}{b:PV}{c i n:Nat}{q:Pos}{t:Expr}{a:Heap}{l:List Env}{y:Str}{p:JV} in
def iJ:Nat->Stmt->List (Pos×Nat)
 |0,_=>[]
 |n+1,s=>
  let o:Option Expr->List (Pos×Nat):=λ x=>(x.map (L9 n)).getD []
  let l:List Expr->List (Pos×Nat):=λ k=>k.flatMap (L9 n)
  let b:List Stmt->List (Pos×Nat):=λ k=>k.flatMap (iJ n)
  match s with
  | .Return v p=>o v++[(p,0)]
  | .Delete w p=>l w++[(p,0)]
  | .Assign w v p=>l w++L9 n v++[(p,0)]
  | .For t i x y p=>L9 n t++L9 n i++b x++b y++[(p,0)]
  | .While t x y p=>L9 n t++b x++b y++[(p,0)]
  | .If t x y p=>L9 n t++b x++b y++[(p,0)]
  | .Raise e c p=>o e++o c++[(p,0)]
  | .Try x a y z p=>b x++a.flatMap (λ h=>match h with | .ExceptHandler t _ q p=>o t++b q++[(p,0)])++b y++b z++[(p,0)]
  | .Expr e p=>L9 n e++[(p,0)]
  | .Break p=>[(p,0)]
  | .Pass p=>[(p,0)]
  | .ClassDef _ A _ _ _ _ _ _ _ _ p=>l A++[(p,0)]
  |_=>[]
def eQ (i:Nat):Pos:=⟨i,999999,0,0⟩
def gE (b:List Stmt):List (Pos×Nat):=b.flatMap (iJ 20)
def H1 (h:(Nat->Pos)->List Stmt)(k:List Stmt)(i:Nat):Pos:=
 (((gE (h eQ)).zip (gE k)).find? λ q=>q.1.1.line==i&&q.1.1.col==999999).elim ⟨0,0,0,0⟩ λ q=>q.2.1
def aC (h:(Nat->Nat)->List Stmt)(k:List Stmt)(i:Nat):Nat:=
 (((gE (h λ i=>i+1000000)).zip (gE k)).find? λ q=>q.1.2==i+1000000).elim 0 λ q=>q.2.2
def VK (K:Frag)(a:Addr):FuncData:=match K.lookup a with
 |some o=>(match o.data with | .func fd=>fd |_=>default)
 |none=>default
variable {r:List Stmt}{x:Str} in
def Nk:List Str->Bool
 |[]=>true
 |x::r=>!r.contains x&&Nk r
theorem I4:∀{l:List Str},Nk l=true->l.Nodup
 |[],_=>.nil
  |x::r,h=>by
   unfold Nk at h;rw[Ah] at h;refine CN.mpr ⟨λ q=>?_,I4 h.2⟩;rw[Hr.mpr q] at h;cases h.1
variable {b:List Value}{c:Nat}{q:Pos} in
def Uk (K:Frag)(a:Addr)(h:List Str):Bool:=match K.lookup a with
 |some o=>(match o.data with
  | .func fd=>(o.cls== .type "function")&&(match fd.code with
   | .ref c=>(match K.lookup c with
     |some k=>(k.cls== .type "code")&&(match k.data with
      | .fields b=>(match(b[1]? :Option Value) with |some (.str q _)=>q==fd.qualname |_=>false)
      |_=>false)
     |none=>false)
   |_=>false)&&fd.closure.isEmpty&&!fd.scope.isCoroutine&&!fd.scope.isGenerator&&(fd.scope.kind== .function)&&(fd.globals==mainGlobals)&&(fd.builtins==builtinsNs)&&
   h.all (λ x=>CC x&&(fd.scope.names.lookup x==some .local||fd.scope.names.lookup x==some .cell))&&Nk h&&Nk (fd.scope.names.map (·.1))&&fd.scope.names.all (λ p=>!(p.2== .free))
  |_=>false)
 |none=>false
theorem DP {a:Addr}{b:List Stmt}{d:List Str}{K:Frag}(I:K.In W.h0)(N:W.h0.NoLimit)(z:Uk K a d=true)(i:(VK K a).body=.stmts b)
 (h:∀(k:List Value)(s:Shared),A8 W W.h0 s.heap->k.length=d.length->BindsTo s (VK K a) ⟨k,[]⟩ (d.zip k)):EF W a (VK K a) d b:=by
 unfold Uk at z;split at z
 ·rename_i o j;split at z
  ·rename_i l hd;have O:VK K a=l:=by unfold VK;rw[j];simp only[hd]
   simp only[Ah] at z;obtain⟨⟨⟨⟨⟨⟨⟨⟨⟨⟨⟨n,C⟩,p⟩,r⟩,u⟩,v⟩,y⟩,B⟩,D⟩,Q⟩,V⟩,Z⟩:=z;have w:o.cls=.type "function":=Bo n;split at C
   ·rename_i c A;split at C
    ·rename_i m e;simp only[Ah] at C;obtain⟨G,E⟩:=C;have H:m.cls=.type "code":=Bo G;split at E
     ·rename_i J L;split at E
      ·rename_i q t M;have f:q=l.qualname:=Bo E;subst f;rw[O] at i h ⊢;exact⟨⟨o,I _ _ j,hd,by rw[w];simp,by rw[w];simp⟩,⟨c,m,J,t,A,I _ _ e,L,M,by rw[H];simp,by rw[H];simp⟩,i,h,List.isEmpty_iff.mp p,by simpa using r,by simpa using u,Bo v,Bo y,Bo B,
        λ x g=>by
         have:=AJ.mp D x g;rw[Ah,BN] at this;exact⟨this.1,this.2.imp Bo Bo⟩,I4 Q,I4 V,λ x g=>by
         have:=AJ.mp Z (x,.free) (mem_of_lookup g);simp at this,N⟩
      ·cases E
     ·cases E
    ·cases C
   ·cases C
  ·cases z
 ·cases z
abbrev P1:Program:=PySem.Challenge.pw_oy0180_01
variable {c d e a:Pos} in
def HF (b:List Stmt):List Stmt×Scope×Pos×Pos×Pos×Pos:=match b with
 | .ClassDef _ [.Name _ c] _ h _ _ V _ _ _ a::.Return (some (.Name _ d)) e::_=>(h,V,a,c,d,e)
 |_=>([],default,default,default,default,default)
def Ie:List Stmt:=Bp P1 1
def Vr:List Stmt:=(HF Ie).1
def Xm:Scope:=(HF Ie).2.1
def Zf:Pos:=(HF Ie).2.2.1
def iM:Pos:=(HF Ie).2.2.2.1
def iL:Pos:=(HF Ie).2.2.2.2.1
def iK:Pos:=(HF Ie).2.2.2.2.2
def SX:List Str:=["__init__","__lt__","__gt__","__eq__","__le__","__ge__"]
def T5:Str:="cmp_to_key.<locals>.K"
theorem X3:Ie=[.ClassDef "K" [.Name "object" iM] [] Vr [] [] Xm none "K" ["obj"] Zf,.Return (some (.Name "K" iL)) iK]:=⋯
def rK (h:Addr)(i:Nat):FM:=(CY h Vr).getD i ⟨"","","",default,default,[],default,default,[]⟩
theorem PX (h:Addr):CY h Vr=[rK h 0,rK h 1,rK h 2,rK h 3,rK h 4,rK h 5]:=⋯
theorem gQ {g:Type}{P:g->Prop}{a b c d e f:g}(k:P a)(o:P b)(s:P c)(w:P d)(z:P e)(A:P f):∀x∈[a,b,c,d,e,f],P x:=λ x h=>by
 simp only[Ag,Ev,OE] at h;rcases h with rfl |rfl |rfl |rfl |rfl |rfl<;>assumption
theorem GI {k:NameKind}(h:V.names.all (λ p=>!(p.2==k))=true):∀x,V.names.lookup x≠some k:=λ x e=>by
 have:=AJ.mp h (x,k) (mem_of_lookup e);simp at this
theorem fM (h:Env)(w:Addr)(z:h.cells.lookup ("mycmp":Str)=some w):closureFor Xm h=pure [(("mycmp":Str),w)]:=by
 have e:E7 h Xm.names []=[(("mycmp":Str),(h.cells.lookup ("mycmp":Str)).getD 0)]:=⋯
 rw[Hk,e,z];· rfl
 intro p o s;have k:∀p∈Xm.names,p.2=.free->p.1="mycmp":=by
  have:Xm.names.all (λ p=>!(p.2== .free)||p.1=="mycmp")=true:={_}
  intro p o s;have:=AJ.mp this p o;rw[s] at this;simpa using this
 rw[k p o s,z];rfl
def aG (q:Nat->Pos)(h:Nat->Nat):List Stmt:=.Assign [.Name "__module__" (q 0)] (.Constant (.str "") (h 0) (q 1)) (q 2)::.Assign [.Name "__slots__" (q 3)] (.List [.Constant (.str "") (h 1) (q 4)] (q 5)) (q 6)::((CY 0 Vr).map FM.dn++[.Assign [.Name "__hash__" (q 7)] (.Constant .none (h 2) (q 8)) (q 9)])
def kQ:Nat->Pos:=H1 (λ q=>aG q λ _=>0) Vr
def kN:Nat->Nat:=aC (aG λ _=>default) Vr
theorem bY:UB Vr Xm T5 "cpy313.functools" "obj" SX where
 s1:=⋯
 s2:=⋯
 kind:=⋯
 nn:=⋯
 cq:=by
  have:Co.all (λ x=>(Xm.kind== .class&&(Xm.names.lookup x==some .local||(Xm.names.lookup x==none&&compilersOwnNames.contains x))))=true:={_}
  intro x A;exact AJ.mp this x (by simpa using A)
 kr:=⋯
 body:=⟨kN 0,kN 1,kN 2,kQ 0,kQ 1,kQ 2,kQ 3,kQ 4,kQ 5,kQ 6,kQ 7,kQ 8,kQ 9,λ z=>⋯⟩
 qf:=λ n=>by
  have:=GI (V:=Xm) (k:=.globalExplicit) {_} n;simpa using this
 jc:=fM
 fz:=λ z=>by
  rw[PX];refine gQ ⟨⋯,λ k o q s f w=>⋯,⋯⟩ ⟨⋯,λ k o q s f w=>⋯,⋯⟩ ⟨⋯,λ k o q s f w=>⋯,⋯⟩ ⟨⋯,λ k o q s f w=>⋯,⋯⟩ ⟨⋯,λ k o q s f w=>⋯,⋯⟩ ⟨⋯,λ k o q s f w=>⋯,⋯⟩
 jf:=λ z=>⋯
 nd:={_}
 pw:=λ z=>by
  have e:(CY z Vr).map (λ r=>(r.pos.line,r.pos.col))=(CY 0 Vr).map (λ r=>(r.pos.line,r.pos.col)):=⋯
  have d:((CY 0 Vr).map λ r=>(r.pos.line,r.pos.col)).Nodup:={_}
  rw[<-e] at d;have:=List.pairwise_map.mp d;exact this.imp λ{a b} h q=>h (by rw[q.1,q.2])
 jl:={_}
 ko:={_}
 jz:=⟨{_},{_},{_},⋯,⋯,{_},{_},{_},{_},{_},{_}⟩
 abs:=λ x A=>by
  rcases A with rfl |rfl |rfl |rfl |rfl |rfl |rfl<;>decide+kernel
 jk:={_}
 jg:=Vu
theorem W0 (r:FM)(w:(!r.sc.isCoroutine&&!r.sc.isGenerator&&(r.sc.kind== .function)&&r.sc.names.all (λ p=>!(p.2== .cell))&&CC r.x&&CC r.y&&(r.sc.names.lookup r.x==some .local)&&(r.sc.names.lookup r.y==some .local)&&!(r.x==r.y))=true)
 (z:∀(h:Str)(k:List (Str×Addr))(A C E a b:Value),bindArgs (Tm r.name h (Jn r.x r.y r.px r.py) r.body r.sc k A C E) ⟨[a,b],[]⟩=pure [(r.x,a),(r.y,b)]):Sq r:=by
 simp only[Ah] at w;obtain⟨⟨⟨⟨⟨⟨⟨⟨H,N⟩,O⟩,Q⟩,V⟩,W⟩,Z⟩,c⟩,d⟩:=w;have s:r.x≠r.y:=by simpa using d
 refine⟨by simpa using H,by simpa using N,Bo O,λ x o q=>?_,λ x o=>?_,?_,z⟩
 ·have:=AJ.mp Q x o;rw[q] at this;cases this
 ·simp only[Ag,Ev,OE] at o;rcases o with rfl |rfl
  ·exact⟨V,Bo Z⟩
  ·exact⟨W,Bo c⟩
 ·simp[s]
theorem aP (r:FM)(h:Addr)(k:CmpOp)(T:Sq r)(o:(r.sc.names.lookup ("mycmp":Str)==some .free&&r.sc.names.all (λ p=>!(p.2== .free)||p.1=="mycmp")&&!(r.x==r.y)&&!(r.x=="mycmp")&&!(r.y=="mycmp"))=true)(s:r.clos=[(("mycmp":Str),h)])
 (w:∃z A C E H N O Q V,∃W:Nat,r.body=[.Return (some (.Compare (.Call (.Name "mycmp" z) [.Attribute (.Name r.x A) "obj" C,.Attribute (.Name r.y E) "obj" H] [] N) [k] [.Constant (.int 0) W O] Q)) V]):Z0 r h k:=by
 simp only[Ah] at o;obtain⟨⟨⟨⟨Z,a⟩,b⟩,c⟩,d⟩:=o;refine⟨T,s,Bo Z,λ x e=>?_,⟨by simpa using b,by simpa using c,by simpa using d⟩,w⟩;have:=AJ.mp a (x,.free) (mem_of_lookup e);simpa using this
def mP (r:FM):Nat->Pos:=H1 (λ p=>[.Assign [.Attribute (.Name r.x (p 0)) "obj" (p 1)] (.Name r.y (p 2)) (p 3)]) r.body
def mC (r:FM):Nat->Pos:=H1 (λ p=>[.Return (some (.Compare (.Call (.Name "mycmp" (p 0)) [.Attribute (.Name r.x (p 1)) "obj" (p 2),.Attribute (.Name r.y (p 3)) "obj" (p 4)] [] (p 5)) [.Lt] [.Constant (.int 0) 0 (p 6)] (p 7))) (p 8)]) r.body
theorem bZ:UC Vr SX where
 abs:=⟨{_},{_},{_}⟩
 init:=λ h=>⟨rK h 0,by rw[PX];simp,⋯,W0 _ ⋯ (λ _ _ _ _ _ _ _=>⋯),⋯,GI ⋯,by
  have:((rK h 0).x==(rK h 0).y)=false:=⋯
  simpa using this,mP (rK h 0) 0,mP (rK h 0) 1,mP (rK h 0) 2,mP (rK h 0) 3,⋯⟩
 lt:=λ h=>⟨rK h 1,by rw[PX];simp,⋯,aP _ _ _ (W0 _ ⋯ λ _ _ _ _ _ _ _=>⋯) ⋯ ⋯ ⟨mC (rK h 1) 0,mC (rK h 1) 1,mC (rK h 1) 2,mC (rK h 1) 3,mC (rK h 1) 4,mC (rK h 1) 5,mC (rK h 1) 6,mC (rK h 1) 7,mC (rK h 1) 8,0,⋯⟩⟩
 gt:=λ h=>⟨rK h 2,by rw[PX];simp,⋯,aP _ _ _ (W0 _ ⋯ λ _ _ _ _ _ _ _=>⋯) ⋯ ⋯ ⟨mC (rK h 2) 0,mC (rK h 2) 1,mC (rK h 2) 2,mC (rK h 2) 3,mC (rK h 2) 4,mC (rK h 2) 5,mC (rK h 2) 6,mC (rK h 2) 7,mC (rK h 2) 8,0,⋯⟩⟩
def Yi (A z C E:Addr)(w:Pos)(h:Str)(k H:List (Pos×Str))(s:Heap):Prop:=
 (∃o,BW s A z o/\MX s z o w h k)/\(∃o,BW s C E o/\M0 s o H)
theorem JX (T:BW h c P a)(C:∀b o z,h.get? b=some o->o.data=.fields z->(o.cls=.none\/o.cls=.type "code")->H.get? b=some o):BW H c P a:=by
 obtain⟨o,z,s,N,k,O,A,w,Q,V,E,hd,r⟩:=T.hd;exact⟨⟨o,z,s,N,k,O,A,w,Q,C _ _ _ V hd (.inr E),E,hd,r⟩,C _ _ _ T.bh rfl (.inl rfl),T.ok⟩
theorem Ih (x:Bd h f q)(w:∀b o k,h.get? b=some o->o.data=.fields k->(o.cls=.none\/o.cls=.type "code")->H.get? b=some o):Bd H f q:=
 let⟨c,o,k,t,a,b,s,d,e⟩:=x;⟨c,o,k,t,a,w _ _ _ b d (.inr s),s,d,e⟩
theorem UP (C E:Heap)(k:∀b o H,C.get? b=some o->o.data=.fields H->(o.cls=.none\/o.cls=.type "code")->E.get? b=some o)
 (T:Yi e f g i d c a j C):Yi e f g i d c a j E:=by
 obtain⟨⟨N,O,Q⟩,V,W,Z⟩:=T;refine⟨⟨N,JX O k,λ s h=>?_⟩,V,JX W k,λ r w s h=>Ih (Z r w s h) k⟩;obtain⟨l,m,z,n,p,q,t,u⟩:=Q s h;exact⟨l,m,z,n,JX p k,q,Ih t k,λ r w=>let⟨A,v,x⟩:=u r w;⟨A,v,Ih x k⟩⟩
theorem FL:∀(l m:List Value),codeAmong e l=some c->codeAmong e (l++m)=some c
 | .int a t1::.int b s::d::k,m,h=>by
    show(if a==e.line&&b==e.col then some d else codeAmong e (k++m))=some c;have o:(if a==e.line&&b==e.col then some d else codeAmong e k)=some c:=h;split at o
    ·rename_i q;rw[Ap q];exact o
    ·rename_i q;rw[Ak q];exact FL k m o
  |[],m,h=>by cases h
  |[a],m,h=>by cases a<;>cases h
  |[a,b],m,h=>by cases a<;>cases b<;>cases h
  |a::b::d::k,m,h=>by
   cases a<;>first |(cases h;done) |skip
   cases b<;>first |(cases h;done) |skip
   rename_i a t1 b s;show(if a==e.line&&b==e.col then some d else codeAmong e (k++m))=some c;have o:(if a==e.line&&b==e.col then some d else codeAmong e k)=some c:=h;split at o
   ·rename_i q;rw[Ap q];exact o
   ·rename_i q;rw[Ak q];exact FL k m o
theorem Ze (A:W.dc=Yi g c c2 p2 f d a i)(C:c∈W.TB)(E:c2≠c)(H:p2≠c):Yn W g c f d a where
 mem:=C
 get:=λ h t=>by rw[A] at t;exact t.1
 fg:=λ h l s t k T G=>by
  rw[A] at t ⊢;obtain⟨⟨m,N,n⟩,O,Q,V⟩:=t;exact⟨⟨s,T,G⟩,O,Q.extBut (λ b o w e=>k b o w e) E H,λ r Z j z=>(V r Z j z).ext N λ b o w e=>k b o w e⟩
theorem Zc (y:W.dc=Yi c1 p1 g c j i d f)(Y:c∈W.TB)(n1:c1≠c)(n2:p1≠c)(m:∀a∈f,∀b∈f,a.1.line=b.1.line->a.1.col=b.1.col->a=b):ZX W g c f where
 mem:=Y
 jl:=m
 get:=λ h t=>by rw[y] at t;exact t.2
 fg:=λ h h' ps s t hP k T G=>by
  rw[y] at t ⊢;obtain⟨⟨qs,T1,G1⟩,a0,Z,G2⟩:=t;have N:Heap.ExtBut c h h':=λ b o hb e=>k b o hb e;refine⟨⟨qs,T1.extBut N n1 n2,λ cv n=>?_⟩,_,T,G⟩;obtain⟨p,u,w,B,l,D,I,J⟩:=G1 cv n;have Q:p≠c:=λ q=>by
   obtain⟨o,L,C,M,A,R,V,E,S,H,hc,_⟩:=l.hd;rw[q,hP] at H;cases H;cases hc
  by_cases U:u=c
  ·subst U;have:w=ps:=by
    have z:=l.bh;rw[hP] at z;injection z with z;injection z with _ _ z;injection z with z;exact z.symm
   subst this;refine⟨p,u,w++s,B,⟨?_,T.bh,T.ok⟩,D,I.ext Z N,λ r v=>?_⟩
   ·obtain⟨o,L,C,M,A,R,V,E,S,H,r⟩:=l.hd;exact⟨o,L,C,M,A,R,V,E,S,N _ _ Q H,r⟩
   ·obtain⟨O,H,x⟩:=J r v;refine⟨O,?_,x.ext Z N⟩;have:(w++s).toList=w.toList++s.toList:=(_)
    rw[this];exact FL _ _ H
  ·exact⟨p,u,w,B,l.extBut N Q U,D,I.ext Z N,λ r v=>let⟨O,H,x⟩:=J r v;⟨O,H,x.ext Z N⟩⟩
def MQ:List Stmt:=Bp P1 42
def Cx (i:Nat):Stmt:=MQ.getD i (.Pass default)
variable {a:Addr}{b d:PV}{c:Nat} in
def KH:Arguments×Expr×Scope×Pos:=match Cx 22 with
 | .Assign _ (.Call _ _ [⟨_,.Call _ [.Lambda a b c d] _ _,_⟩] _) _=>(a,b,c,d)
 |_=>default
variable {a:Addr}{b d:PV}{c:Nat} in
def GJ:Arguments×Expr×Scope×Pos:=match Cx 29 with
 | .Assign _ (.Call _ [.Lambda a b c d,_,_] _ _) _=>(a,b,c,d)
 |_=>default
def aF:List (Pos×Str):=[(KH.2.2.2,"law.<locals>.<lambda>"),(GJ.2.2.2,"law.<locals>.<lambda>")]
def Z9:List (Pos×Str):=(CY 0 Vr).map λ r=>(r.pos,r.name)
def W1 (h:World)(k:Heap):BH:=⟨P1,h,k,[16,178],Yi 20 16 180 178 Zf T5 Z9 aF,UP⟩
noncomputable abbrev K1 (h:World):Frag:=hd.heap_39 h.params
noncomputable def ob (h:World)(a:Addr):Obj:=((K1 h).lookup a).getD {cls:=.none,data:=.plain}
variable {b:List (Str×PV)} in
noncomputable def dE (h:World)(a:Addr):Array DictEntry:=match(ob h a).data with | .dict b _=>b |_=> #[]
noncomputable def gY (h:World)(a:Addr):Nat:=match(ob h a).data with | .dict _ k=>k |_=>0
theorem TR (I:(K1 w).In h)(s:(K1 w).lookup a=some (ob w a))(z:(ob w a).data=.dict (dE w a) (gY w a))(A:h.Ns a m)(x:Str):m x=nsFind (dE w a) x:=by
 obtain⟨o,E,H,k,hd,_,C⟩:=A;rw[I _ _ s] at k;cases k;rw[z] at hd;cases hd;exact(C x).symm
theorem C9 (I:(K1 w).In h)(T:Top hd.view_39 a b mg mb h)(x:Str):mg x=nsFind (dE w 3) x:=TR (a:=3) I ⋯ ⋯ T.g x
theorem Mf {v:Value}{a:List Str}{b:ExcName->Option Value}{x:Str}(T:Top hd.view_39 a b mg mb h)(k:x≠"__name__")(e:bootBuiltins x=some v):mb x=some v:=(T.builtins x k).trans e
theorem statics (I:(K1 w).In h)(T:Top hd.view_39 a b mg mb h):∃k,h.Ns cStatics k/\k "sys.recursionlimit"=none/\k "thirdparty.any"=none:=by
 obtain⟨k,o,s⟩:=T.nolimit;exact⟨k,o,s,(TR (a:=2) I ⋯ ⋯ o _).trans ⋯⟩
theorem UO (I:(K1 w).In h)(k:∀P∈[16,178],h.get? P=some (tabObj #[])):(W1 w h).dc h:=
 ⟨⟨#[],⟨codeHd_of_K I ⋯,k 16 (_),trivial⟩,λ o q=>by cases q⟩,#[],⟨codeHd_of_K I ⋯,k 178 (_),trivial⟩,λ r s o q=>by cases q⟩
theorem fA:Yn (W1 w h) 20 16 Zf T5 Z9:=Ze (c2:=180) (p2:=178) rfl (by show(16:Nat)∈[16,178];simp) {_} {_}
theorem eV:ZX (W1 w h) 180 178 aF:=Zc (c1:=20) (p1:=16) rfl (by show(178:Nat)∈[16,178];simp) {_} {_} (by
 intro a k b o;have:aF.all (λ a=>aF.all λ b=>!(a.1.line==b.1.line&&a.1.col==b.1.col)||decide (a=b))=true:={_}
 intro s z;have:=AJ.mp (AJ.mp this a k) b o;rw[s,z] at this;simpa using this)
theorem dJ (I:(K1 w).In h)(T:Top hd.view_39 a b mg mb h):∀f:BF,mg f.name=none/\mb f.name=some f.val:=λ f=>by
 cases f<;>exact⟨(C9 I T _).trans ⋯,Mf T {_} ⋯⟩
variable {args:List Expr} in
def O8 (l:List Arg):Arguments:={posonlyargs:=[],args:=l,vararg:=none,kwonlyargs:=[],kw_defaults:=[],kwarg:=none,defaults:=[]}
theorem W6 (h:b.length=1):∃a,b=[a]:=by
 match b,h with
 |[a],_=>exact⟨a,rfl⟩
theorem Vi (h:c.length=2):∃a b,c=[a,b]:=by
 match c,h with
 |[a,b],_=>exact⟨a,b,rfl⟩
theorem eU (h:d.length=3):∃a b c,d=[a,b,c]:=by
 match d,h with
 |[a,b,c],_=>exact⟨a,b,c,rfl⟩
theorem gS (h:f.length=5):∃a b c d e,f=[a,b,c,d,e]:=by
 match f,h with
 |[a,b,c,d,e],_=>exact⟨a,b,c,d,e,rfl⟩
variable {i:Nat}{a:List Str}{p:JV} in
def Tw (f:Nat->Pos):List Str->Nat->List Arg
 |[],_=>[]
 |p::a,i=>⟨p,none,f i⟩::Tw f a (i+1)
def IE (o:List Str):Prop:=∀(k:FuncData)(f:Nat->Pos),k.params=O8 (Tw f o 0)->k.defaults=.none->k.kwdefaults=.none->∀h:List Value,h.length=o.length->bindArgs k ⟨h,[]⟩=(pure (o.zip h):Sem (List (Str×Value)))
theorem G9 (B:IE a)(s:fd.params=O8 (Tw f a 0))(hd:fd.defaults=.none)(w:fd.kwdefaults=.none)(k:BH)(h:List Value)(o:Shared)(_:A8 k k.h0 o.heap)(z:h.length=a.length):BindsTo o fd ⟨h,[]⟩ (a.zip h):=.of_eq (B fd f s hd w h z)
theorem QG:IE ["sequences"]:=λ k f o hd s h w=>by
 obtain⟨a,rfl⟩:=W6 w;cases k;cases o;cases hd;cases s;rfl
theorem QH:IE ["resp","peer"]:=λ k f o hd s h w=>by
 obtain⟨a,b,rfl⟩:=Vi w;cases k;cases o;cases hd;cases s;rfl
theorem ZU:IE ["resp"]:=λ k f o hd s h w=>by
 obtain⟨a,rfl⟩:=W6 w;cases k;cases o;cases hd;cases s;rfl
theorem MW:IE ["mode"]:=λ k f o hd s h w=>by
 obtain⟨a,rfl⟩:=W6 w;cases k;cases o;cases hd;cases s;rfl
theorem ON:IE ["name","place"]:=λ k f o hd s h w=>by
 obtain⟨a,b,rfl⟩:=Vi w;cases k;cases o;cases hd;cases s;rfl
theorem EK:IE ["names","spots","ports","wished","spoiled"]:=λ k f o hd s h w=>by
 obtain⟨a,b,c,d,e,rfl⟩:=gS w;cases k;cases o;cases hd;cases s;rfl
theorem Oi:IE ["state","reply"]:=λ k f o hd s h w=>by
 obtain⟨a,b,rfl⟩:=Vi w;cases k;cases o;cases hd;cases s;rfl
theorem JC:IE ["hours","dues","pairs"]:=λ k f o hd s h w=>by
 obtain⟨a,b,c,rfl⟩:=eU w;cases k;cases o;cases hd;cases s;rfl
theorem Oj:IE ["names","pairs"]:=λ k f o hd s h w=>by
 obtain⟨a,b,rfl⟩:=Vi w;cases k;cases o;cases hd;cases s;rfl
theorem VZ:IE ["script"]:=λ k f o hd s h w=>by
 obtain⟨a,rfl⟩:=W6 w;cases k;cases o;cases hd;cases s;rfl
theorem Yg:IE ["mycmp"]:=λ k f o hd s h w=>by
 obtain⟨a,rfl⟩:=W6 w;cases k;cases o;cases hd;cases s;rfl
section
noncomputable abbrev Dq (h:World)(a:Addr):FuncData:=VK (K1 h) a
abbrev DB (h:List Str)(k:ExcName->Option Value)(o s:Str->Option Value)(w:Heap):=Top hd.view_39 h k o s w
abbrev Hb (h:World)(k:Heap):=(K1 h).In k
abbrev Ir:=importsNone hd.view_39=true
abbrev Ip (k:World)(o:Heap)(n:Addr)(h:Env)(s:Heap):=XB (W1 k o) (Dq k n).scope h s
abbrev GW (h:World)(k:Heap)(o:Ge)(s:Nat)(w z:Str->Option Value):=Dh (W1 h k) o s w z
variable {x:Str} in
noncomputable def Jk (h:World)(a:Addr)(j:Nat):Pos:=match(Dq h a).params.args[j]? with |some x=>x.pos |none=>default
variable (I:Hb w h)(T:DB loose mean mg mb h)
include I T
theorem fC:EF (W1 w h) 35 (Dq w 35) ["sequences"] (Bp P1 4):=DP I T.nolimit ⋯ ⋯ (G9 QG (f:=Jk w 35) ⋯ ⋯ ⋯ _)
theorem Qx:EF (W1 w h) 79 (Dq w 79) ["resp","peer"] (Bp P1 9):=DP I T.nolimit ⋯ ⋯ (G9 QH (f:=Jk w 79) ⋯ ⋯ ⋯ _)
theorem Qw:EF (W1 w h) 86 (Dq w 86) ["resp"] (Bp P1 10):=DP I T.nolimit ⋯ ⋯ (G9 ZU (f:=Jk w 86) ⋯ ⋯ ⋯ _)
theorem R3:EF (W1 w h) 93 (Dq w 93) ["mode"] (Bp P1 12):=DP I T.nolimit ⋯ ⋯ (G9 MW (f:=Jk w 93) ⋯ ⋯ ⋯ _)
theorem Uh:EF (W1 w h) 100 (Dq w 100) ["mode"] (Bp P1 13):=DP I T.nolimit ⋯ ⋯ (G9 MW (f:=Jk w 100) ⋯ ⋯ ⋯ _)
theorem Ml:EF (W1 w h) 140 (Dq w 140) ["mode"] (Bp P1 34):=DP I T.nolimit ⋯ ⋯ (G9 MW (f:=Jk w 140) ⋯ ⋯ ⋯ _)
theorem Ug:EF (W1 w h) 147 (Dq w 147) ["name","place"] (Bp P1 36):=DP I T.nolimit ⋯ ⋯ (G9 ON (f:=Jk w 147) ⋯ ⋯ ⋯ _)
theorem Uf:EF (W1 w h) 152 (Dq w 152) ["names","spots","ports","wished","spoiled"] (Bp P1 37):=DP I T.nolimit ⋯ ⋯ (G9 EK (f:=Jk w 152) ⋯ ⋯ ⋯ _)
theorem XI:EF (W1 w h) 159 (Dq w 159) ["state","reply"] (Bp P1 38):=DP I T.nolimit ⋯ ⋯ (G9 Oi (f:=Jk w 159) ⋯ ⋯ ⋯ _)
theorem NF:EF (W1 w h) 166 (Dq w 166) ["mode"] (Bp P1 39):=DP I T.nolimit ⋯ ⋯ (G9 MW (f:=Jk w 166) ⋯ ⋯ ⋯ _)
theorem Ui:EF (W1 w h) 171 (Dq w 171) ["hours","dues","pairs"] (Bp P1 40):=DP I T.nolimit ⋯ ⋯ (G9 JC (f:=Jk w 171) ⋯ ⋯ ⋯ _)
theorem RZ:EF (W1 w h) 176 (Dq w 176) ["names","pairs"] (Bp P1 41):=DP I T.nolimit ⋯ ⋯ (G9 Oj (f:=Jk w 176) ⋯ ⋯ ⋯ _)
theorem cJ:EF (W1 w h) 181 (Dq w 181) ["script"] MQ:=DP I T.nolimit ⋯ ⋯ (G9 VZ (f:=Jk w 181) ⋯ ⋯ ⋯ _)
theorem XJ:EF (W1 w h) 21 (Dq w 21) ["mycmp"] (Bp P1 1):=DP I T.nolimit ⋯ ⋯ (G9 Yg (f:=Jk w 21) ⋯ ⋯ ⋯ _)
end
variable {a:Addr}{v:Value}{b:List Value}{i n:Nat}{x:Str} in
def bN (K:Frag):Nat->Value->Option PV
 |0,_=>none
 |n+1,v=>match v with
  | .int i _=>some (.int i)
  | .str x _=>if Ix x then some (.str x) else none
  | .ref a=>match K.lookup a with
    |some o=>(match o.data with
     | .seq b _=>if o.cls== .type "tuple"&&o.dict.isNone&&o.slots.isEmpty&&decide (b.size<=Bi) then(b.toList.mapM (bN K n)).map .ay else none
     |_=>none)
    |none=>none
  |_=>none
theorem TU {f:Value->Option PV}(s:∀v d,f v=some d->Rp a X b v d):∀{k:List Value}{h:List PV},k.mapM f=some h->RpL a X b k h
 |[],h,e=>by cases e;exact .nil
  |v::k,h,e=>by
   rw[GZ] at e;obtain⟨d,hd,e⟩:=Ae.mp e;obtain⟨w,o,e⟩:=Ae.mp e;cases e;exact .cons (s v d hd) (TU s o)
theorem aA {W:BH}{K:Frag}(I:K.In W.h0){X:List Addr}(z:∀a∈X,W.h0.get? a=none):∀(n:Nat)(v:Value)(d:PV),bN K n v=some d->Rp W X W.h0 v d
 |0,v,d,e=>by cases e
  |n+1,v,d,e=>by
   unfold bN at e;split at e
   ·cases e;exact .int _ _
   ·split at e<;>cases e;rename_i k;unfold Ix at k;rw[Ah,AK] at k;exact .str _ _ k.1 k.2
   ·rename_i a;split at e
    ·rename_i o N;split at e
     ·rename_i O m hd;split at e
      ·rename_i A;simp only[Ah,AK] at A;obtain⟨⟨⟨C,E⟩,H⟩,Q⟩:=A;obtain⟨j,w,rfl⟩:=As.mp e;have V:o=JI O m:=by
        obtain⟨Z,b,l,c⟩:=o;simp only at hd C E H;have f:Z=.type "tuple":=Bo C;have g:b=none:=by simpa using E
        have i:c= #[]:=by simpa using H
        subst f g i hd;rfl
       have s:=I a o N;rw[V] at s;exact .ay s (λ q=>by rw[z a q] at s;cases s) Q (TU (λ v d h=>aA I z n v d h) w)
      ·cases e
     ·cases e
    ·cases e
   ·cases e
def fE (l:List (Int×Str)):PV:=.ay (l.map λ p=>.ay [.int p.1,.str p.2])
def cM:List (List (Int×Str)):=[[(40960,"l"),(49152,"s"),(32768,"-"),(24576,"b"),(16384,"d"),(8192,"c"),(4096,"p")],[(256,"r")],[(128,"w")],[(2112,"s"),(2048,"S"),(64,"x")],[(32,"r")],[(16,"w")],[(1032,"s"),(1024,"S"),(8,"x")],[(4,"r")],[(2,"w")],[(513,"t"),(512,"T"),(1,"x")]]
def Ul:PV:=.ay (cM.map fE)
def dY (x:Str):Option PV:=if x="_filemode_table" then some Ul else none
variable {b:ClassData} in
noncomputable def Gy (h:World)(a:Addr):ClassData:=match(ob h a).data with | .cls b=>b |_=>{name:="",bases:=[],mro:=[],ns:=0,qualname:=""}
noncomputable def OA (h:World)(a:Addr)(i:Nat):Option Value:=(ob h a).slots.getD i none
theorem Ln (I:Hb w h)(k:(K1 w).lookup a=some (ob w a))(o:(ob w a).data=.dict (dE w a) (gY w a))(s:(dE w a).toList.all (λ e=>match e.key with | .str _ _=>true |_=>false)=true):h.Ns a (λ x=>nsFind (dE w a) x):=
 ⟨ob w a,dE w a,gY w a,I _ _ k,o,(λ e z=>(by
  have:=AJ.mp s e (by simpa using z);split at this
  ·rename_i n t q;exact⟨n,t,q⟩
  ·simp at this)),λ x=>rfl⟩
theorem cF (I:Hb w h)(T:DB b c mg mb h)(s:Ir)(z:C.gv=dY)(A:∀x g,C.fn x=some g->∃a o E,mg x=some (.ref a)/\h.get? a=some o/\o.data=.func E/\o.cls≠.type "frame"/\o.cls≠.none/\EG (W1 w h) k a g):GW w h C k mg mb where
 g:=T.g
 b:=T.b
 bx:=dJ I T
 jp:=⟨(C9 I T _).trans ⋯,Mf T {_} ⋯⟩
 ir:=by
  obtain⟨O,⟨o,Q,V,H,_⟩,_⟩:=(T.seer s).mods;exact⟨o,H⟩
 aa:=λ x d e=>by
  rw[z] at e;unfold dY at e;split at e
  ·rename_i q;subst q;cases e;exact⟨.ref 133,(C9 I T _).trans ⋯,λ X N=>aA (W:=W1 w h) (K:=K1 w) I N 5 (.ref 133) Ul ⋯⟩
  ·cases e
 fn:=A
def QE:List Value:=[.ref 45,.type "Exception",.type "BaseException",.type "object"]
theorem XO (I:Hb w h)(T:DB a b mg mb h):D8 (W1 w h) mg "error_reply" 58 QE where
 br:=(C9 I T _).trans ⋯
 cls:=⟨(Gy w 58).name,(Gy w 58).qualname,57,(Gy w 58).bases,(Gy w 58).hasDict,(Gy w 58).slotNames,(Gy w 58).subclasses,(Gy w 58).abstract,(Gy w 58).collection,(ob w 58).dict,OA w 58 0,OA w 58 1,OA w 58 2,OA w 58 3,OA w 58 5,"Exception","Exception.__new__","Exception.__init__",[.type "Exception",.type "BaseException",.type "object"],_,"Exception",
  F.excBase_Exception,I 58 _ ⋯,Ln (a:=57) I ⋯ ⋯ ⋯,⋯,.own (cd:=Gy w 45) (I 45 {cls:=.type "type",dict:=(ob w 45).dict,data:=.cls (Gy w 45),slots:=(ob w 45).slots} ⋯) (Ln (a:=44) I ⋯ ⋯ ⋯) ⋯ .base,⋯,
  .own (cd:=Gy w 45) (I 45 {cls:=.type "type",dict:=(ob w 45).dict,data:=.cls (Gy w 45),slots:=(ob w 45).slots} ⋯) (Ln (a:=44) I ⋯ ⋯ ⋯) ⋯ .base,F.excStr_Exception⟩
theorem aN (I:Hb w h)(T:DB a b mg mb h):D8 (W1 w h) mg "error_proto" 70 QE where
 br:=(C9 I T _).trans ⋯
 cls:=⟨(Gy w 70).name,(Gy w 70).qualname,69,(Gy w 70).bases,(Gy w 70).hasDict,(Gy w 70).slotNames,(Gy w 70).subclasses,(Gy w 70).abstract,(Gy w 70).collection,(ob w 70).dict,OA w 70 0,OA w 70 1,OA w 70 2,OA w 70 3,OA w 70 5,"Exception","Exception.__new__","Exception.__init__",[.type "Exception",.type "BaseException",.type "object"],_,"Exception",
  F.excBase_Exception,I 70 _ ⋯,Ln (a:=69) I ⋯ ⋯ ⋯,⋯,.own (cd:=Gy w 45) (I 45 {cls:=.type "type",dict:=(ob w 45).dict,data:=.cls (Gy w 45),slots:=(ob w 45).slots} ⋯) (Ln (a:=44) I ⋯ ⋯ ⋯) ⋯ .base,⋯,
  .own (cd:=Gy w 45) (I 45 {cls:=.type "type",dict:=(ob w 45).dict,data:=.cls (Gy w 45),slots:=(ob w 45).slots} ⋯) (Ln (a:=44) I ⋯ ⋯ ⋯) ⋯ .base,F.excStr_Exception⟩
variable {b:PV} in
def WD:List Stmt:=match Bp P1 3 with |[_,.If _ b _ _,_,_]=>b |_=>[]
def TK (q:Nat->Pos):List Stmt:=QL (q 0) (q 1) (q 2) (q 3) (q 4) (q 5) (q 6) (q 7) (q 8) (q 9) (q 10) (q 11) (q 12) (q 13) (q 14) (q 15) (q 16) (q 17) (q 18) (q 19) (q 20) (q 21) (q 22) WD
def rQ:Nat->Pos:=H1 TK (Bp P1 3)
theorem WC:Bp P1 3=TK rQ:=⋯
def ZI:Scope:=match Bp P1 4 with |[_,.While _ (.Assign _ (.ListComp _ _ s _) _::_) _ _]=>s |_=>default
def ZL:Nat->Pos:=H1 (λ p=>Od ZI p λ _=>0) (Bp P1 4)
theorem ZH:Bp P1 4=Od ZI ZL (λ _=>0):=⋯
def J7:Expr×Expr×Expr:=match Bp P1 38 with
 |[_,.Try [.Return (some (.Tuple [_,.BinOp _ _ (.List [h] _) _,_] _ _)) _] _ _ _ _,_,.Assign [.Subscript _ o _] _ _,.Return (some (.Tuple [_,k,_] _ _)) _]=>(h,k,o)
 |_=>default
def H9:Expr:=J7.1
def Pn:Expr:=J7.2.1
def Xv:Expr:=J7.2.2
def hP:Nat->Pos:=H1 (λ p=>FU "spoiled" H9 Pn Xv p λ _=>0) (Bp P1 38)
def hK:Nat->Nat:=aC (λ k=>FU "spoiled" H9 Pn Xv (λ _=>default) k) (Bp P1 38)
theorem S6:Bp P1 38=FU "spoiled" H9 Pn Xv hP hK:=⋯
theorem WB (E H:Str)(N:FuncBody)(O:Scope)(Q:Addr)(V:List (Str×Addr))(h o:Value)(s:Option Addr)(w z:Value)(A:Addr)(W Z d:Pos)(C:List Expr)(T:Addr)(x a b c:Value):
 ∃k:Option (Array Value)->Sem (List (Str×Value)),bindArgs ⟨E,H,{posonlyargs:=[],args:=[⟨"function",none,W⟩,⟨"sequence",none,Z⟩,⟨"initial",none,d⟩],vararg:=none,kwonlyargs:=[],kw_defaults:=[],kwarg:=none,defaults:=C},N,O,Q,V,.ref T,.none,h,o,s,w,z,A⟩ ⟨[a,b,c],[]⟩=seqItems? (.ref T) >>=k/\
  k (some #[x])=pure ((["function","sequence","initial"]:List Str).zip [a,b,c]):=⟨_,rfl,rfl⟩
theorem U1 (s:fd.params={posonlyargs:=[],args:=[⟨"function",none,q0⟩,⟨"sequence",none,q1⟩,⟨"initial",none,q2⟩],vararg:=none,kwonlyargs:=[],kw_defaults:=[],kwarg:=none,defaults:=dfl})(hd:fd.defaults=.ref Tt)(w:fd.kwdefaults=.none)
 (z:W.h0.get? Tt=some (JI #[.ref x] n)) (h:List Value) (o:Shared) (R:A8 W W.h0 o.heap) (A:h.length=3):BindsTo o fd ⟨h,[]⟩ ((["function","sequence","initial"]:List Str).zip h):=by
 obtain⟨a,b,c,rfl⟩:=eU A;cases fd;cases s;cases hd;cases w;obtain⟨k,C,E⟩:=WB _ _ _ _ _ _ _ _ _ _ _ _ q0 q1 q2 dfl Tt (.ref x) a b c;exact BindsTo.of_defaults rfl (R.keep z (_) (_)) rfl C E
theorem VF (I:Hb w h)(T:DB a b mg mb h):EF (W1 w h) 30 (Dq w 30) ["function","sequence","initial"] (Bp P1 3):=
 DP I T.nolimit ⋯ ⋯ (U1 (q0:=Jk w 30 0) (q1:=Jk w 30 1) (q2:=Jk w 30 2) (dfl:=(Dq w 30).params.defaults) (Tt:=23) (x:=22) (n:=0) ⋯ ⋯ ⋯ (I 23 _ ⋯))
theorem eN (I:Hb w h)(T:DB a b mg mb h):Uy (W1 w h) mg mb 30 where
 ex:=⟨Dq w 30,rQ 0,rQ 1,rQ 2,rQ 3,rQ 4,rQ 5,rQ 6,rQ 7,rQ 8,rQ 9,rQ 10,rQ 11,rQ 12,rQ 13,rQ 14,rQ 15,rQ 16,rQ 17,rQ 18,rQ 19,rQ 20,rQ 21,rQ 22,WD,(by have:=VF I T;rw[WC] at this;exact this),⟨⋯,⋯,⋯,⋯⟩,⋯,⋯⟩
 iter:=⟨(C9 I T _).trans ⋯,Mf T {_} ⋯⟩
 miss:=⟨22,ob w 22,(C9 I T _).trans ⋯,I 22 _ ⋯,by
  have:((ob w 22).cls== .type "object")=true:=⋯
  rw[Bo this];simp,by
  have:((ob w 22).cls== .type "object")=true:=⋯
  rw[Bo this];simp,by
  have:((ob w 22).cls== .type "object")=true:=⋯
  rw[Bo this];simp⟩
theorem Ut (I:Hb w h)(T:DB a b mg mb h)(hP:4≠P):h.BuiltinsAt mg P:=by
 obtain⟨H,o,k,s,z,A,C,E⟩:=T.bmain;have e:mg "__builtins__"=some (.ref 4):=(C9 I T _).trans ⋯;rw[e] at k;cases k;exact⟨4,o,e,s,{_},hP,z,A,C,E⟩
theorem gZ (I:Hb w h)(T:DB a b mg mb h)(o:GW w h C k mg mb):UE (W1 w h) mg mb C k 21 where
 gk:=o
 ex:=⟨Vr,Xm,T5,"cpy313.functools",SX,Dq w 21,iM,iL,iK,Zf,20,16,.str "law_oy0180_01" 387,bY,bZ,(by have:=XJ I T;rw[show Bp P1 1=_ from X3] at this;exact this),(C9 I T _).trans ⋯,fA,{_},{_},Ut I T {_},⋯,⋯,⋯,⋯,⋯⟩
 jj:=statics I T
 kl:=Mf T {_} ⋯
 kj:=⟨(C9 I T _).trans ⋯,Mf T {_} ⋯⟩
theorem hS:PH (Dq w 35).scope ZI ZL where
 S:=⟨⋯,⋯,⋯,⋯⟩
 seq:=⋯
 kg:=⋯
 ke:=⋯
 jy:=⋯
 jx:=GI ⋯
 jw:=⋯
 kq:=⋯
theorem fN (n:Nat):swapsWithSole [.Name "sequences" (ZL 23)] (.ListComp (.Name "s" (ZL 24)) [⟨.Name "s" (ZL 25),.Name "sequences" (ZL 26),[.Name "s" (ZL 27)],0⟩] ZI (ZL 28)) (ZL 29).line (callEnvC (Dq w 35) n 35)=pure true:=⋯
theorem Zi:K2 (Dq w 159).scope "spoiled" H9 Pn where
 st:=⋯
 jr:=⋯
 wds:=⋯
 km:=⋯
 g1:=⋯
 g2:=⋯
 gs:=⋯
 ni:=⋯
 nl:=⋯
 x3:=.inl rfl
def CJ (h:Ge)(o:Scope)(s:AC)(e:Expr)(d:PV):Prop:=∃n,∀k,n<=k->(By h k).ev o s e=some d
def QJ (h:Ge)(o:Scope)(s:AC)(e:Expr)(b:Bool):Prop:=∃n,∀k,n<=k->(By h k).ts o s e=some b
def OT (h:Ge)(o:Scope)(s:AC)(e:Expr)(w:List PV):Prop:=∃n,∀k,n<=k->(By h k).it o s e=some w
def UH (h:Ge)(o:Scope)(s:AC)(e:Expr)(d:PV):Prop:=∃n,∀k,n<=k->EL (By h k) o s e=some d
def V6 (h:Ge)(o:Scope)(s:AC)(w:List Expr)(z:List PV):Prop:=∃n,∀k,n<=k->CZ (By h k) o s w=some z
def Yl (h:Ge)(o:Scope)(s:AC)(e:Option Expr)(d:Option Int):Prop:=∃n,∀k,n<=k->Fg (By h k) o s e=some d
theorem Ou (h:n+1<=k):∃m,k=m+1/\n<=m:=⟨k-1,∅,∅⟩
section
theorem CJ.kk (n:Nat)(h:∀m,(By C (m+n)).ev V O e=some d):CJ C V O e d:=⟨n,λ k o=>by obtain⟨m,rfl⟩:=Nat.exists_eq_add_of_le' o;exact h m⟩
theorem CJ.name (h:GF C V O x=some d):CJ C V O (.Name x p) d:=⟨1,λ k o=>by obtain⟨m,rfl,_⟩:=Ou o;exact Fo.trans h⟩
theorem CJ.aa (h:O.lookup x=some (.aa d)):CJ C V O (.Name x p) d:=.name (CK h)
theorem CJ.ae (h:N0 c=some d):CJ C V O (.Constant c a p) d:=⟨1,λ k o=>by obtain⟨m,rfl,_⟩:=Ou o;exact h⟩
theorem CJ.int:CJ C V O (.Constant (.int i) a p) (.int i):=.ae rfl
theorem CJ.ai (h:CJ C V O l a)(o:CJ C V O r b)(s:EY c a b=some d):CJ C V O (.BinOp l c r p) d:=by
 obtain⟨w,h⟩:=h;obtain⟨z,o⟩:=o;refine⟨w+z+1,λ k A=>?_⟩;obtain⟨m,rfl,E⟩:=Ou A;show((By C m).ev V O l).bind (λ a=>((By C m).ev V O r).bind λ b=>EY c a b)=_;rw[h m ∅,o m ∅];exact s
theorem CJ.fk (h:QJ C V O t c)(o:CJ C V O (if c then a else b) d):CJ C V O (.IfExp t a b p) d:=by
 obtain⟨s,h⟩:=h;obtain⟨w,o⟩:=o;refine⟨s+w+1,λ k z=>?_⟩;obtain⟨m,rfl,A⟩:=Ou z;show((By C m).ts V O t).bind (λ c=>if c then(By C m).ev V O a else(By C m).ev V O b)=_;rw[h m ∅];have:=o m ∅;cases c<;>exact this
theorem UH.own (h:O.lookup x=some (.own d)):UH C V O (.Name x p) d:=⟨0,λ k _=>Sk h⟩
theorem UH.name (h:GF C V O x=some d)(o:∀d,O.lookup x≠some (.own d)):UH C V O (.Name x p) d:=⟨1,λ k s=>by
 obtain⟨m,rfl,_⟩:=Ou s;rw[F5 o];exact Fo.trans h⟩
theorem UH.aa (h:O.lookup x=some (.aa d)):UH C V O (.Name x p) d:=.name (CK h) λ d q=>by rw[h] at q;cases q
theorem UH.ev (h:CJ C V O e d)(o:Rq e=none):UH C V O e d:=by
 obtain⟨n,h⟩:=h;exact⟨n,λ k s=>by rw[Ok o];exact h k s⟩
theorem CJ.aj (h:UH C V O v b)(o:CJ C V O i kd)(s:P8 i=true)(w:DS b kd=some d):CJ C V O (.Subscript v i p) d:=by
 obtain⟨z,h⟩:=h;obtain⟨A,o⟩:=o;refine⟨z+A+1,λ k E=>?_⟩;obtain⟨m,rfl,H⟩:=Ou E;rw[NM,h m ∅];show K9 (By C m) V O b i=_;have:K9 (By C m) V O b i=((By C m).ev V O i).bind λ k=>DS b k:=by cases i<;>first |rfl |(cases s;done)
 rw[this,o m ∅];exact w
theorem Yl.no:Yl C V O none none:=⟨0,λ _ _=>rfl⟩
theorem Yl.int (h:CJ C V O e (.int i)):Yl C V O (some e) (some i):=by
 obtain⟨n,h⟩:=h;exact⟨n,λ k o=>by show((By C k).ev V O e).bind WM=_;rw[h k o];rfl⟩
theorem CJ.slice {b d:PV}{p:Pos}{v:Expr}{lo a st:Option Expr}{c:Pos}{l u t:Option Int}(h:UH C V O v b)(o:Yl C V O lo l)(w:Yl C V O a u)(z:Yl C V O st t)(A:CA b l u t=some d):CJ C V O (.Subscript v (.Slice lo a st c) p) d:=by
 obtain⟨E,h⟩:=h;obtain⟨H,o⟩:=o;obtain⟨N,w⟩:=w;obtain⟨Q,z⟩:=z;refine⟨E+H+N+Q+1,λ k W=>?_⟩;obtain⟨m,rfl,Z⟩:=Ou W;rw[NM,h m ∅];show(Fg (By C m) V O lo).bind (λ l=>(Fg (By C m) V O a).bind λ u=>(Fg (By C m) V O st).bind λ s=>CA b l u s)=_;rw[o m ∅,w m ∅,z m ∅];exact A
theorem V6.nil:V6 C V O [] []:=⟨0,λ _ _=>rfl⟩
theorem V6.cons (h:CJ C V O e d)(o:V6 C V O a b)(s:Bk e=true):V6 C V O (e::a) (d::b):=by
 obtain⟨w,h⟩:=h;obtain⟨z,o⟩:=o;refine⟨w+z,λ k A=>?_⟩;show(if Bk e=true then((By C k).ev V O e).bind (λ d=>(CZ (By C k) V O a).map λ b=>d::b) else none)=_;rw[Ap s,h k ∅,o k ∅];rfl
theorem CJ.list (h:V6 C V O b a)(o:a.length<=Bi):CJ C V O (.List b p) (.list a):=by
 obtain⟨n,h⟩:=h;refine⟨n+1,λ k s=>?_⟩;obtain⟨m,rfl,w⟩:=Ou s;show(CZ (By C m) V O b).bind (λ a=>if a.length<=Bi then some (PV.list a) else none)=_;rw[h m w];show(if a.length<=Bi then some (PV.list a) else none)=_;rw[Ap o]
theorem CJ.ay (h:V6 C V O b a)(o:a.length<=Bi):CJ C V O (.Tuple b c p) (.ay a):=by
 obtain⟨n,h⟩:=h;refine⟨n+1,λ k s=>?_⟩;obtain⟨m,rfl,w⟩:=Ou s;show(CZ (By C m) V O b).bind (λ a=>if a.length<=Bi then some (PV.ay a) else none)=_;rw[h m w];show(if a.length<=Bi then some (PV.ay a) else none)=_;rw[Ap o]
theorem argsOk (h:V6 C V O a b):a.all Bk=true:=by
 obtain⟨n,h⟩:=h;exact Dt a b (h n (Am _))
theorem CJ.bx (o:(Bz V x&&(O.lookup x).isNone)=true)(s:VY x=some b)(h:V6 C V O args ds)(w:args.length<20)(z:Of b ds=some d):CJ C V O (.Call (.Name x q) args [] p) d:=by
 have A:=argsOk h;obtain⟨n,h⟩:=h;refine⟨n+1,λ k E=>?_⟩;obtain⟨m,rfl,H⟩:=Ou E;show(if(([]:List Keyword).isEmpty&&decide (args.length<20)&&args.all Bk)=true then(if(Bz V x&&(O.lookup x).isNone)=true then(match VY x with |some b=>(CZ (By C m) V O args).bind λ ds=>Of b ds |none=>(C.fn x).bind λ g=>(CZ (By C m) V O args).bind λ ds=>g ds) else none) else none)=_;rw[Ap (by rw[A];simp[w]),Ap o,s];simp only[h m H];exact z
theorem CJ.fn (o:(Bz V x&&(O.lookup x).isNone)=true)(s:VY x=none)(w:C.fn x=some g)(h:V6 C V O args ds)(z:args.length<20)(A:g ds=some d):CJ C V O (.Call (.Name x q) args [] p) d:=by
 have E:=argsOk h;obtain⟨n,h⟩:=h;refine⟨n+1,λ k H=>?_⟩;obtain⟨m,rfl,N⟩:=Ou H;show(if(([]:List Keyword).isEmpty&&decide (args.length<20)&&args.all Bk)=true then(if(Bz V x&&(O.lookup x).isNone)=true then(match VY x with |some b=>(CZ (By C m) V O args).bind λ ds=>Of b ds |none=>(C.fn x).bind λ g=>(CZ (By C m) V O args).bind λ ds=>g ds) else none) else none)=_;rw[Ap (by rw[E];simp[z]),Ap o,s];simp only[w,AX,h m N];exact A
theorem CJ.cg {args:List Expr}{b d:PV}{ds:List PV}{p:Pos}{c:Expr}{name:Str}{a:Pos}{mf:MF}(w:(I3 c&&(a.endLine==p.line))=true)(z:(name==("replace":Str))=false)(A:WU name=some mf)(o:CJ C V O c b)(h:V6 C V O args ds)(E:args.length<20)(H:Iy mf b ds=some d):CJ C V O (.Call (.Attribute c name a) args [] p) d:=by
 have N:=argsOk h;obtain⟨Q,o⟩:=o;obtain⟨n,h⟩:=h;refine⟨Q+n+1,λ k s=>?_⟩;obtain⟨m,rfl,W⟩:=Ou s;show(if(([]:List Keyword).isEmpty&&decide (args.length<20)&&args.all Bk)=true then(if(I3 c&&(a.endLine==p.line))=true then((By C m).ev V O c).bind (λ b=>if(name==("replace":Str))=true then HZ b args else(WU name).bind λ Z=>(CZ (By C m) V O args).bind λ ds=>Iy Z b ds) else none) else none)=_;rw[Ap (by rw[N];simp[E]),Ap w,o m ∅];simp only[AX,z,Aq,AS,A,h m ∅];exact H
theorem CJ.gw (w:(I3 c&&(a.endLine==p.line))=true)(z:(decide (args.length<20)&&args.all Bk)=true)(h:CJ C V O c b)(A:HZ b args=some d):CJ C V O (.Call (.Attribute c "replace" a) args [] p) d:=by
 obtain⟨n,h⟩:=h;refine⟨n+1,λ k o=>?_⟩;obtain⟨m,rfl,s⟩:=Ou o;show(if(([]:List Keyword).isEmpty&&decide (args.length<20)&&args.all Bk)=true then(if(I3 c&&(a.endLine==p.line))=true then((By C m).ev V O c).bind (λ b=>if(("replace":Str)==("replace":Str))=true then HZ b args else(WU "replace").bind λ E=>(CZ (By C m) V O args).bind λ H=>Iy E b H) else none) else none)=_;rw[Ap (by simpa using z),Ap w,h m s];simp only[AX,DG,A0];exact A
theorem QJ.ar (h:CJ C V O l a)(o:CJ C V O r b)(s:CQ r=true)(w:SZ d=false)(z:IG d a b=some c):QJ C V O (.Compare l [d] [r] p) c:=by
 obtain⟨A,h⟩:=h;obtain⟨E,o⟩:=o;refine⟨A+E+1,λ k H=>?_⟩;obtain⟨m,rfl,N⟩:=Ou H;rw[K7];unfold GQ;simp only[s,A0,h m ∅,AX,w,Aq,AS,o m ∅];exact z
theorem QJ.isIn (h:CJ C V O l a)(o:UH C V O r b)(s:CQ r=true)(w:SZ d=true)(z:IG d a b=some c):QJ C V O (.Compare l [d] [r] p) c:=by
 obtain⟨A,h⟩:=h;obtain⟨E,o⟩:=o;refine⟨A+E+1,λ k H=>?_⟩;obtain⟨m,rfl,N⟩:=Ou H;rw[K7];unfold GQ;simp only[s,A0,h m ∅,AX,w,o m ∅];exact z
theorem CJ.gr (h:QJ C V O (.Compare l a b p) c):CJ C V O (.Compare l a b p) (.bool c):=by
 obtain⟨n,h⟩:=h;refine⟨n+1,λ k o=>?_⟩;obtain⟨m,rfl,s⟩:=Ou o;have:=h (m+1) ∅;rw[K7] at this;show(GQ (By C m) V O l a b).map PV.bool=_;rw[this];rfl
def Ys (h:Ge)(o:Scope)(s:AC)(w:BoolOp)(z:List Expr)(b:Bool):Prop:=∃n,∀k,n<=k->GS (By h k) o s w z=some b
theorem Ys.nil:Ys C V O a [] (a== .And):=⟨0,λ _ _=>rfl⟩
theorem Ys.cj (h:QJ C V O x b)(o:b=true->Ys C V O .And a c):Ys C V O .And (x::a) (b&&c):=by
 obtain⟨s,h⟩:=h;cases b with
 |false=>exact⟨s,λ k w=>by rw[GS,h k w];rfl⟩
 |true=>
  obtain⟨z,o⟩:=o rfl;exact⟨s+z,λ k w=>by rw[GS,h k ∅];exact o k ∅⟩
theorem Ys.bv (h:QJ C V O x b)(o:b=false->Ys C V O .Or a c):Ys C V O .Or (x::a) (b||c):=by
 obtain⟨s,h⟩:=h;cases b with
 |true=>exact⟨s,λ k w=>by rw[GS,h k w];rfl⟩
 |false=>
  obtain⟨z,o⟩:=o rfl;exact⟨s+z,λ k w=>by rw[GS,h k ∅];exact o k ∅⟩
theorem QJ.all (h:Ys C V O a c b):QJ C V O (.BoolOp a c p) b:=by
 obtain⟨n,h⟩:=h;refine⟨n+1,λ k o=>?_⟩;obtain⟨m,rfl,s⟩:=Ou o;exact h m s
theorem OT.ev (h:CJ C V O e d)(o:DK V O e=none)(s:CQ e=true)(w:SM d=some a):OT C V O e a:=by
 obtain⟨n,h⟩:=h;refine⟨n+1,λ k z=>?_⟩;obtain⟨m,rfl,A⟩:=Ou z;show(if CQ e=true then(match DK V O e with |some args=>(CZ (By C m) V O args).bind Nf |none=>((By C m).ev V O e).bind SM) else none)=_;rw[Ap s,o];simp only[h m A,AX];exact w
theorem OT.range (o:DK V O e=some args)(s:CQ e=true)(h:V6 C V O args ds)(w:Nf ds=some a):OT C V O e a:=by
 obtain⟨n,h⟩:=h;refine⟨n+1,λ k z=>?_⟩;obtain⟨m,rfl,A⟩:=Ou z;show(if CQ e=true then(match DK V O e with |some args=>(CZ (By C m) V O args).bind Nf |none=>((By C m).ev V O e).bind SM) else none)=_;rw[Ap s,o];simp only[h m A,AX];exact w
end
theorem dW {a:Type}{P:Nat->a->Prop}:∀{xs:List a},(∀x∈xs,∃n,∀k,n<=k->P k x)->∃n,∀k,n<=k->∀x∈xs,P k x
 |[],_=>⟨0,λ _ _ _ h=>nomatch h⟩
  |x::xs,h=>by
   obtain⟨s,w⟩:=h x Ac;obtain⟨z,A⟩:=dW λ y o=>h y (Ad _ o);refine⟨s+z,λ k C y o=>?_⟩;rcases Ag.mp o with rfl |o
   ·exact w k ∅
   ·exact A k ∅ y o
def MA (o:Ge)(s:Scope)(w:AC)(h:List Expr)(b:Bool):Prop:=∃n,∀k,n<=k->F9 ((By o k).ts s) w h=some b
section
theorem MA.nil:MA C V O [] true:=⟨0,λ _ _=>rfl⟩
theorem MA.bt (h:QJ C V O c b):MA C V O [c] b:=by
 obtain⟨n,h⟩:=h;refine⟨n,λ k o=>?_⟩;show(match(By C k).ts V O c with |some true=>F9 ((By C k).ts V) O [] |some false=>some false |none=>none)=_;rw[h k o];cases b<;>rfl
theorem Qq {d:List PV}{f:List Comprehension}{a:Scope}{e:Type}{P:JV}{b:AC->Option e}{g:Comprehension}{c:List e}(h:(Cd V a&&CQ g.iter)=true)(k:P.it V O g.iter=some d)(o:Cc a (P.ts a) (P.it a) b (g::f) (A3 a O) d=some c)(s:c.length<=Bi):
 EO P V a O b (g::f)=some c:=by
 show(if(Cd V a&&CQ g.iter)=true then(P.it V O g.iter).bind (λ d=>(Cc a (P.ts a) (P.it a) b (g::f) (A3 a O) d).bind λ c=>if c.length<=Bi then some c else none) else none)=_;rw[Ap h,k];simp only[AX,o];rw[Ap s]
theorem N1 {ifs:List Expr}{xs:List PV}{it t:Expr}{a:Type}{emit:Nat->AC->Option a}{ρ0:AC}(q:PV->Bool)(f:PV->a)(N:(DY t).all (λ x=>(ρ0.lookup x).isNone)=true)
 (O:∀x∈xs,∃h,Dc V t x ρ0=some h/\MA C V h ifs (q x)/\(q x=true->∃n,∀k,n<=k->emit k h=some (f x))):
 ∃n,∀k,n<=k->Cc V ((By C k).ts V) ((By C k).it V) (emit k) [⟨t,it,ifs,0⟩] ρ0 xs=some ((xs.filter q).map f):=by
 obtain⟨n,Q⟩:=dW (P:=λ k x=>∃h,Dc V t x ρ0=some h/\F9 ((By C k).ts V) h ifs=some (q x)/\(q x=true->emit k h=some (f x))) (xs:=xs) λ x o=>by
  obtain⟨h,A,⟨E,H⟩,s⟩:=O x o;by_cases e:q x=true
  ·obtain⟨W,s⟩:=s e;exact⟨E+W,λ k w=>⟨h,A,H k ∅,λ _=>s k ∅⟩⟩
  ·exact⟨E,λ k w=>⟨h,A,H k ∅,λ z=>absurd z e⟩⟩
 exact⟨n,λ k w=>Ig q f N λ x o=>Q k w x o⟩
theorem CJ.ci (q:PV->Bool)(f:PV->PV)(h:OT C V O c xs)(s:(Cd V a&&CQ c)=true)(w:(DY t).all (λ x=>((A3 a O).lookup x).isNone)=true)
 (z:∀x∈xs,∃o,Dc a t x (A3 a O)=some o/\MA C a o ifs (q x)/\(q x=true->CJ C a o b (f x))) (A:xs.length<=Bi):CJ C V O (.ListComp b [⟨t,c,ifs,0⟩] a p) (.list ((xs.filter q).map f)):=by
 obtain⟨E,h⟩:=h;obtain⟨H,N⟩:=N1 (emit:=λ k O=>(By C k).ev a O b) (it:=c) q f w z;refine⟨E+H+1,λ k Q=>?_⟩;obtain⟨m,rfl,W⟩:=Ou Q;show(EO (By C m) V a O (λ O=>(By C m).ev a O b) [⟨t,c,ifs,0⟩]).map PV.list=_;rw[Qq s (h m ∅) (N m ∅) (by rw[Ao];exact Ab (DM _ _) A)];rfl
theorem FJ {a:Type}(h:List a):h.filter (λ _=>true)=h:=F7.mpr λ _ _=>rfl
theorem CJ.comp (f:PV->PV)(k:OT C V O g d)(o:(Cd V c&&CQ g)=true)(s:(DY t).all (λ x=>((A3 c O).lookup x).isNone)=true)
 (w:∀x∈d,∃h,Dc c t x (A3 c O)=some h/\CJ C c h e (f x)) (z:d.length<=Bi):CJ C V O (.ListComp e [⟨t,g,[],0⟩] c p) (.list (d.map f)):=by
 have:=CJ.ci (p:=p) (ifs:=[]) (λ _=>true) f k o s (λ x A=>let⟨h,a,b⟩:=w x A;⟨h,a,.nil,λ _=>b⟩) z;rwa[FJ] at this
theorem CJ.gj (s:PV->Str)(w:PV->PV)(o:OT C V O d e)(H:(Cd V a&&CQ d)=true)(N:(DY t).all (λ x=>((A3 a O).lookup x).isNone)=true)
 (Q:∀x∈e,∃h,Dc a t x (A3 a O)=some h/\CJ C a h b (.str (s x))/\CJ C a h c (w x)) (W:e.length<=Bi):CJ C V O (.DictComp b c [⟨t,d,[],0⟩] a p) (.dict (OJ (e.map λ x=>(s x,w x)))):=by
 obtain⟨Z,o⟩:=o;obtain⟨f,A⟩:=N1 (C:=C) (V:=a) (emit:=λ k O=>((By C k).ev a O b).bind λ z=>(GE z).bind λ z=>((By C k).ev a O c).map λ v=>(z,v)) (it:=d) (ifs:=[]) (xs:=e) (λ _=>true) (λ x=>(s x,w x)) N (λ x g=>by
  obtain⟨h,i,⟨j,l⟩,n,q⟩:=Q x g;exact⟨h,i,.nil,λ _=>⟨j+n,λ k E=>by rw[l k ∅,q k ∅];rfl⟩⟩)
 rw[FJ] at A;refine⟨Z+f+1,λ k E=>?_⟩;obtain⟨m,rfl,u⟩:=Ou E;show(EO (By C m) V a O (λ O=>((By C m).ev a O b).bind λ k=>(GE k).bind λ k=>((By C m).ev a O c).map λ v=>(k,v)) [⟨t,d,[],0⟩]).map (λ r=>PV.dict (OJ r))=_;rw[Qq H (o m ∅) (A m ∅) (by rw[Ao];exact W)];rfl
theorem CJ.gl (o:PV->List PV)(q:PV->PV->Bool)(f:PV->PV->PV)(s:OT C V O it1 a)(Q:(Cd V sc'&&CQ it1)=true)(W:(DY t1).all (λ x=>((A3 sc' O).lookup x).isNone)=true)
 (Z:∀x∈a,∃h,Dc sc' t1 x (A3 sc' O)=some h/\OT C sc' h it2 (o x)/\(DY t2).all (λ x=>(h.lookup x).isNone)=true/\∀y∈o x,∃w,Dc sc' t2 y h=some w/\MA C sc' w ifs (q x y)/\(q x y=true->CJ C sc' w elt (f x y)))
 (b:(a.flatMap λ x=>((o x).filter (q x)).map (f x)).length<=Bi):CJ C V O (.ListComp elt [⟨t1,it1,[],0⟩,⟨t2,it2,ifs,0⟩] sc' p) (.list (a.flatMap λ x=>((o x).filter (q x)).map (f x))):=by
 obtain⟨c,s⟩:=s;obtain⟨d,e⟩:=dW (P:=λ k x=>∃h,Dc sc' t1 x (A3 sc' O)=some h/\(By C k).it sc' h it2=some (o x)/\Cc sc' ((By C k).ts sc') ((By C k).it sc') (λ O=>(By C k).ev sc' O elt) [⟨t2,it2,ifs,0⟩] h (o x)=some (((o x).filter (q x)).map (f x))) (xs:=a) λ x z=>by
  obtain⟨h,A,⟨g,E⟩,H,i⟩:=Z x z;obtain⟨j,l⟩:=N1 (C:=C) (V:=sc') (emit:=λ k O=>(By C k).ev sc' O elt) (t:=t2) (it:=it2) (ifs:=ifs) (ρ0:=h) (xs:=o x) (q x) (f x) H i;exact⟨g+j,λ k N=>⟨h,A,E k ∅,l k ∅⟩⟩
 refine⟨c+d+1,λ k N=>?_⟩;obtain⟨m,rfl,r⟩:=Ou N;show(EO (By C m) V sc' O (λ O=>(By C m).ev sc' O elt) [⟨t1,it1,[],0⟩,⟨t2,it2,ifs,0⟩]).map PV.list=_;have n:Cc sc' ((By C m).ts sc') ((By C m).it sc') (λ O=>(By C m).ev sc' O elt) [⟨t1,it1,[],0⟩,⟨t2,it2,ifs,0⟩] (A3 sc' O) a=some (a.flatMap λ x=>((o x).filter (q x)).map (f x)):=by
  rw[Cc,Ap ⟨rfl,W⟩,Hz (g:=λ x=>((o x).filter (q x)).map (f x)) λ x z=>?_]
  ·rfl
  ·obtain⟨h,A,E,H⟩:=e m ∅ x z;simp only[A,AX,F9,A0,E,H]
 rw[Qq Q (s m ∅) n b];rfl
end
structure E8 (W:BH)(A:Around)(sc:Scope)(env:Env)(hb:Heap)(t:Sem Flow)(ρ:AC)(fl:Fl):Prop where
 go:HI W A sc env hb t ρ fl
inductive G4 (W:BH)(A:Around)(sc:Scope)(env:Env)(hb:Heap)(t:Expr)(b o:List Stmt):List PV->AC->Fl->Prop
 |nil {ρ0 fl0}:E8 W A sc env hb (execs o env) ρ0 fl0->G4 W A sc env hb t b o [] ρ0 fl0
 |next {x0 xs0 ρ0 ρ1 ρ2 fl0}:DL sc t x0 ρ0=some ρ1->E8 W A sc env hb (execs b env) ρ1 (.next ρ2)->G4 W A sc env hb t b o xs0 ρ2 fl0->G4 W A sc env hb t b o (x0::xs0) ρ0 fl0
 |brk {x0 xs0 ρ0 ρ1 ρ2}:DL sc t x0 ρ0=some ρ1->E8 W A sc env hb (execs b env) ρ1 (.brk ρ2)->G4 W A sc env hb t b o (x0::xs0) ρ0 (.next ρ2)
 |ret {x0 xs0 ρ0 ρ1 d0}:DL sc t x0 ρ0=some ρ1->E8 W A sc env hb (execs b env) ρ1 (.ret d0)->G4 W A sc env hb t b o (x0::xs0) ρ0 (.ret d0)
theorem G4.jh (s:G4 W A V z N t b f (x::g) O e):∃k o,DL V t x O=some k/\E8 W A V z N (execs b z) k o/\(match o with | .next h=>G4 W A V z N t b f g h e | .brk h=>e=.next h | .ret d=>e=.ret d):=by
 cases s with
 |next a b c=>exact⟨_,_,a,b,c⟩
 |brk a b=>exact⟨_,_,a,b,rfl⟩
 |ret a b=>exact⟨_,_,a,b,rfl⟩
theorem G4.ib (h:G4 W A V z N t b a [] O c):E8 W A V z N (execs a z) O c:=by
 cases h;assumption
theorem RY {R:Result->Shared->Prop}{j:List PV}{t:Expr}{m:Fl}(B:XB W V z N)(hh:A.handled=none){b g:List Stmt}
 {I:Addr} {St:Nat->Heap->Prop} (L:LJ W A (I::X) I j St) (b0:I∉X) (b8:N.get? I=none) (b1:∀a∈Z,a∈X) (c8:∀a∈Ay z,a∈Z) (b9:∀a∈X,a∉Z->N.get? a=none)
 (c9:St 0 s.heap) (S:XS W V z N (I::Z) (I::X) s O) (e:G4 W A V z N t b g j O m)
 (hQ:D7 W V z N Z X s m λ f s'=>R (.ok f) s'):codeAny W.M A (.forLoop t (.ref I) b g z) R s:=by
 have c0:I∉Z:=λ q=>b0 (b1 _ q);have a2:I∉Ay z:=λ q=>c0 (c8 _ q);have d0:¬Ck V z I:=λ q=>a2 (by
  rcases q with q |⟨x,_,q⟩
  ·exact q▸Ac
  ·exact Bq q)
 have ne:∀{i:Nat}{h:Heap}{b:Addr}{g:Obj},St i h->h.get? b=some g->((b∉X/\Db g)\/(b∈Z/\¬Ck V z b/\g.cls≠.type "frame"/\g.cls≠.none))->b≠I:=λ{i h b g} st H hc q=>by
  subst q;rcases hc with⟨_,hd⟩ |⟨hz,_⟩
  ·obtain⟨o',M,_,_,_,hn⟩:=L.bq _ _ st;rw[H] at M;cases M;exact hn hd
  ·exact c0 hz
 have less:∀{i:Nat}{h u:Heap},St i h->BY V z (I::Z) (I::X) h u->BY V z Z X h u:=λ{i h u} st kd b g hc H=>by
  refine kd b g ?_ H;have d1:=ne st H hc;exact hc.imp (λ c=>⟨λ q=>(Ag.mp q).elim d1 c.1,c.2⟩) λ c=>⟨Ad _ c.1,c.2⟩
 have a3:∀{u:Heap}{D:Nat}{T:AC},XS W V z N (I::Z) (I::X) #[s,u,D] T->XS W V z N Z X #[s,u,D] T:=λ S'=>
  ⟨S'.F.be (λ _ _ _ e=>e) a2 b0 b1,S'.le,S'.tk,b9,S'.fc⟩
 have d6:∀{o:Heap}{k:Nat}{i:Nat},St i o->BY V z Z X s.heap o->s.toks<=k->∀{a9:Fl}{Q':Flow->Shared->Prop},D7 W V z N Z X s a9 Q'->D7 W V z N (I::Z) (I::X) #[s,o,k] a9 Q':=λ{o k i} st kd l{a9 Q'} h=>by
  cases a9 with
  |next O=>exact λ u D S k2 l2=>h u D (a3 S) (kd.trans (less st k2)) (Ab l l2)
  |brk O=>exact λ u D S k2 l2=>h u D (a3 S) (kd.trans (less st k2)) (Ab l l2)
  |ret d=>exact λ v u D b2 l2 r=>h v u D b2 (Ab l l2) (r.ag λ a ha=>Ad _ ha)
 refine GO (λ n s'=>∃u D T i,s'=#[s,u,D]/\i<=j.length/\n=j.length-i/\St i u/\XS W V z N (I::Z) (I::X) s' T/\BY V z Z X s.heap u/\s.toks<=D/\G4 W A V z N t b g (j.drop i) T m) (λ n s' hI=>?_) j.length
  ⟨s.heap,s.toks,O,0,rfl,BT _,rfl,c9,S,.refl,Am _,e⟩
 obtain⟨u,D,T,i,rfl,hi,hn,st,S',kd,l,e'⟩:=hI;obtain⟨oI,c1,c2,c3,d7,d8⟩:=L.bq _ _ st;have next:∀{o:Heap}{k:Nat},Heap.ExtBut I u o->(∃g,o.get? I=some g)->D<=k->XS W V z N (I::Z) (I::X) #[s,o,k] T/\BY V z Z X s.heap o:=λ{o k} w b3 U=>
  ⟨⟨S'.F.ext w Ac a2 b3,S'.le.ext b8 (λ g vs H hd=>by
      have M:u.get? I=some g:=H;rw[c1] at M;cases M;exact⟨c2,c3⟩) w,Ab S'.tk U,S'.fr,S'.fc.at λ g H=>w _ g (λ q=>a2 (q▸Ac)) H⟩,kd.trans λ b g hc H=>w b g (ne st H hc) H⟩
 by_cases b4:i<j.length
 ·have hx:j[i]? =some j[i]:=Bb b4;have hd:j.drop i=j[i]::j.drop (i+1):=DU b4;rw[hd] at e';refine Bw (n:=D) (Am _) (L.item i #[s,u,D] _ _ j[i] st hx λ v o k rv G w U=>?_);have Q:D<=k:=U;have b3:∃g,o.get? I=some g:=by obtain⟨g,H,_⟩:=L.bq _ _ G;exact⟨g,H⟩
  obtain⟨a0,b5⟩:=next w b3 Q;refine L.cr (i+1) #[s,o,k] _ _ t v G ?_;obtain⟨d9,f1,h1,h2,b6⟩:=e'.jh;refine Eh hh B a0 h1 rv λ y a4 c4 b7 c5=>?_;have a5:BY V z (I::Z) (I::X) o y:=b7.af λ a ha=>a0.F.bo ha;have a6:∀{y C:Heap},St (i+1) y->BY V z (I::Z) (I::X) y C->St (i+1) C:=λ{y C} E kd=>by
   obtain⟨oJ,c6,d2,e0,d3,e1⟩:=L.bq _ _ E;exact L.frame _ _ _ E (λ g H=>by rw[c6] at H;cases H;exact kd I _ (.inr ⟨Ac,d0,d3,d2⟩) c6) (λ b g N H d4=>kd b g (.inl ⟨N,d4⟩) H)
  have E:=a6 G a5;have a1:=b5.trans (less G a5);have a7:s.toks<=a4:=Ab l (Ab Q c5);refine h2.go (I::Z) (I::X) #[s,y,a4] _ _ c4 ?_;cases f1 with
  |next c7=>exact λ C p a8 J Y=>⟨n-1,∅,C,p,c7,i+1,rfl,b4,∅,a6 E J,a8,a1.trans (less E J),Ab a7 Y,b6⟩
  |brk c7=>cases b6;exact λ C p a8 J Y=>hQ C p (a3 a8) (a1.trans (less E J)) (Ab a7 Y)
  |ret d=>cases b6;exact λ v C p b2 Y r=>hQ v C p b2 (Ab a7 Y) (r.ag λ a ha=>Ad _ ha)
 ·have d5:i=j.length:=∅
  subst d5;rw[List.drop_length] at e';refine Bw (n:=D) (Am _) (L.done #[s,u,D] _ _ st λ o k w U=>?_);have Q:D<=k:=U;have a0:XS W V z N Z X #[s,o,k] T:=
   ⟨S'.F.be w a2 b0 b1,S'.le.ext b8 (λ g vs H hd=>by
    have M:u.get? I=some g:=H;rw[c1] at M;cases M;exact⟨c2,c3⟩) w,Ab S'.tk Q,b9,S'.fc.at λ g H=>w _ g (λ q=>a2 (q▸Ac)) H⟩
  exact e'.ib.go Z X #[s,o,k] _ _ a0 (hQ.ba (kd.trans λ b g hc H=>w b g (ne st H hc) H) (Ab l Q))
section
def V1 (a b:AC):Prop:=∀x h,a.lookup x=some h->b.lookup x=some h
theorem E8.pre (h:E8 W A V z N t O b)(k:V1 O a):E8 W A V z N t a b:=.mk λ Z X s Q E S o=>h.go Z X s Q E (S.ap k) o
theorem E8.post (h:E8 W A V z N t O (.next a))(o:V1 b a):E8 W A V z N t O (.next b):=.mk λ Z X s Q E S w=>h.go Z X s Q E S λ C H c k l=>w C H (c.ap o) k l
theorem E8.fh (h:E8 W A V z N t O (.brk a))(o:V1 b a):E8 W A V z N t O (.brk b):=.mk λ Z X s Q E S w=>h.go Z X s Q E S λ C H c k l=>w C H (c.ap o) k l
theorem EA:E8 W A V z N (execs [] z) O (.next O):=.mk λ Z X s Q E S h=>AZ (h s.heap s.toks S .refl (Am _))
theorem D5 {r:List Stmt}{st:Stmt}{b:Fl}{a:AC}(C:E8 W A V z N (exec st z) O (.next a))(H:E8 W A V z N (execs r z) a b):E8 W A V z N (execs (st::r) z) O b:=.mk λ Z X s Q E S c=>
 Al (C.go Z X s _ _ S λ k h o d w=>H.go Z X #[s,k,h] _ _ o (c.ba d w))
theorem CM {st:Stmt}{a:Fl}(b:E8 W A V z N (exec st z) O a):E8 W A V z N (execs [st] z) O a:=.mk λ Z X s Q E S C=>
 Al (b.go Z X s _ _ S (by
  cases a with
  |next H=>exact λ k h o c w=>AZ (C k h o c w)
  |brk H=>exact C
  |ret d=>exact C))
theorem Kv {r:List Stmt}{st:Stmt}{a:AC}(h:E8 W A V z N (exec st z) O (.brk a)):E8 W A V z N (execs (st::r) z) O (.brk a):=.mk λ Z X s Q E S k=>Al (h.go Z X s _ _ S k)
theorem Q0:E8 W A V z N (exec (.Break q) z) O (.brk O):=.mk λ Z X s Q E S h=>by rw[arm_exec_Break];exact Aa (AI (Af (h s.heap s.toks S .refl (Am _))))
variable (Gk:Dh W C k mg mb)(hA:Cg k A)(B:XB W V z N)
include Gk hA B
theorem eK {st:Stmt}{a:Fl}(h:∃n,∀j,n<=j->Ez (By C (j+1)) 0 V 1 O st=some a):E8 W A V z N (exec st z) O a:=by
 obtain⟨n,h⟩:=h;exact⟨G8 Gk hA (A2 Gk hA n) B 0 1 st O a (h n (Am _))⟩
theorem AW (h:CJ C V O v d)(k:AR V x=true)(o:EV v=true:=by rfl):E8 W A V z N (exec (.Assign [.Name x q] v a) z) O (.next (AM O x (.aa d))):=by
 obtain⟨n,h⟩:=h;exact eK Gk hA B ⟨n,λ j s=>GR (h (j+1) ∅) o k⟩
theorem Ey (H:QJ C V O t c)(g:E8 W A V z N (execs (if c then b else a) z) O d):E8 W A V z N (exec (.If t b a e) z) O d:=.mk λ Z X s Q E S i=>by
 obtain⟨n,H⟩:=H;refine Jz ((A2 Gk hA n V z).tst O t c (H n (Am _)) Z X s S.F (S.gd B) _ _ λ j w o h k f=>?_);subst f;have:=g.go Z X #[s,w,o] Q E (S.ac h k) (i.ba h.af k);cases j<;>exact this
theorem FC (h:UH C V O e d):E8 W A V z N (exec (.Return (some e) a) z) O (.ret d):=by
 obtain⟨n,h⟩:=h;exact .mk λ Z X s Q E S k=>O5 (A2 Gk hA n) B S (h n (Am _)) k
theorem Lc {c:Pos}{b:Pos}{xs:List PV}(w:(Bk a&&(b.endLine==c.line))=true)(H:O.lookup x=some (.own (.list xs)))(h:CJ C V O a d)(g:xs.length<Bi):
 E8 W A V z N (exec (.Expr (.Call (.Attribute (.Name x f) "append" b) [a] [] c) e) z) O (.next (AM O x (.own (.list (xs++[d]))))):=by
 obtain⟨n,h⟩:=h;refine .mk λ Z X s Q E S i=>Ia hA (A2 Gk hA n) B S ?_ i;show(if(([]:List Keyword).isEmpty&&Bk a&&(b.endLine==c.line))=true then(Gg O x).bind (λ d=>((By C n).ev V O a).bind λ k=>match d with
  | .list xs=>if("append":Str)==("append":Str) then(if xs.length<Bi then some (AM O x (.own (.list (xs++[k])))) else none)
   else if("append":Str)==("extend":Str) then(match k with | .list o=>if xs.length+o.length<=Bi then some (AM O x (.own (.list (xs++o)))) else none |_=>none) else none
  |_=>none) else none)=_
 rw[Ap (by simpa using w)];have j:Gg O x=some (.list xs):=by unfold Gg;rw[H]
 rw[j];simp only[AX,h n (Am _),DG,A0];rw[Ap g]
theorem Wm (w:(Bk a&&(b.endLine==c.line))=true)(H:O.lookup x=some (.own (.list xs)))(h:CJ C V O a (.list ys))(g:xs.length+ys.length<=Bi):
 E8 W A V z N (exec (.Expr (.Call (.Attribute (.Name x f) "extend" b) [a] [] c) e) z) O (.next (AM O x (.own (.list (xs++ys))))):=by
 obtain⟨n,h⟩:=h;refine .mk λ Z X s Q E S i=>Ia hA (A2 Gk hA n) B S ?_ i;show(if(([]:List Keyword).isEmpty&&Bk a&&(b.endLine==c.line))=true then(Gg O x).bind (λ d=>((By C n).ev V O a).bind λ o=>match d with
  | .list xs=>if("extend":Str)==("append":Str) then(if xs.length<Bi then some (AM O x (.own (.list (xs++[o])))) else none)
   else if("extend":Str)==("extend":Str) then(match o with | .list ys=>if xs.length+ys.length<=Bi then some (AM O x (.own (.list (xs++ys)))) else none |_=>none) else none
  |_=>none) else none)=_
 rw[Ap (by simpa using w)];have j:Gg O x=some (.list xs):=by unfold Gg;rw[H]
 have k:(("extend":Str)==("append":Str))=false:={_}
 rw[j];simp only[AX,h n (Am _),DG,A0,k,Aq,AS];rw[Ap g]
theorem TH (j:P8 i=true)(o:O.lookup x=some (.own d))(h:CJ C V O v b)(k:CJ C V O i a)(hd:Wu d a b=some c):
 E8 W A V z N (exec (.Assign [.Subscript (.Name x q) i e] v f) z) O (.next (AM O x (.own c))):=by
 obtain⟨w,h⟩:=h;obtain⟨H,k⟩:=k;exact .mk λ Z X s Q E S g=>LU (A2 Gk hA (w+H)) B S (by unfold Gg;rw[o]) (h _ ∅) (k _ ∅) hd g
theorem J0 (p:OT C V O d e)(T:G4 W A V z N t b c e O fl):E8 W A V z N (exec (.For t d b c f) z) O fl:=.mk λ Z X s Q E S U=>by
 obtain⟨n,p⟩:=p;have H:=A2 Gk hA n;have L:=hA.handled;obtain⟨Y,r⟩:=(H V z).itr O d e (p n (Am _));rw[QI];refine Aa (AI (Aa (r Z X s S.F (S.gd B) _ _ λ v w o g i rv=>Aa (AA (Y v) (Aa (AI (Aa (AF ?_))))))));have h:=S.ac g i;refine Eo (s:=#[s,w,o]) rv λ I j u x hk y=>?_;have l:I∉X:=λ q=>by obtain⟨c,M⟩:=h.F.ah I q;rw[u] at M;cases M
 have D:N.get? I=none:=E5 h.le u;have k:A8 W w j:=.ad hk;obtain⟨St,G,J⟩:=LJ.of (A:=A) (y l) Ac L;have m:XS W V z N (I::Z) (I::X) #[s,j,o] O:=
  ⟨h.F.fresh (B.am.trans h.le) k u x,h.le.trans k,h.tk,λ a ha R=>S.fr a ((Ag.mp ha).resolve_left λ q=>R (q▸Ac)) λ q=>R (Ad _ q),h.fc.bb k⟩
 refine Kl (h:=none) ?_;rw[GC];exact RY B L J l D S.F.zx S.F.aw S.fr G m T (U.ba ((g.trans k).af) i)
end
section
inductive dP (W:BH)(A:Around)(C:Ge)(sc:Scope)(env:Env)(hb:Heap)(t:Expr)(b o:List Stmt):Nat->AC->Fl->Prop
 |stop {n0 ρ0 fl0}:QJ C sc ρ0 t false->E8 W A sc env hb (execs o env) ρ0 fl0->dP W A C sc env hb t b o (n0+1) ρ0 fl0
 |next {n0 ρ0 ρ20 fl0}:QJ C sc ρ0 t true->E8 W A sc env hb (execs b env) ρ0 (.next ρ20)->dP W A C sc env hb t b o n0 ρ20 fl0->dP W A C sc env hb t b o (n0+1) ρ0 fl0
 |brk {n0 ρ0 ρb}:QJ C sc ρ0 t true->E8 W A sc env hb (execs b env) ρ0 (.brk ρb)->dP W A C sc env hb t b o (n0+1) ρ0 (.next ρb)
theorem Wl (R:Dh W C k mg mb)(T:Cg k A)(B:XB W V z N)(U:dP W A C V z N t b a n O d):E8 W A V z N (exec (.While t b a e) z) O d:=.mk λ Z X s Q E S M=>by
 refine wpAny_While (codeAny_whileLoop (λ n J=>∃G I j,J=#[s,G,I]/\XS W V z N Z X J j/\BY V z Z X s.heap G/\s.toks<=I/\dP W A C V z N t b a n j d) (λ n J Y=>?_) n ⟨s.heap,s.toks,O,rfl,S,.refl,Am _,U⟩);obtain⟨G,I,j,rfl,L,kd,l,e'⟩:=Y;have step:∀{c:Bool},QJ C V j t c->∀{Q:Bool->Shared->Prop}{E:JD},(∀o h,XS W V z N Z X #[s,o,h] j->BY V z Z X s.heap o->s.toks<=h->Q c #[s,o,h])->wpAny W.M A (isTrue t z (eval t z)) Q E #[s,G,I]:=λ{c} v{Q E} hq=>by
  obtain⟨m,v⟩:=v;refine(A2 R T m V z).tst j t c (v m (Am _)) Z X _ L.F (L.gd B) _ _ λ b' o h x w p=>?_;subst p;exact hq o h (L.ac x w) (kd.trans x.af) (Ab l w)
 cases e' with
 |stop v ho=>
  refine step v λ o h f H w=>?_;simp only[Aq,AS];have y:=M.ba H w;refine ho.go Z X #[s,o,h] _ _ f ?_;exact y
 |@next n _ D _ v p hr=>
  refine step v λ o h f H w=>?_;simp only[A0];exact p.go Z X #[s,o,h] _ _ f λ q g r i u=>⟨n,Eu _,q,g,D,rfl,r,H.trans i,Ab w u,hr⟩
 |@brk n _ D v p=>
  refine step v λ o h f H w=>?_;simp only[A0];exact p.go Z X #[s,o,h] _ _ f λ q g r i u=>M q g r (H.trans i) (Ab w u)
structure So (W:BH)(A:Around)(sc:Scope)(env:Env)(hb:Heap)(sts:List Stmt)(ρ:AC)(d:PV):Prop where
 go:∀(Z X:List Addr)(s:Shared)(Q:Flow->Shared->Prop)(E:JD),XS W sc env hb Z X s ρ->(∀v h' tk,A8 W hb h'->s.toks<=tk->Rp W Z h' v d->Q (.ret v) #[s,h',tk])->wpAny W.M A (execs sts env) Q E s
theorem JJ {d:PV}{r:List Stmt}{st:Stmt}{ρ1:AC}(c:E8 W A V z N (exec st z) O (.next ρ1))(e:So W A V z N r ρ1 d):So W A V z N (st::r) O d:=.mk λ Z X s Q E S f=>
 Al (c.go Z X s _ _ S λ o h w i C=>e.go Z X #[s,o,h] Q E w λ v H k b a g=>f v H k b (Ab C a) g)
theorem HV {d:PV}{r:List Stmt}{st:Stmt}(C:E8 W A V z N (exec st z) O (.ret d)):So W A V z N (st::r) O d:=.mk λ Z X s Q E S H=>
 Al (C.go Z X s _ _ S λ v k h w o a=>H v k h w o a)
theorem SD (D:Dh W C k mg mb)(L:Cg k A)(B:XB W V z N)(G:Ll (By C n) V O v=some d')(l:(AR V x&&P5 O x)=true)(M:So W A V z N r (AM O x (.own d')) d):So W A V z N (.Assign [.Name x q] v c::r) O d:=.mk λ Z X s Q E S R=>by
 rw[Ah] at l;have⟨T,I⟩:=OD G;obtain⟨b,m,p⟩:=JY (z:=z) (t:=.Name x q) rfl T c.line;have t:b=false:=by
  cases b with
  |false=>rfl
  |true=>rw[(p rfl).1] at I;cases I
 subst t;refine Al (Bf rfl m (HX rfl (.inr ⟨x,q,rfl⟩)) (Go D (A2 D L n) S.F (S.gd B) G λ a J u U w H Y=>?_));exact Pb B S l.1 (SS l.2) U w H Y λ e h f g=>M.go Z (a::X) #[s,e,h] Q _ f λ v i o y j rv=>R v i o y (Ab g j) rv
theorem Mk (l:EF W a fd f c)(m:∀args d,g args=some d->args.length=f.length/\∀A h H,Cg k A->XB W fd.scope h H->So W A fd.scope h H c (f.zip (args.map BL.aa)) d):EG W (k+1) a g:=
 λ A s X args V d Z G n r e Q E p=>by
  obtain⟨q,t⟩:=m args d e;refine Eg l Z G n (ID.fj r) (by simpa using q) λ h i N x B j w S=>?_;exact(t _ h _ (Z.down h) B).go _ _ _ _ _ S λ v z o O C u=>p v z o O (Ab w C) (u.ag λ b H=>Au.mpr (.inr H))
end
structure OP (W:BH)(A:Around)(sc:Scope)(env:Env)(hb:Heap)(Cl:Addr)(sts:List Stmt)(ρ:AC)(out:eC):Prop where
 go:∀(Z X:List Addr)(s:Shared)(Q:Flow->Shared->Prop)(E:JD),XS W sc env hb Z X s ρ->(∀d,out=.ret d->∀v h' tk,A8 W hb h'->s.toks<=tk->Rp W Z h' v d->Q (.ret v) #[s,h',tk])->
  (∀x w,out=.gi x w->∀h' tk e t,CF env h'->s.toks<=tk->PyData.strOk w=true->w.length<=Bi->It W hb h' e (.ref Cl) (.str w t)->E (.ref e) #[s,h',tk])->wpAny W.M A (execs sts env) Q E s
section
theorem JH {Cl:Addr}{r:List Stmt}{st:Stmt}{a:AC}{b:eC}(i:E8 W A V z N (exec st z) O (.next a))(j:OP W A V z N Cl r a b):OP W A V z N Cl (st::r) O b:=.mk λ Z X s Q E S l m=>
 Al (i.go Z X s _ _ S λ c H f B C=>j.go Z X #[s,c,H] Q E f (λ d hd v k h g o n=>l d hd v k h g (Ab C o) n) λ x w p k h e t q o u y F=>m x w p k h e t q (Ab C o) u y F)
theorem SA {Cl:Addr}{d:PV}{r:List Stmt}{st:Stmt}(C:E8 W A V z N (exec st z) O (.ret d)):OP W A V z N Cl (st::r) O (.ret d):=.mk λ Z X s Q E S H b=>
 Al (C.go Z X s _ _ S λ v k h w o a=>H d rfl v k h w o a)
theorem M5 {Cl:Addr}{r:List Stmt}{c:Pos}{t:Expr}{a:eC}(h:Dh W C k mg mb)(o:Cg k A)(B:XB W V z N){b:List Stmt}(s:QJ C V O t false)(w:OP W A V z N Cl r O a):OP W A V z N Cl (.If t b [] c::r) O a:=
 JH (Ey h o B s (by rw[Ak (_)];exact EA)) w
theorem aZ {Cl:Addr}{e:List Value}{r:List Stmt}{g f d:Pos}{t:Expr}{x:Str}(m:Dh W C k mg mb)(n:Cg k A)(B:XB W V z N){a:Expr}{b:Str}{c:Pos}(p:QJ C V O t true)(I:D8 W mg x Cl e)(J:Bz V x=true)(L:Bk a=true)(q:CJ C V O a (.str b)):
 OP W A V z N Cl (.If t [.Raise (some (.Call (.Name x f) [a] [] g)) none c] [] d::r) O (.gi x b):=.mk λ Z X s Q E S hQ M=>by
 obtain⟨y,p⟩:=p;obtain⟨D,q⟩:=q;refine Al (Jz ((A2 m n y V z).tst O t true (p y (Am _)) Z X s S.F (S.gd B) _ _ λ b' G u H o v=>?_));subst v;simp only[A0];have h:=S.ac H o;refine Al (L8 m n (A2 m n D) B I h L J (q D (Am _)) λ i w R T j l U Y F=>?_);exact M x b rfl i w R T ((h.fc).bb j) (Ab o l) U Y (F.ew h.le)
theorem Yv {Cl a:Addr}{g:List Value}{c:List Stmt}{l:List Env}{i:List Str}{f:eC}(J:EF W a fd i c){args:List PV}(U:args.length=i.length)(Y:∀A h q,Cg k A->XB W fd.scope h q->OP W A fd.scope h q Cl c (i.zip (args.map BL.aa)) f)
 (L:Cg (k+1) A) (u:A.frames=some l) (St:AQ W s.heap l) (G:Gd W s) (hX:∀b∈X,W.h0.get? b=none/\∃o,s.heap.get? b=some o) (r:RpL W X s.heap g args)
 (hQ:∀d,f=.ret d->∀v O j,A8 W s.heap O->s.toks<=j->Rp W X O v d->Q v #[s,O,j])
 (hE:∀x w,f=.gi x w->∀O j e t,s.toks<=j->PyData.strOk w=true->w.length<=Bi->It W s.heap O e (.ref Cl) (.str w t)->AQ W O l->E (.ref e) #[s,O,j]):
 wpAny W.M A (call (.ref a) g) Q E s:=by
 refine Eg J L G hX (ID.fj r) (by simpa using U) λ h M y R B T N S=>?_;have m:(A.deeper h).frames=some (h::l):=by show A.frames.map (h::·)=_;rw[u];rfl
 refine(Y _ h _ (L.down h) B).go _ _ _ _ _ S (λ d hd v C z D H rv=>?_) λ x w hx C z e' t fc H o1 z1 F=>?_
 ·exact hQ d hd v C z D (Ab N H) (rv.ag λ b q=>Au.mpr (.inr q))
 ·have V:W.h0.get? h.locals=none:=(S.F.alive h.locals (S.F.zx _ (S.F.aw _ Ac))).1;have I:AQ W C (h::l):=⟨by rw[R];show fd.scope.kind≠_;rw[J.kind];simp,by rw[R];rfl,V,fc,St.bb F.1⟩;exact It.be (s:=#[s,C,z]) (_) m I F λ n p Z=>hE x w hx n z e' t (Ab N H) o1 z1 p Z.2.2.2.2
theorem Z2 {Cl a:Addr}{c:List Stmt}{f:List Str}(m:EF W a fd f c){g:List PV->Option PV}(n:∀args d,g args=some d->args.length=f.length/\∀A h N,Cg k A->XB W fd.scope h N->OP W A fd.scope h N Cl c (f.zip (args.map BL.aa)) (.ret d)):EG W (k+1) a g:=
 λ A s X args Z d i G p r e Q E q=>by
  obtain⟨t,u⟩:=n args d e;refine Eg m i G p (ID.fj r) (by simpa using t) λ h j O I B l z S=>?_;exact(u _ h _ (i.down h) B).go _ _ _ _ _ S (λ J hd v C o V H y=>by cases hd;exact q v C o V (Ab z H) (y.ag λ b N=>Au.mpr (.inr N))) λ x w D=>nomatch D
theorem eJ {Cl a:Addr}{f:List Value}{c:List Stmt}{l:List Env}{g:List Str}{x:Str}(H:EF W a fd g c){args:List PV}{i:Str}(N:args.length=g.length)(O:∀A h C,Cg k A->XB W fd.scope h C->OP W A fd.scope h C Cl c (g.zip (args.map BL.aa)) (.gi x i))
 (V:Cg (k+1) A) (w:A.frames=some l) (St:AQ W s.heap l) (G:Gd W s) (Z:∀b∈X,W.h0.get? b=none/\∃o,s.heap.get? b=some o) (r:RpL W X s.heap f args):Rz W A (call (.ref a) f) s l Cl i:=
 λ Q E j=>Yv H N O V w St G Z r (λ d hd=>nomatch hd) λ v y m n p e t l q u F z=>by cases m;exact j n p e t l q u F z
end
variable {m:Str->Option Value} in
def NC:List PV->Option PV
 |[.int m]=>some (.int (Builtin.bitAnd m 4095))
 |_=>none
theorem Zo (I:Hb w h)(T:DB a b mg mb h)(o:GW w h C k mg mb):EG (W1 w h) (k+1) 93 NC:=by
 refine Mk (R3 I T) λ args d e=>?_;unfold NC at e;split at e<;>cases e;rename_i m;refine⟨rfl,λ A s E z B=>?_⟩
 conv in Bp P1 12=>whnf
 exact HV (FC o z B (.ev (.ai (.aa (d:=.int m) ⋯) .int rfl) rfl))
variable {m:Str->Option Value} in
def Pp:List PV->Option PV
 |[.int m]=>some (.int (Builtin.bitAnd m 61440))
 |_=>none
theorem cT (I:Hb w h)(T:DB a b mg mb h)(o:GW w h C k mg mb):EG (W1 w h) (k+1) 100 Pp:=by
 refine Mk (Uh I T) λ args d e=>?_;unfold Pp at e;split at e<;>cases e;rename_i m;refine⟨rfl,λ A s E z B=>?_⟩
 conv in Bp P1 13=>whnf
 exact HV (FC o z B (.ev (.ai (.aa (d:=.int m) ⋯) .int rfl) rfl))
theorem EQ (h:x.length+y.length<=Bi):EY .Add (.str x) (.str y)=some (.str (x++y)):=by
 show(if x.length+y.length<=Bi then some (PV.str (x++y)) else none)=_;rw[Ap h]
theorem fJ (x y:Str):IG .Eq (.str x) (.str y)=some (decide (x=y)):=rfl
theorem aD (x y:Str):IG .NotEq (.str x) (.str y)=some (!decide (x=y)):=rfl
theorem R7 (x y:Int):IG .Eq (.int x) (.int y)=some (decide (x=y)):=rfl
theorem YI (k:Ix y=true)(o:Ix a=true)(h:(y==a)=false)(s:x.length+(x.length+1)*a.length<=16777216)(w:Ix (Txt.replace x y a)=true):
 HZ (.str x) [.Constant (.str y) c d,.Constant (.str a) b e]=some (.str (Txt.replace x y a)):=by
 show(if(Ix y&&Ix a&&!(y==a)&&decide (x.length+(x.length+1)*a.length<=16777216)&&Ix (Txt.replace x y a))=true then some (PV.str (Txt.replace x y a)) else none)=_;rw[Ap];rw[k,o,h,w,Bv s];rfl
theorem Nw (x y:Str):(x++y).length=x.length+y.length:=by
 show(x.cps++y.cps).size=x.cps.size+y.cps.size;simp
def XQ (x:Str):Str:=Txt.replace x "\"" "\"\""
def eM:Nat->Str
 |0=>"" |1=>" made" |2=>" \"new\"" |3=>"" |4=>" made" |_=>" \"new\""
def D6 (x:Str)(n:Nat):Str:=if x=""/\n=1 then "257 made" else((("257 \"":Str)++XQ x)++"\"")++eM n
def Gp (x:Str):Bool:=Ix x&&Ix (XQ x)&&decide (x.length<=1000)&&decide ((XQ x).length<=3000)
variable {i:Nat}{x:Str} in
def Mi:List PV->Option PV
 |[.str x,.int i]=>if Gp x=true/\0<=i/\i<6 then some (.str (D6 x i.toNat)) else none
 |_=>none
theorem cS (I:Hb w h)(T:DB a b mg mb h)(N:GW w h C k mg mb):EG (W1 w h) (k+1) 147 Mi:=by
 refine Mk (Ug I T) λ args d e=>?_;unfold Mi at e;split at e
 ·rename_i x i;split at e<;>cases e;rename_i s;obtain⟨s,G,J⟩:=s;unfold Gp at s;simp only[Ah,AK] at s;obtain⟨⟨⟨L,Z⟩,M⟩,R⟩:=s;obtain⟨n,rfl⟩:∃n:Nat,i=(n:Int):=⟨i.toNat,∅⟩;have V:n<6:=∅
  refine⟨rfl,λ A c S O B=>?_⟩
  conv in Bp P1 36=>whnf
  have o:∀{f g j l m p r:Pos}{t u:Nat},QJ C (Dq w 147).scope ((["name","place"]:List Str).zip ([PV.str x,PV.int n].map BL.aa)) (.BoolOp .And [.Compare (.Name "name" f) [.Eq] [.Constant (.str "") t g] j,.Compare (.Name "place" l) [.Eq] [.Constant (.int 1) u m] p] r) (decide (x="")&&(decide ((n:Int)=1)&&true)):=λ{_ _ _ _ _ _ _ _ _}=>
   .all (.cj (.ar (.aa (d:=.str x) ⋯) (.ae (d:=.str "") ⋯) rfl rfl (fJ _ _)) λ _=>.cj (.ar (.aa (d:=.int n) ⋯) .int rfl rfl (R7 _ _)) λ _=>.nil)
  by_cases z:x=""/\n=1
  ·have Q:(decide (x="")&&(decide ((n:Int)=1)&&true))=true:=by rw[z.1,z.2];rfl
   rw[Q] at o;refine HV (Ey N O B o ?_);rw[Ap rfl];refine CM (FC N O B (.ev (.ae ?_) rfl));unfold D6;rw[show(n:Int).toNat=n from rfl,Ap z];kernel_rfl
  ·have Q:(decide (x="")&&(decide ((n:Int)=1)&&true))=false:=by
    cases q:(decide (x="")&&(decide ((n:Int)=1)&&true)) with
    |false=>rfl
    |true=>
     simp only[Ah,AK,and_true] at q;exact absurd ⟨q.1,∅⟩ z
   rw[Q] at o;refine JJ (Ey N O B o (by rw[Ak (_)];exact EA)) ?_;have U:(XQ x).length+20<=Bi:=by
    have:(3020:Nat)<=Bi:={_}
    omega
   have E:("257 \"":Str).length=5:={_}
   have H:("\"":Str).length=1:={_}
   have W:(("257 \"":Str)++XQ x).length=5+(XQ x).length:=by rw[Nw,E]
   have v:((("257 \"":Str)++XQ x)++"\"").length=5+(XQ x).length+1:=by rw[Nw,W,H]
   have Y:(eM n).length<=6:=by
    have:∀n<6,(eM n).length<=6:={_}
    exact this n V
   refine HV (FC N O B (.ev (.ai (.ai (.ai (.ae (d:=.str "257 \"") ⋯) (.gw {_} (by rfl) (.aa (d:=.str x) ⋯) (YI {_} {_} {_} (by
    have y:("\"\"":Str).length=2:={_}
    rw[y];omega) Z)) (EQ (by rw[E];show 5+(XQ x).length<=Bi;omega))) (.ae (d:=.str "\"") ⋯) (EQ (by rw[show Txt.replace x "\"" "\"\""=XQ x from rfl,W,H];omega))) (.aj (b:=.list [.str "",.str " made",.str " \"new\""]) (kd:=.int ((n:Int).fmod 3)) (d:=.str (eM n)) (.ev (.list (.cons (.ae (d:=.str "") ⋯) (.cons (.ae (d:=.str " made") ⋯) (.cons (.ae (d:=.str " \"new\"") ⋯) .nil rfl) rfl) rfl) {_}) rfl) (.ai (.aa (d:=.int n) ⋯) .int rfl) rfl ?_) ?_) rfl))
   ·match n,V with
    |0,_=>kernel_rfl
    |1,_=>kernel_rfl
    |2,_=>kernel_rfl
    |3,_=>kernel_rfl
    |4,_=>kernel_rfl
    |5,_=>kernel_rfl
   ·have D:((("257 \"":Str)++XQ x)++"\"").length+(eM n).length<=Bi:=by rw[v];omega
    refine(EQ D).trans ?_;unfold D6;rw[show(n:Int).toNat=n from rfl,Ak z]
 ·cases e
def DE (c:Nat):Str:=⟨#[c]⟩
def A5 (l:List Nat):Str:=⟨l.toArray⟩
theorem Ed (a b:List Nat):A5 a++A5 b=A5 (a++b):=by
 show(⟨a.toArray++b.toArray⟩:Str)=⟨(a++b).toArray⟩;simp
theorem B1 (a:List Nat):(A5 a).length=a.length:=by show a.toArray.size=_;simp
theorem M8 (h:i=a.length)(k:(a++c::b).length<=Bi):DS (.str (A5 (a++c::b))) (.int (i:Int))=some (.str (DE c)):=by
 subst h;have o:(A5 (a++c::b)).length=a.length+(b.length+1):=by rw[B1];simp
 have s:Lu ((a.length:Nat):Int)=true:=by
  unfold Lu;have:Bi=1048576:=rfl;simp at k ⊢;omega
 have w:seqIndex? ((a.length:Nat):Int) (a.length+(b.length+1))=some a.length:=by
  unfold seqIndex?;simp;omega
 have z:(A5 (a++c::b)).cps[a.length]? =some c:=by
  show(a++c::b).toArray[a.length]? =_;simp
 show(if Lu ((a.length:Nat):Int)=true then((seqIndex? ((a.length:Nat):Int) (A5 (a++c::b)).length).bind ((A5 (a++c::b)).cps[·]?)).map (λ c=>PV.str ⟨#[c]⟩) else none)=_
 rw[Ap s,o,w];simp only[AX,z,MY];rfl
def CS (l:List Nat):List Nat:=l.flatMap λ c=>if c=34 then[34,34] else[c]
def Gc (x d:Str)(i n:Int):AC:=[("resp",.aa (.str x)),("dirname",.aa (.str d)),("i",.aa (.int i)),("n",.aa (.int n))]
def H7 (x d:Str)(i n:Int)(c:Str):AC:=[("resp",.aa (.str x)),("dirname",.aa (.str d)),("i",.aa (.int i)),("n",.aa (.int n)),("c",.aa (.str c))]
def Xi:List Str:=["resp","dirname","i","n"]
variable {b:PV}{t:Expr} in
def Fd:Expr×List Stmt×List Stmt:=match Bp P1 10 with
 |[_,_,_,_,_,.While t b o _,_]=>(t,b,o)
 |_=>default
theorem Dg:V1 (Ci a O) O:=λ x h e=>Er a x h O e
theorem aE (x y:Int):IG .Lt (.int x) (.int y)=some (decide (x<y)):=rfl
theorem gX (x y:Int):IG .GtE (.int x) (.int y)=some (decide (y<=x)):=rfl
theorem V0 (x y:Int):EY .Add (.int x) (.int y)=some (.int (x+y)):=rfl
theorem N8 (c:Nat):decide (DE c="\"")=decide (c=34):=by
 have:("\"":Str)=DE 34:=⋯
 rw[this];by_cases q:c=34
 ·subst q;simp
 ·rw[Bs q];refine Bs λ e=>q ?_;have:(DE c).cps=(DE 34).cps:=by rw[e]
  have:#[c]= #[34]:=this;simpa using this
theorem PN (o:GW w h C k mg mb)(s:Cg k A)(B:Ip w h 86 z N){a:List Nat}(E:(a++c::b).length<=Bi)
 (H:E8 (W1 w h) A (Dq w 86).scope z N (execs r z) (H7 (A5 (a++c::b)) d ((a.length:Nat)+1) f (DE c)) m):
 E8 (W1 w h) A (Dq w 86).scope z N (execs (.Assign [.Name "c" n] (.Subscript (.Name "resp" p) (.Name "i" q) t) u::.Assign [.Name "i" v] (.BinOp (.Name "i" i) .Add (.Constant (.int 1) x j) l) g::r) z) (Gc (A5 (a++c::b)) d (a.length:Nat) f) m:=by
 refine D5 (AW o s B (x:="c") (.aj (.aa (d:=.str (A5 (a++c::b))) ⋯) (.aa (d:=.int (a.length:Nat)) ⋯) rfl (M8 rfl E)) ⋯) ?_;refine D5 (AW o s B (x:="i") (.ai (.aa (d:=.int (a.length:Nat)) ⋯) .int (V0 _ _)) ⋯) ?_;have e:AM (AM (Gc (A5 (a++c::b)) d (a.length:Nat) f) "c" (.aa (.str (DE c)))) "i" (.aa (.int ((a.length:Nat)+1)))=H7 (A5 (a++c::b)) d ((a.length:Nat)+1) f (DE c):=⋯
 rw[e];exact H
theorem Qc (H:GW w h C k mg mb)(O:Cg k A)(B:Ip w h 86 z N)(W:a.head?≠some 34):∀(E o:List Nat)(d:List Nat),(o++(CS E++34::a)).length<=Bi->d.length+E.length<=Bi->
 dP (W1 w h) A C (Dq w 86).scope z N Fd.1 Fd.2.1 Fd.2.2 (E.length+1) (Gc (A5 (o++(CS E++34::a))) (A5 d) (o.length:Nat) ((o++(CS E++34::a)).length:Nat)) (.next (Gc (A5 (o++(CS E++34::a))) (A5 (d++E)) ((o++(CS E++[34])).length:Nat) ((o++(CS E++34::a)).length:Nat)))
 |[],o,d,Q,hd=>by
   have g:(o++34::a).length<=Bi:=Q;refine .brk (ρb:=Gc (A5 (o++(CS []++34::a))) (A5 (d++[])) ((o++(CS []++[34])).length:Nat) ((o++(CS []++34::a)).length:Nat)) ?_ ?_
   ·conv in Fd.1=>whnf
    refine .ar (.aa (d:=.int (o.length:Nat)) ⋯) (.aa (d:=.int ((o++(CS []++34::a)).length:Nat)) ⋯) rfl rfl ((aE _ _).trans ?_);rw[Bv];simp[CS];omega
   ·conv in Fd.2.1=>whnf
    show E8 _ _ _ _ _ _ (Gc (A5 (o++34::a)) (A5 d) (o.length:Nat) ((o++34::a).length:Nat)) _;refine PN H O B g ?_;have Z:Gc (A5 (o++(CS []++34::a))) (A5 (d++[])) ((o++(CS []++[34])).length:Nat) ((o++(CS []++34::a)).length:Nat)=Gc (A5 (o++34::a)) (A5 d) ((o.length:Nat)+1) ((o++34::a).length:Nat):=by
     rw[Cj];have:(o++(CS []++[34])).length=o.length+1:=by simp[CS]
     rw[this];rfl
    rw[Z];have i:Ci Xi (H7 (A5 (o++34::a)) (A5 d) ((o.length:Nat)+1) ((o++34::a).length:Nat) (DE 34))=Gc (A5 (o++34::a)) (A5 d) ((o.length:Nat)+1) ((o++34::a).length:Nat):=⋯
    rw[<-i];refine Kv (E8.fh ?_ Dg);refine Ey H O B (c:=true) (.ar (.aa (d:=.str (DE 34)) ⋯) (.ae (d:=.str "\"") ⋯) rfl rfl ((fJ _ _).trans (by rw[N8];rfl))) ?_;rw[Ap rfl];refine Kv (Ey H O B (c:=true) ?_ (by rw[Ap rfl];exact CM Q0));cases a with
    |nil=>
     have t1:∀u:Bool,(decide (((o++[34]).length:Nat)<=((o.length:Nat):Int)+1)||u)=true:=λ u=>by
      rw[Bv (_)];rfl
     refine Eq.mp (Cb _ (t1 false)) (.all (.bv (.ar (.aa (d:=.int ((o.length:Nat)+1)) ⋯) (.aa (d:=.int ((o++[34]).length:Nat)) ⋯) rfl rfl (gX _ _)) λ q=>?_));rw[Bv (_)] at q;cases q
    |cons t0 V=>
     have x:t0≠34:=λ q=>W (by rw[q];rfl);have y:((o++[34])++t0::V).length<=Bi:=by simpa using g
     have D:o++34::t0::V=(o++[34])++t0::V:=(_)
     have r:DS (.str (A5 (o++34::t0::V))) (.int ((o.length:Nat)+1))=some (.str (DE t0)):=by
      rw[D];have:=M8 (a:=o++[34]) (b:=V) (c:=t0) (i:=o.length+1) (_) y;exact this
     have t1:(decide (((o++34::t0::V).length:Nat)<=((o.length:Nat):Int)+1)||((!decide (DE t0="\""))||false))=true:=by
      rw[N8,Bs x];simp
     refine Eq.mp (Cb _ t1) (.all (.bv (.ar (.aa (d:=.int ((o.length:Nat)+1)) ⋯) (.aa (d:=.int ((o++34::t0::V).length:Nat)) ⋯) rfl rfl (gX _ _)) λ q=>.bv (.ar (.aj (.aa (d:=.str (A5 (o++34::t0::V))) ⋯) (.aa (d:=.int ((o.length:Nat)+1)) ⋯) rfl r) (.ae (d:=.str "\"") ⋯) rfl rfl (aD _ _)) λ _=>.nil))
  |c::s,o,d,Q,hd=>by
   have j:(A5 d).length+(DE c).length<=Bi:=by
    rw[B1];have:(DE c).length=1:=rfl;rw[this];simp at hd;omega
   have l:A5 d++DE c=A5 (d++[c]):=Ed d [c];have m:(d++[c]).length+s.length<=Bi:=by simp at hd ⊢;omega
   by_cases q:c=34
   ·subst q;have e:o++(CS (34::s)++34::a)=o++34::(34::(CS s++34::a)):=by simp[CS]
    have Z:o++34::(34::(CS s++34::a))=(o++[34,34])++(CS s++34::a):=(_)
    have n:o++34::(34::(CS s++34::a))=(o++[34])++34::(CS s++34::a):=(_)
    have i:(o++(CS (34::s)++[34])).length=((o++[34,34])++(CS s++[34])).length:=by simp[CS]
    have p:=Qc H O B W s (o++[34,34]) (d++[34]) (by rw[<-Z,<-e];exact Q) m;rw[i,e];rw[e] at Q;rw[show d++34::s=(d++[34])++s by simp];rw[<-Z] at p;refine .next ?_ ?_ p
    ·conv in Fd.1=>whnf
     refine .ar (.aa (d:=.int (o.length:Nat)) ⋯) (.aa (d:=.int ((o++34::(34::(CS s++34::a))).length:Nat)) ⋯) rfl rfl ((aE _ _).trans ?_);rw[Bv];simp;omega
    ·conv in Fd.2.1=>whnf
     refine PN H O B Q ?_;have r:DS (.str (A5 (o++34::(34::(CS s++34::a))))) (.int ((o.length:Nat)+1))=some (.str (DE 34)):=by
      have:=M8 (a:=o++[34]) (b:=CS s++34::a) (c:=34) (i:=o.length+1) (_) (by rw[<-n];exact Q);rw[<-n] at this;exact this
     have v:decide (((o++34::(34::(CS s++34::a))).length:Nat)<=((o.length:Nat):Int)+1)=false:=by
      refine Bs ?_;simp;omega
     have t1:(decide (((o++34::(34::(CS s++34::a))).length:Nat)<=((o.length:Nat):Int)+1)||((!decide (DE 34="\""))||false))=false:=by
      rw[v,N8];rfl
     generalize G:o++34::(34::(CS s++34::a))=X at r t1 v;have f:E8 (W1 w h) A (Dq w 86).scope z N (execs ((λ st=>match st with | .If _ b _ _=>b |_=>[]) (Fd.2.1.getD 2 (.Pass default))) z) (H7 (A5 X) (A5 d) ((o.length:Nat)+1) (X.length:Nat) (DE 34)) (.next (H7 (A5 X) (A5 d) ((o.length:Nat)+1+1) (X.length:Nat) (DE 34))):=by
      conv in (Fd.2.1.getD 2 _)=>whnf
      show E8 (W1 w h) A (Dq w 86).scope z N (execs (_::_) z) _ _;refine D5 (Ey H O B (c:=false) ?_ (by rw[Ak (_)];exact EA)) (CM ?_)
      ·exact Eq.mp (Cb _ t1) (.all (.bv (.ar (.aa (d:=.int ((o.length:Nat)+1)) ⋯) (.aa (d:=.int (X.length:Nat)) ⋯) rfl rfl (gX _ _)) λ q=>.bv (.ar (.aj (.aa (d:=.str (A5 X)) ⋯) (.aa (d:=.int ((o.length:Nat)+1)) ⋯) rfl r) (.ae (d:=.str "\"") ⋯) rfl rfl (aD _ _)) λ _=>.nil))
      ·exact AW H O B (x:="i") (.ai (.aa (d:=.int ((o.length:Nat)+1)) ⋯) .int (V0 _ _)) ⋯
     refine D5 (Ey H O B (c:=true) (.ar (.aa (d:=.str (DE 34)) ⋯) (.ae (d:=.str "\"") ⋯) rfl rfl ((fJ _ _).trans (by rw[N8];rfl))) (by rw[Ap rfl];exact f)) (CM ?_);have t:Ci Xi (AM (H7 (A5 X) (A5 d) ((o.length:Nat)+1+1) (X.length:Nat) (DE 34)) "dirname" (.aa (.str (A5 (d++[34])))))=Gc (A5 X) (A5 (d++[34])) ((o++[34,34]).length:Nat) (X.length:Nat):=by
      have:(((o++[34,34]).length:Nat):Int)=(o.length:Nat)+1+1:=by simp;omega
      rw[this];kernel_rfl
     rw[<-t];exact(AW H O B (x:="dirname") (.ai (.aa (d:=.str (A5 d)) ⋯) (.aa (d:=.str (DE 34)) ⋯) ((EQ j).trans (by rw[l]))) ⋯).post Dg
   ·have e:o++(CS (c::s)++34::a)=o++c::(CS s++34::a):=by simp[CS,q]
    have Z:o++c::(CS s++34::a)=(o++[c])++(CS s++34::a):=(_)
    have i:(o++(CS (c::s)++[34])).length=((o++[c])++(CS s++[34])).length:=by simp[CS,q]
    have p:=Qc H O B W s (o++[c]) (d++[c]) (by rw[<-Z,<-e];exact Q) m;rw[i,e];rw[e] at Q;rw[show d++c::s=(d++[c])++s by simp];rw[<-Z] at p;refine .next ?_ ?_ p
    ·conv in Fd.1=>whnf
     refine .ar (.aa (d:=.int (o.length:Nat)) ⋯) (.aa (d:=.int ((o++c::(CS s++34::a)).length:Nat)) ⋯) rfl rfl ((aE _ _).trans ?_);rw[Bv];simp;omega
    ·conv in Fd.2.1=>whnf
     refine PN H O B Q ?_;generalize G:o++c::(CS s++34::a)=X;refine D5 (Ey H O B (c:=false) (.ar (.aa (d:=.str (DE c)) ⋯) (.ae (d:=.str "\"") ⋯) rfl rfl ((fJ _ _).trans (by rw[N8,Bs q]))) (by rw[Ak (_)];exact EA)) (CM ?_);have t:Ci Xi (AM (H7 (A5 X) (A5 d) ((o.length:Nat)+1) (X.length:Nat) (DE c)) "dirname" (.aa (.str (A5 (d++[c])))))=Gc (A5 X) (A5 (d++[c])) ((o++[c]).length:Nat) (X.length:Nat):=by
      have:(((o++[c]).length:Nat):Int)=(o.length:Nat)+1:=(_)
      rw[this];kernel_rfl
     rw[<-t];exact(AW H O B (x:="dirname") (.ai (.aa (d:=.str (A5 d)) ⋯) (.aa (d:=.str (DE c)) ⋯) ((EQ j).trans (by rw[l]))) ⋯).post Dg
open PySem.Builtin PySem.Builtin.Str
theorem KI (i j n:Nat):strSliceIndices (some (i:Int)) (some (j:Int)) 1 n=strSliceIndices (some ((min i n:Nat):Int)) (some ((min j n:Nat):Int)) 1 n:=by
 have h:¬((i:Int)<0):=∅
 have k:¬((j:Int)<0):=∅
 have o:¬(((min i n:Nat):Int)<0):=∅
 have s:¬(((min j n:Nat):Int)<0):=∅
 have w:max (0:Int) (min (i:Int) (n:Int))=(min i n:Nat):=∅
 have z:max (0:Int) (min (j:Int) (n:Int))=(min j n:Nat):=∅
 have A:max (0:Int) (min ((min i n:Nat):Int) (n:Int))=(min i n:Nat):=∅
 have C:max (0:Int) (min ((min j n:Nat):Int) (n:Int))=(min j n:Nat):=∅
 simp only[strSliceIndices,h,k,o,s,AS,w,z,A,C,show((1:Int)>0)=True from by simp,A0]
theorem Jq (x:Str):A5 x.cps.toList=x:=by show(⟨x.cps.toList.toArray⟩:Str)=x;simp
theorem Le {i j:Nat}(l:List Nat)(w:i<=j):Txt.slice (A5 l) (some (i:Int)) (some (j:Int))=A5 ((l.drop i).take (j-i)):=by
 have o:(A5 l).length=l.length:=B1 l;have z:strSliceIndices (some (i:Int)) (some (j:Int)) 1 (A5 l).length=(List.range (min j l.length-min i l.length)).map (λ k=>min i l.length+k):=by
  rw[KI,o,StrLaws.strSliceIndices_plain ∅ ∅]
 have A:(strSliceIndices (some (i:Int)) (some (j:Int)) 1 (A5 l).length).filterMap ((A5 l).cps[·]?)=(l.drop (min i l.length)).take (min j l.length-min i l.length):=by
  rw[KI,StrLaws.sliced_plain (A5 l) ∅ ∅,o];simp[A5]
 have C:(l.drop (min i l.length)).take (min j l.length-min i l.length)=(l.drop i).take (j-i):=by
  by_cases h:i<=l.length
  ·rw[Nat.min_eq_left h];by_cases E:j<=l.length
   ·rw[Nat.min_eq_left E]
   ·rw[Nat.min_eq_right ∅,Cq (_),Cq (by simp;omega)]
  ·rw[Nat.min_eq_right ∅,DC ∅,DC ∅];simp
 unfold Txt.slice;split
 ·rename_i q;rw[z] at q;simp[o] at q;have s:i=0\/l.length=0:=∅
  by_cases H:l.length=0
  ·have:l=[]:=Dm.mp H;subst this;simp
  ·have s:i=0:=∅
   have N:l.length<=j:=∅
   subst s;rw[OS,Cq ∅]
 ·rw[A,C];rfl
theorem SL (l:List Nat)(j:Nat):Txt.slice (A5 l) none (some (j:Int))=A5 (l.take j):=by
 have:=Le l (i:=0) (j:=j) (BT _);rw[OS,Nat.sub_zero] at this;rw[<-this];have e:∀n:Nat,strSliceIndices none (some (j:Int)) 1 n=strSliceIndices (some ((0:Nat):Int)) (some (j:Int)) 1 n:=λ n=>by
  have h:max (0:Int) (min ((0:Nat):Int) (n:Int))=0:=∅
  simp only[strSliceIndices,show ¬(((0:Nat):Int)<0) by simp,AS,h,show((1:Int)>0)=True from by simp,A0]
 unfold Txt.slice;rw[e]
theorem Wr {i j:Nat}(l:List Nat)(h:i<=j):CA (.str (A5 l)) (some (i:Int)) (some (j:Int)) none=some (.str (A5 ((l.drop i).take (j-i)))):=by
 show(if(none:Option Int)=none then some (PV.str (Txt.slice (A5 l) (some (i:Int)) (some (j:Int)))) else none)=_;rw[Ap rfl,Le l h]
theorem PR (l:List Nat)(j:Nat):CA (.str (A5 l)) none (some (j:Int)) none=some (.str (A5 (l.take j))):=by
 show(if(none:Option Int)=none then some (PV.str (Txt.slice (A5 l) none (some (j:Int)))) else none)=_;rw[Ap rfl,SL]
theorem TO:A5 a=A5 b↔a=b:=by
 constructor
 ·intro e;have:(A5 a).cps=(A5 b).cps:=by rw[e]
  have:=Cb Array.toList this;simpa[A5] using this
 ·rintro rfl;rfl
theorem XP (t:List Nat):t.length<=(CS t).length:=by
 induction t with
 |nil=>simp[CS]
 |cons c r h=>
  have:CS (c::r)=(if c=34 then[34,34] else[c])++CS r:=rfl;rw[this];split<;>simp<;>omega
variable {r:List Stmt}{c:Nat} in
def aT:List Nat->Option (List Nat)
 |[]=>none
 |[c]=>if c=34 then some [] else none
 |c::e::r=>if c=34 then(if e=34 then(aT r).map (34::·) else some []) else(aT (e::r)).map (c::·)
theorem M3:∀(l t:List Nat),aT l=some t->∃k,l=CS t++34::k/\k.head?≠some 34
 |[],t,h=>by unfold aT at h;cases h
  |[c],t,h=>by
   unfold aT at h;split at h<;>cases h;rename_i q;exact⟨[],by rw[q];rfl,(_)⟩
  |c::e::r,t,h=>by
   unfold aT at h;split at h
   ·rename_i q;subst q;split at h
    ·rename_i o;subst o;obtain⟨s,w,rfl⟩:=As.mp h;obtain⟨k,z,A⟩:=M3 r s w;exact⟨k,by rw[z];simp[CS],A⟩
    ·rename_i o;cases h;exact⟨e::r,rfl,by simpa using o⟩
   ·rename_i q;obtain⟨s,w,rfl⟩:=As.mp h;obtain⟨k,z,A⟩:=M3 (e::r) s w;exact⟨k,by rw[z];simp[CS,q],A⟩
def QV (l:List Nat):Option (List Nat):=
 if l.take 3=[50,53,55] then(if(l.drop 3).take 2=[32,34] then aT (l.drop 5) else some []) else none
variable {r:List Stmt} in
def Qs:List PV->Option PV
 |[.str r]=>if r.length<=4000 then(QV r.cps.toList).map (λ t=>.str (A5 t)) else none
 |_=>none
theorem V9:("257":Str)=A5 [50,53,55]:=⋯
theorem Z1:(" \"":Str)=A5 [32,34]:=⋯
theorem gL:("":Str)=A5 []:=⋯
theorem fG (I:Hb w h)(T:DB a b mg mb h)(o:GW w h C k mg mb):EG (W1 w h) (k+1) 86 Qs:=by
 refine Z2 (Cl:=58) (Qw I T) λ args d e=>?_;unfold Qs at e;split at e
 ·rename_i r;split at e
  ·rename_i f;obtain⟨t,z,rfl⟩:=As.mp e;obtain⟨l,rfl⟩:∃l,r=A5 l:=⟨_,(Jq r).symm⟩;rw[B1] at f;have z:QV l=some t:=by simpa[A5] using z
   refine⟨rfl,λ A g n s B=>?_⟩
   conv in Bp P1 10=>whnf
   unfold QV at z;split at z
   ·rename_i W;have p:=Gz;have i:CA (.str (A5 l)) none (some 3) none=some (.str (A5 (l.take 3))):=PR l 3;have Z:CA (.str (A5 l)) (some 3) (some 5) none=some (.str (A5 ((l.drop 3).take 2))):=Wr l (i:=3) (j:=5) ∅;refine M5 o s B (.ar (.slice (b:=.str (A5 l)) (.aa ⋯) .no (.int .int) .no i) (.ae (d:=.str "257") ⋯) rfl rfl ((aD _ _).trans ?_)) ?_
    ·rw[W,V9];simp
    ·split at z
     ·rename_i N;have Q:l=[50,53,55,32,34]++l.drop 5:=by
       have O:l=l.take 3++((l.drop 3).take 2++(l.drop 3).drop 2):=by rw[Oo,Oo]
       rw[W,N,List.drop_drop] at O;exact O
      obtain⟨E,O,j⟩:=M3 _ _ z;rw[O] at Q;have u:=XP t;have H:([50,53,55,32,34]++(CS t++34::E)).length<=Bi:=by rw[<-Q];omega
      have V:([]:List Nat).length+t.length<=Bi:=by simp at H ⊢;omega
      refine M5 o s B (.ar (.slice (b:=.str (A5 l)) (.aa ⋯) (.int .int) (.int .int) .no Z) (.ae (d:=.str " \"") ⋯) rfl rfl ((aD _ _).trans ?_)) ?_
      ·rw[N,Z1];simp
      ·refine JH (AW o s B (x:="dirname") (.ae (d:=.str "") ⋯) ⋯) ?_;refine JH (AW o s B (x:="i") .int ⋯) ?_;refine JH (AW o s B (x:="n") (d:=.int l.length) (.bx (b:=.len) ⋯ ⋯ (.cons (.aa (d:=.str (A5 l)) ⋯) .nil rfl) (_) ?_) ⋯) ?_
       ·show some (PV.int ((A5 l).length:Nat))=_;rw[B1]
       ·have c:=Qc o s B j t [50,53,55,32,34] [] H V;rw[<-Q] at c;have m:AM (AM (AM ((["resp"]:List Str).zip ([PV.str (A5 l)].map BL.aa)) "dirname" (.aa (.str ""))) "i" (.aa (.int 5))) "n" (.aa (.int l.length))=Gc (A5 l) (A5 []) (([50,53,55,32,34]:List Nat).length:Nat) (l.length:Nat):=by rw[gL];rfl
        refine JH ((Wl o s B c).pre (by rw[m];exact λ _ _ q=>q)) ?_;exact SA (FC o s B (.aa ⋯))
     ·rename_i N;cases z;refine SA (Ey o s B (c:=true) (.ar (.slice (b:=.str (A5 l)) (.aa ⋯) (.int .int) (.int .int) .no Z) (.ae (d:=.str " \"") ⋯) rfl rfl ((aD _ _).trans ?_)) ?_)
      ·rw[Z1,Bs λ q=>N (TO.mp q)];rfl
      ·rw[Ap rfl];exact CM (FC o s B (.ev (.ae ⋯) rfl))
   ·cases z
  ·cases e
 ·cases e
open PySem.NumText
def dg (i:Int):List Nat:=(Str.ofString (toString i)).cps.toList
theorem bR (i:Int):A5 (dg i)=Str.ofString (toString i):=Jq _
theorem dC (m:Nat):dg (m:Int)=(Nat.toDigits 10 m).map Char.toNat:=KIN.signs_num m
theorem dB (m:Nat)(h:0<m):dg (-(m:Int))=45::(Nat.toDigits 10 m).map Char.toNat:=by
 obtain⟨n,rfl⟩:∃n,m=n+1:=⟨m-1,∅⟩;have e:toString (-((n+1:Nat):Int))="-"++Nat.repr (n+1):=rfl;unfold dg;rw[e];rw[signs_ofString];rw[String.toList_append,BV,Nat.toList_repr];rfl
theorem Ib (m:Nat):AllDigits ((Nat.toDigits 10 m).map Char.toNat):=λ c k=>by
 obtain⟨o,h,e⟩:=At.mp k;rw[<-e];exact digit_range (Nat.isDigit_of_mem_toDigits {_} {_} h)
theorem Px (m:Nat):(Nat.toDigits 10 m).map Char.toNat≠[]:=λ e=>by
 have h:=toDigits_len_ge 10 m;rw[List.map_eq_nil_iff.mp e] at h;exact absurd h {_}
theorem NT (m:Nat)(h:m<10^10):((Nat.toDigits 10 m).map Char.toNat).length<=10:=by
 rw[Ao];exact toDigits_len_pow {_} {_} h
theorem NV (i:Int)(h:i.natAbs<10^10):∃m:Nat,m<10^10/\((i=m/\dg i=(Nat.toDigits 10 m).map Char.toNat)\/(i=-(m:Int)/\0<m/\dg i=45::(Nat.toDigits 10 m).map Char.toNat)):=by
 refine⟨i.natAbs,h,?_⟩;by_cases q:0<=i
 ·have e:i=(i.natAbs:Nat):=∅
  exact .inl ⟨e,by rw[<-dC,<-e]⟩
 ·have e:i=-((i.natAbs:Nat):Int):=∅
  exact .inr ⟨e,∅,by rw[<-dB _ ∅,<-e]⟩
theorem Zu (i:Int)(k:i.natAbs<10^10):∀c∈dg i,c=45\/(48<=c/\c<=57):=λ c h=>by
 obtain⟨m,o,⟨_,e⟩ |⟨_,_,e⟩⟩:=NV i k<;>rw[e] at h
 ·exact .inr (Ib m c h)
 ·rcases Ag.mp h with q |q
  ·exact .inl q
  ·exact .inr (Ib m c q)
theorem Tl (i:Int)(k:i.natAbs<10^10):(dg i).length<=11:=by
 obtain⟨m,h,⟨_,e⟩ |⟨_,_,e⟩⟩:=NV i k<;>rw[e]
 ·exact BD (NT m h)
 ·exact Nat.succ_le_succ (NT m h)
theorem Zv (i:Int)(o:i.natAbs<10^10):PySem.intText? (A5 (dg i))=some i:=by
 have h:(A5 (dg i)).cps.toList=dg i:=by simp[A5]
 have s:(A5 (dg i)).length<=4300:=by rw[B1];have:=Tl i o;omega
 obtain⟨m,w,⟨k,e⟩ |⟨k,_,e⟩⟩:=NV i o
 ·have:=intText_digits (x:=A5 (dg i)) (by rw[h,e];exact Ib m) (by rw[h,e];exact Px m) s;rw[this,h,e,KIN.val_back,<-k]
 ·have:=intText_neg (x:=A5 (dg i)) (cs:=(Nat.toDigits 10 m).map Char.toNat) (by rw[h,e]) (Ib m) (Px m) s;rw[this,KIN.val_back,<-k]
variable {r:List Stmt}{x:Str} in
def Ft (c:Nat):Nat->List Nat->List Nat
 |_,[]=>[]
 |k,x::r=>if x=c then k::Ft c (k+1) r else Ft c (k+1) r
theorem I2 (c:Nat):∀(a b:List Nat)(k:Nat),Ft c k (a++b)=Ft c k a++Ft c (k+a.length) b
 |[],b,k=>rfl
  |x::r,b,k=>by
   have h:=I2 c r b (k+1);have e:k+(x::r).length=k+1+r.length:=by simp;omega
   rw[e];show(if x=c then k::Ft c (k+1) (r++b) else Ft c (k+1) (r++b))=(if x=c then k::Ft c (k+1) r else Ft c (k+1) r)++_;rw[h];split<;>rfl
theorem ML (c:Nat):∀(a:List Nat)(k:Nat),c∉a->Ft c k a=[]
 |[],k,h=>rfl
  |x::r,k,h=>by
   have q:¬x=c:=λ q=>h (by rw[q];exact Ac);show(if x=c then k::Ft c (k+1) r else Ft c (k+1) r)=[];rw[Ak q];exact ML c r (k+1) λ q=>h (Ad _ q)
open PySem.StrLaws in
theorem OX (h:i<l.length):subAt (A5 l) (DE c) i=decide (l[i]=c):=by
 have e:(A5 l).cps.extract i (i+1)= #[l[i]]:=by
  show l.toArray.extract i (i+1)=_;simp;rw[DU h];rfl
 show((A5 l).cps.extract i (i+1)== #[c])=_;rw[e];by_cases q:l[i]=c
 ·simp[q]
 ·simp[q]
open PySem.StrLaws in
theorem Nj (l:List Nat)(c h:Nat):∀(n k:Nat)(st:Array Nat×Nat),k+n=l.length+1->st.2<=k->
 ((forIn (m:=Id) (List.range' k n) st (occBody (A5 l) (DE c) l.length h)).run.fst).toList=st.1.toList++(Ft c k (l.drop k)).take (h-st.1.size)
 |0,k,st,C,w=>by
   rw[DC ∅];simp[Ft]
  |n+1,k,st,C,w=>by
   rw[List.range'_succ,Bt];unfold occBody;by_cases o:k<l.length
   ·have E:l.drop k=l[k]::l.drop (k+1):=DU o;rw[E];have H:Ft c k (l[k]::l.drop (k+1))=if l[k]=c then k::Ft c (k+1) (l.drop (k+1)) else Ft c (k+1) (l.drop (k+1)):=rfl
    rw[H];split
    ·rename_i s;have A:=s.2;rw[OX o] at A;have z:=Nj l c h n (k+1) (st.1.push k,k+1) ∅ (Am _);rw[Ap (E9 A)];have N:st.1.size<h:=s.1.1.1;have:h-st.1.size=(h-(st.1.push k).size)+1:=by simp;omega
     rw[this,List.take_succ_cons];refine z.trans ?_;simp
    ·rename_i s;have z:=Nj l c h n (k+1) (st.1,st.2) ∅ (BD w);refine z.trans ?_;by_cases q:l[k]=c
     ·have:¬st.1.size<h:=λ O=>s ⟨⟨⟨O,w⟩,by show k+1<=l.length;omega⟩,by rw[OX o,Bv q]⟩;rw[show h-st.1.size=0 by omega];simp
     ·rw[Ak q]
   ·rw[DC ∅];have Q:n=0:=∅
    subst Q;rw[Ak λ q=>by have:k+1<=l.length:=q.1.2;omega];simp[Ft]
open PySem.StrLaws in
theorem Ni (l:List Nat)(c lo h:Nat)(k:lo<=l.length):occurrences (A5 l) (DE c) lo l.length h=(Ft c lo (l.drop lo)).take h:=by
 rw[occ_eq,Nj l c h _ lo (#[],lo) ∅ (Am _)];simp
theorem Zk (h:Ft c 0 l=i::r):Txt.find (A5 l) (DE c)=i:=by
 unfold Txt.find;rw[B1,Ni l c 0 1 (BT _),OS,h];rfl
theorem XM {c i:Nat}{l:List Nat}{lo:Nat}{r:List Nat}(h:lo<=l.length)(k:Ft c lo (l.drop lo)=i::r):Txt.find3 (A5 l) (DE c) lo=i:=by
 unfold Txt.find3;have:fromIndex (A5 l).length (lo:Int)=lo:=by unfold fromIndex;rw[Ak ∅];omega
 rw[this,B1,Ni l c lo 1 h,k];rfl
theorem Xj (x y:Str)(h:PySem.Builtin.Str.strKind y=1):decide (PySem.Builtin.Str.strKind x<PySem.Builtin.Str.strKind y)=false:=by
 refine Bs ?_;rw[h];unfold PySem.Builtin.Str.strKind;split
 ·omega
 ·split<;>omega
theorem Yy (l:List Nat)(i j:Nat):strSub (A5 l) i j=A5 ((l.drop i).take (j-i)):=by
 show(⟨l.toArray.extract i j⟩:Str)=⟨((l.drop i).take (j-i)).toArray⟩;congr 1;apply Array.toList_inj.mp;simp
def Iz:List Nat:=[124,33,120,40]
theorem Q1 (w:m∈Iz)(hd:m∉a):Txt.split (A5 ([m,m,m]++(a++[m]))) (DE m)=[A5 [],A5 [],A5 [],A5 a,A5 []]:=by
 have z:PySem.Builtin.Str.strKind (DE m)=1:=by
  have:∀m∈Iz,PySem.Builtin.Str.strKind (DE m)=1:={_}
  exact this m w
 have o:(A5 ([m,m,m]++(a++[m]))).length=a.length+4:=by rw[B1];simp
 have s:∀h,4<=h->occurrences (A5 ([m,m,m]++(a++[m]))) (DE m) 0 (A5 ([m,m,m]++(a++[m]))).length h=[0,1,2,3+a.length]:=λ h k=>by
  rw[B1,Ni _ m 0 h (BT _),OS,I2,I2,ML m a _ hd];have:Ft m 0 [m,m,m]=[0,1,2]:=by simp[Ft]
  rw[this];simp only[Ft,A0,DX,Cr,List.length_nil,FR];rw[Cq (by simpa using k)]
 unfold Txt.split;rw[Ak (by
  rw[Xj _ _ z,o];have:(DE m).length=1:=rfl;rw[this];simp),Ak (by rw[s _ (by rw[o];omega)];simp),s _ (by rw[o];omega),StrLaws.partsBetween_eq]
 have A:(DE m).length=1:=rfl;simp only[StrLaws.partsFrom,A,o,Yy];have C:(List.take (3+a.length-(2+1)) (List.drop (2+1) ([m,m,m]++(a++[m]))))=a:=by
  show List.take (3+a.length-3) (a++[m])=a;rw[show 3+a.length-3=a.length by omega,List.take_left'];rfl
 have E:List.take (a.length+4-(3+a.length+1)) (List.drop (3+a.length+1) ([m,m,m]++(a++[m])))=[]:=by
  rw[show a.length+4-(3+a.length+1)=0 by omega];rfl
 rw[C,E];rfl
def CB:List Nat:=[50,50,57,32,105,116,32,108,105,101,115,32,97,116,32]
def ES:List Nat:=[32,40,124,124,124,55,124,41]
def Ba (m:Nat)(h:List Nat):List Nat:=CB++(40::([m,m,m]++(h++(m::41::ES))))
theorem Oy (x y:Int):EY .Sub (.int x) (.int y)=some (.int (x-y)):=rfl
theorem XL (m:Nat)(h:List Nat):Iy .find (.str (A5 (Ba m h))) [.str "("]=some (.int 15):=by
 have e:("(":Str)=DE 40:=⋯
 have k:Ft 40 0 (Ba m h)=15::Ft 40 16 ([m,m,m]++(h++(m::41::ES))):=by
  unfold Ba;rw[I2,ML 40 CB 0 {_}];rfl
 show some (PV.int (Txt.find (A5 (Ba m h)) "("))=_;rw[e,Zk k];rfl
theorem VI (m:Nat)(h:List Nat)(s:m∈Iz)(hd:∀c∈h,c=45\/(48<=c/\c<=57)):Iy .find (.str (A5 (Ba m h))) [.str ")",.int 16]=some (.int ((20+h.length:Nat):Int)):=by
 have e:(")":Str)=DE 41:=⋯
 have w:(41:Nat)∉[m,m,m]++(h++[m]):=by
  have k:(41:Nat)≠m:=λ q=>by rw[<-q] at s;exact absurd s {_}
  have o:(41:Nat)∉h:=λ q=>by rcases hd 41 q with q |q<;>omega
  simp[k,o]
 have z:(Ba m h).drop 16=[m,m,m]++(h++[m])++41::ES:=by simp[Ba,CB]
 have A:Ft 41 16 ((Ba m h).drop 16)=(20+h.length)::Ft 41 (16+([m,m,m]++(h++[m])).length+1) ES:=by
  rw[z,I2,ML 41 _ 16 w];have:16+([m,m,m]++(h++[m])).length=20+h.length:=by simp;omega
  rw[this];rfl
 show some (PV.int (Txt.find3 (A5 (Ba m h)) ")" ((16:Nat):Int)))=_;rw[e,XM (by simp[Ba,CB]) A]
theorem bQ (I:Hb w h)(T:DB d f mg mb h)(o:GW w h C k mg mb)(W:m∈Iz)(hd:∀c∈a,c=45\/(48<=c/\c<=57))(x:a.length<=20)(j:PySem.intText? (A5 a)=some i)(b:PV)(s:Cg k A)(B:Ip w h 79 z N):
 OP (W1 w h) A (Dq w 79).scope z N 58 (Bp P1 9) ((["resp","peer"]:List Str).zip ([PV.str (A5 (Ba m a)),PV.ay [.str "peer",b]].map BL.aa)) (.ret (.ay [.str "peer",.int i])):=by
 conv in Bp P1 9=>whnf
 have y:=Gz;have Z:m∉a:=λ q=>by
  have:∀m∈Iz,¬(m=45\/(48<=m/\m<=57)):={_}
  exact this m W (hd m q)
 have E:(Ba m a).length<=Bi:=by simp[Ba,CB,ES];omega
 have l:CA (.str (A5 (Ba m a))) none (some 3) none=some (.str (A5 [50,50,57])):=PR (Ba m a) 3;have H:("229":Str)=A5 [50,50,57]:=⋯
 have O:Ba m a=(CB++[40])++m::([m,m]++(a++(m::41::ES))):=by simp[Ba]
 have Q:DS (.str (A5 (Ba m a))) (.int 16)=some (.str (DE m)):=by
  have:=M8 (a:=CB++[40]) (b:=[m,m]++(a++(m::41::ES))) (c:=m) (i:=16) rfl (by rw[<-O];exact E);rw[<-O] at this;exact this
 have V:Ba m a=(CB++(40::([m,m,m]++a)))++m::(41::ES):=by simp[Ba]
 have g:DS (.str (A5 (Ba m a))) (.int (((20+a.length:Nat):Int)-1))=some (.str (DE m)):=by
  have:=M8 (a:=CB++(40::([m,m,m]++a))) (b:=41::ES) (c:=m) (i:=19+a.length) (by simp[CB];omega) (by rw[<-V];exact E);rw[<-V] at this;have n:((20+a.length:Nat):Int)-1=((19+a.length:Nat):Int):=∅
  rw[n];exact this
 have p:CA (.str (A5 (Ba m a))) (some 16) (some ((20+a.length:Nat):Int)) none=some (.str (A5 ([m,m,m]++(a++[m])))):=by
  have:=Wr (Ba m a) (i:=16) (j:=20+a.length) ∅;refine this.trans ?_;have e:((Ba m a).drop 16).take (20+a.length-16)=[m,m,m]++(a++[m]):=by
   have:(Ba m a).drop 16=([m,m,m]++(a++[m]))++41::ES:=by simp[Ba,CB]
   rw[this];exact List.take_left' (by simp;omega)
  rw[e]
 have r:Iy .split (.str (A5 ([m,m,m]++(a++[m])))) [.str (DE m)]=some (.list [.str (A5 []),.str (A5 []),.str (A5 []),.str (A5 a),.str (A5 [])]):=by
  have t:Ix (A5 [])=true:={_}
  have u:Ix (A5 a)=true:=by
   unfold Ix;rw[Ah];refine⟨?_,by rw[B1];exact Bv ∅⟩;unfold PyData.strOk;rw[G5];intro c v;have:c∈a:=by simpa[A5] using v
   have:=hd c this;simp;omega
  show(if(!((DE m).length==0)&&(Txt.split (A5 ([m,m,m]++(a++[m]))) (DE m)).all Ix&&decide ((Txt.split (A5 ([m,m,m]++(a++[m]))) (DE m)).length<=Bi))=true then some (PV.list ((Txt.split (A5 ([m,m,m]++(a++[m]))) (DE m)).map .str)) else none)=_;rw[Q1 W Z,Ap]
  ·rfl
  ·have:(DE m).length=1:=rfl;rw[this];simp[t,u];decide+kernel
 refine M5 o s B (.ar (.slice (b:=.str (A5 (Ba m a))) (.aa ⋯) .no (.int .int) .no l) (.ae (d:=.str "229") ⋯) rfl rfl ((aD _ _).trans (by rw[H];simp))) ?_;refine JH (AW o s B (x:="left") (d:=.int 15) (.cg (mf:=.find) ⋯ ⋯ ⋯ (.aa (d:=.str (A5 (Ba m a))) ⋯) (.cons (.ae (d:=.str "(") ⋯) .nil rfl) (_) (XL m a)) ⋯) ?_;refine M5 o s B (.ar (.aa (d:=.int 15) ⋯) .int rfl rfl ((aE _ _).trans rfl)) ?_;refine JH (AW o s B (x:="right") (d:=.int ((20+a.length:Nat):Int)) (.cg (mf:=.find) ⋯ ⋯ ⋯ (.aa (d:=.str (A5 (Ba m a))) ⋯) (.cons (.ae (d:=.str ")") ⋯) (.cons (.ai (.aa (d:=.int 15) ⋯) .int (d:=.int 16) rfl) .nil rfl) rfl) (_) (VI m a W hd)) ⋯) ?_;refine M5 o s B (.ar (.aa (d:=.int ((20+a.length:Nat):Int)) ⋯) .int rfl rfl ((aE _ _).trans (by rw[Bs ∅]))) ?_;refine M5 o s B (.ar (.aj (b:=.str (A5 (Ba m a))) (.aa ⋯) (.ai (.aa (d:=.int 15) ⋯) .int (d:=.int 16) rfl) rfl Q) (.aj (b:=.str (A5 (Ba m a))) (.aa ⋯) (.ai (.aa (d:=.int ((20+a.length:Nat):Int)) ⋯) .int (Oy _ _)) rfl g) rfl rfl ((aD _ _).trans (_))) ?_;refine JH (AW o s B (x:="parts") (d:=.list [.str (A5 []),.str (A5 []),.str (A5 []),.str (A5 a),.str (A5 [])]) (.cg (mf:=.split) ⋯ ⋯ ⋯ (.slice (b:=.str (A5 (Ba m a))) (.aa ⋯) (.int (.ai (.aa (d:=.int 15) ⋯) .int (d:=.int 16) rfl)) (.int (.aa (d:=.int ((20+a.length:Nat):Int)) ⋯)) .no p) (.cons (.aj (b:=.str (A5 (Ba m a))) (.aa ⋯) (.ai (.aa (d:=.int 15) ⋯) .int (d:=.int 16) rfl) rfl Q) .nil rfl) (_) r) ⋯) ?_;refine M5 o s B (.ar (.bx (b:=.len) (d:=.int 5) ⋯ ⋯ (.cons (.aa (d:=.list [.str (A5 []),.str (A5 []),.str (A5 []),.str (A5 a),.str (A5 [])]) ⋯) .nil rfl) (_) rfl) .int rfl rfl rfl) ?_;refine JH (AW o s B (x:="host") (d:=.str "peer") (.aj (b:=.ay [.str "peer",b]) (.aa ⋯) .int rfl ⋯) ⋯) ?_;refine JH (AW o s B (x:="port") (d:=.int i) (.bx (b:=.int) ⋯ ⋯ (.cons (.aj (b:=.list [.str (A5 []),.str (A5 []),.str (A5 []),.str (A5 a),.str (A5 [])]) (d:=.str (A5 a)) (.aa ⋯) .int rfl ⋯) .nil rfl) (_) ?_) ⋯) ?_
 ·show(if(A5 a).length<=640 then(PySem.intText? (A5 a)).map PV.int else none)=_;rw[Ap (by rw[B1];omega),j];rfl
 ·exact SA (FC o s B (.ev (.ay (.cons (.aa (d:=.str "peer") ⋯) (.cons (.aa (d:=.int i) ⋯) .nil rfl) rfl) (by show 2<=Bi;omega)) rfl))
variable {b:PV}{r:List Stmt}{p:JV} in
def NB:List PV->Option PV
 |[.str r,.ay [.str p,b]]=>
  if p="peer"/\r.cps.toList=Ba (r.cps.toList.getD 16 0) ((r.cps.toList.drop 19).take (r.cps.toList.length-29))/\r.cps.toList.getD 16 0∈Iz/\(∀c∈(r.cps.toList.drop 19).take (r.cps.toList.length-29),c=45\/(48<=c/\c<=57))/\((r.cps.toList.drop 19).take (r.cps.toList.length-29)).length<=20
  then(PySem.intText? (A5 ((r.cps.toList.drop 19).take (r.cps.toList.length-29)))).map (λ i=>.ay [.str "peer",.int i]) else none
 |_=>none
theorem Xx (k:m∈Iz)(h:i.natAbs<10^10)(b:PV):NB [.str (A5 (Ba m (dg i))),.ay [.str "peer",b]]=some (.ay [.str "peer",.int i]):=by
 have o:(A5 (Ba m (dg i))).cps.toList=Ba m (dg i):=by simp[A5]
 have s:(Ba m (dg i)).getD 16 0=m:=by simp[Ba,CB]
 have w:(Ba m (dg i)).length-29=(dg i).length:=by simp[Ba,CB,ES]
 have z:((Ba m (dg i)).drop 19).take (dg i).length=dg i:=by
  have:(Ba m (dg i)).drop 19=dg i++(m::41::ES):=by simp[Ba,CB]
  rw[this];exact List.take_left' rfl
 unfold NB;simp only[o,s,w,z,true_and];rw[Ap ⟨k,Zu i h,by have:=Tl i h;omega⟩,Zv i h];rfl
theorem fH (I:Hb w h)(T:DB a c mg mb h)(o:GW w h C k mg mb):EG (W1 w h) (k+1) 79 NB:=by
 refine Z2 (Cl:=58) (Qx I T) λ args d e=>?_;unfold NB at e;split at e
 ·rename_i r p b;split at e
  ·rename_i s;obtain⟨rfl,z,E,H,N⟩:=s;obtain⟨i,O,rfl⟩:=As.mp e;refine⟨rfl,λ A Q W V B=>?_⟩;have:=bQ I T o E H N O b V B;rw[<-z,Jq] at this;exact this
  ·cases e
 ·cases e
def Yj (k:BH)(w:Nat)(a:Addr)(args:List PV)(Cl:Addr)(x:Str):Prop:=
 ∀(A:Around)(s:Shared)(X:List Addr)(h:List Value)(l:List Env),Cg w A->A.frames=some l->AQ k s.heap l->Gd k s->(∀b∈X,k.h0.get? b=none/\∃o,s.heap.get? b=some o)->RpL k X s.heap h args->Rz k A (call (.ref a) h) s l Cl x
theorem eE (I:Hb w h)(T:DB a b mg mb h)(H:GW w h C k mg mb)(N:l.take 3≠[50,53,55]):Yj (W1 w h) (k+1) 86 [.str (A5 l)] 58 (A5 l):=λ A s X E V o z St G O r=>by
 refine eJ (x:="error_reply") (Qw I T) rfl (λ A Q W o B=>?_) o z St G O r
 conv in Bp P1 10=>whnf
 refine aZ H o B (.ar (.slice (b:=.str (A5 l)) (.aa ⋯) .no (.int .int) .no (PR l 3)) (.ae (d:=.str "257") ⋯) rfl rfl ((aD _ _).trans ?_)) (XO I T) ⋯ rfl (.aa ⋯);rw[V9,Bs λ q=>N (TO.mp q)];rfl
def NL:List Str:=["error_reply","error_proto"]
def X6 (x:Str):Addr:=if x="error_reply" then 58 else 70
theorem eG (I:Hb w h)(T:DB a b mg mb h):∀x∈NL,D8 (W1 w h) mg x (X6 x) QE:=λ x k=>by
 rcases Ag.mp k with rfl |k
 ·exact XO I T
 ·rcases Ag.mp k with rfl |k
  ·exact aN I T
  ·cases k
theorem eF (I:Hb w h)(T:DB a b mg mb h)(N:GW w h C k mg mb)(e:eA (By C (m+1)) NL c (Dq w 79).scope n ["resp","peer"] (Bp P1 9) [.str r,.ay [.str "peer",.int 21]]=some (.gi x r)):Yj (W1 w h) (k+1) 79 [.str r,.ay [.str "peer",.int 21]] (X6 x) r:=λ A s X H q O o St G V W Q E Z=>
 cK N (Qx I T) (eG I T) O o St G V W e (λ d hd=>nomatch hd) λ u v f y g i e t l j p F z=>by cases f;exact Z g i e t l j p F z
def J1:List Str:=["229 at 272)","229 at (|||7|x","229 at (||7|)","229 at (|||7||)","229 at (|||7|!)"]
theorem gM (h:r∈J1):eA (By C 6) NL 20 (Dq w 79).scope 10 ["resp","peer"] (Bp P1 9) [.str r,.ay [.str "peer",.int 21]]=some (.gi "error_proto" r):=by
 unfold J1 at h;simp only[Ag,Ev,OE] at h;rcases h with rfl |rfl |rfl |rfl |rfl<;>kernel_rfl
theorem gN:eA (By C 6) NL 20 (Dq w 79).scope 10 ["resp","peer"] (Bp P1 9) [.str "226 all told",.ay [.str "peer",.int 21]]=some (.gi "error_reply" "226 all told"):=⋯
theorem gO (h:x.natAbs<4294967296):EY .Mult (.int x) (.int y)=some (.int (x*y)):=by
 show(if x.natAbs<4294967296 then some (PV.int (x*y)) else none)=_;rw[Ap h]
theorem J9 (h:y≠0/\y.natAbs<1073741824):EY .FloorDiv (.int x) (.int y)=some (.int (x.fdiv y)):=by
 show(if y≠0/\y.natAbs<1073741824 then some (PV.int (x.fdiv y)) else none)=_;rw[Ap h]
theorem Lo (h:y≠0):EY .Mod (.int x) (.int y)=some (.int (x.fmod y)):=by
 show(if y≠0 then some (PV.int (x.fmod y)) else none)=_;rw[Ap h]
theorem WI (h:0<=n/\n<=64/\x.natAbs<1048576):EY .Pow (.int x) (.int n)=some (.int (x^n.toNat)):=by
 show(if 0<=n/\n<=64/\x.natAbs<1048576 then some (PV.int (x^n.toNat)) else none)=_;rw[Ap h]
theorem GM {x y:Int}(h:0<=y):x.fdiv y=x/y:=Int.fdiv_eq_ediv_of_nonneg x h
theorem GL {x y:Int}(h:0<=y):x.fmod y=x%y:=Int.fmod_eq_emod_of_nonneg x h
def I8:List Nat:=[63,112,99,63,100,63,98,63,45,63,108,63,115,63,63,63]
def eI (h:Nat)(D X:Int):List Nat:=
 [if 4<=D then 114 else 45,if D/2%2=1 then 119 else 45,
  if h=0 then[45,120,84,116].getD (D%2+X*2).toNat 0 else[45,120,83,115].getD (D%2+X*2).toNat 0]
def A9 (m:Int)(h:Nat):Int:=m/8^h%8
def CR (m:Int)(h:Nat):Int:=m/512/2^h%2
def Kq (m:Int)(h:Nat):List Nat:=eI h (A9 m h) (CR m h)
def Fy (m:Int):List Nat:=[I8.getD (m/4096%16).toNat 0]++Kq m 2++Kq m 1++Kq m 0
variable {m:Str->Option Value} in
def KM:List PV->Option PV
 |[.int m]=>some (.str (A5 (Fy m)))
 |_=>none
def T4 (m:Int)(l:List Nat):AC:=[("mode",.aa (.int m)),("signs",.aa (.str (A5 l)))]
def RE (m:Int)(l:List Nat)(h:Nat):AC:=[("mode",.aa (.int m)),("signs",.aa (.str (A5 l))),("k",.aa (.int (h:Nat)))]
def W8 (m:Int)(l:List Nat)(h:Nat)(D:Int):AC:=[("mode",.aa (.int m)),("signs",.aa (.str (A5 l))),("k",.aa (.int (h:Nat))),("digit",.aa (.int D))]
def gT:List Str:=["mode","signs"]
variable {b:PV}{t:Expr} in
def TW:Expr×List Stmt×List Stmt:=match Bp P1 39 with
 |[_,.For t _ b o _,_]=>(t,b,o)
 |_=>default
theorem Wg (k:n<16):DS (.str "?pc?d?b?-?l?s???") (.int (n:Nat))=some (.str (A5 [I8.getD n 0])):=by
 have:∀n<16,DS (.str "?pc?d?b?-?l?s???") (.int (n:Nat))=some (.str (A5 [I8.getD n 0])):=by
  intro n h
  match n,h with
  |0,_=>kernel_rfl
  |1,_=>kernel_rfl
  |2,_=>kernel_rfl
  |3,_=>kernel_rfl
  |4,_=>kernel_rfl
  |5,_=>kernel_rfl
  |6,_=>kernel_rfl
  |7,_=>kernel_rfl
  |8,_=>kernel_rfl
  |9,_=>kernel_rfl
  |10,_=>kernel_rfl
  |11,_=>kernel_rfl
  |12,_=>kernel_rfl
  |13,_=>kernel_rfl
  |14,_=>kernel_rfl
  |15,_=>kernel_rfl
  |n+16,h=>exact absurd h ∅
 exact this n k
theorem gC {n:Nat}{x:Int}(h:0<=x)(k:x<n):∃m:Nat,x=m/\m<n:=⟨x.toNat,∅,∅⟩
theorem Z5 {D:Int}(h:0<=D)(k:D<8):DS (.str "-r") (.int (D.fdiv 4))=some (.str (A5 [if 4<=D then 114 else 45])):=by
 obtain⟨n,rfl,o⟩:=gC (n:=8) h k
 match n,o with
 |0,_=>kernel_rfl
 |1,_=>kernel_rfl
 |2,_=>kernel_rfl
 |3,_=>kernel_rfl
 |4,_=>kernel_rfl
 |5,_=>kernel_rfl
 |6,_=>kernel_rfl
 |7,_=>kernel_rfl
theorem Z4 {D:Int}(h:0<=D)(k:D<8):DS (.str "-w") (.int ((D.fdiv 2).fmod 2))=some (.str (A5 [if D/2%2=1 then 119 else 45])):=by
 obtain⟨n,rfl,o⟩:=gC (n:=8) h k
 match n,o with
 |0,_=>kernel_rfl
 |1,_=>kernel_rfl
 |2,_=>kernel_rfl
 |3,_=>kernel_rfl
 |4,_=>kernel_rfl
 |5,_=>kernel_rfl
 |6,_=>kernel_rfl
 |7,_=>kernel_rfl
theorem Z3 (t:Str)(l:List Nat)(k:t=A5 l)(o:l.length=4){D X:Int}(z:0<=X)(s:X<2):DS (.str t) (.int (D%2+X*2))=some (.str (A5 [l.getD (D%2+X*2).toNat 0])):=by
 subst k;obtain⟨n,w,h⟩:=gC (x:=D%2+X*2) (n:=4) ∅ ∅;rw[w]
 match l,o with
 |[a,b,c,d],_=>match n,h with
  |0,_=>rfl
  |1,_=>rfl
  |2,_=>rfl
  |3,_=>rfl
theorem HU (f:GW w h C k mg mb)(g:Cg k A)(B:Ip w h 166 z N)(m:Int)(i:j<=2)(hl:l.length<=100):
 E8 (W1 w h) A (Dq w 166).scope z N (execs TW.2.1 z) (RE m l j) (.next (T4 m (l++Kq m j))):=by
 have o:0<=A9 m j:=by unfold A9;omega
 have s:A9 m j<8:=by unfold A9;omega
 have E:0<=CR m j:=by unfold CR;omega
 have H:CR m j<2:=by unfold CR;omega
 have Q:(0:Int)<=8^j:=Int.le_of_lt (Int.pow_pos ∅);have V:(0:Int)<=2^j:=Int.le_of_lt (Int.pow_pos ∅);have u:(8:Int)^j≠0/\((8:Int)^j).natAbs<1073741824:=by
  match j,i with
  |0,_=>decide
  |1,_=>decide
  |2,_=>decide
 have v:(2:Int)^j≠0/\((2:Int)^j).natAbs<1073741824:=by
  match j,i with
  |0,_=>decide
  |1,_=>decide
  |2,_=>decide
 conv in TW.2.1=>whnf
 have y:(m.fdiv (8^j)).fmod 8=A9 m j:=by rw[GM Q,GL ∅];rfl
 have D:((m.fdiv 512).fdiv (2^j)).fmod 2=CR m j:=by rw[GM V,GM ∅,GL ∅];rfl
 refine D5 (AW f g B (x:="digit") (d:=.int (A9 m j)) (.ai (.ai (.aa (d:=.int m) ⋯) (.ai .int (.aa (d:=.int (j:Nat)) ⋯) (WI ⟨∅,∅,{_}⟩)) (J9 u)) .int ((Lo {_}).trans (Cb (λ x=>some (PV.int x)) y))) ⋯) ?_;have G:AM (RE m l j) "digit" (.aa (.int (A9 m j)))=W8 m l j (A9 m j):=⋯
 rw[G];have n:5000<=Bi:={_}
 have p:EY .Add (.str (A5 l)) (.str (A5 [if 4<=A9 m j then 114 else 45]))=some (.str (A5 (l++[if 4<=A9 m j then 114 else 45]))):=by
  rw[EQ (by rw[B1,B1];simp;omega),Ed]
 have q:EY .Add (.str (A5 (l++[if 4<=A9 m j then 114 else 45]))) (.str (A5 [if A9 m j/2%2=1 then 119 else 45]))=some (.str (A5 ((l++[if 4<=A9 m j then 114 else 45])++[if A9 m j/2%2=1 then 119 else 45]))):=by
  rw[EQ (by rw[B1,B1];simp;omega),Ed]
 have r:∀c,EY .Add (.str (A5 ((l++[if 4<=A9 m j then 114 else 45])++[if A9 m j/2%2=1 then 119 else 45]))) (.str (A5 [c]))=some (.str (A5 (((l++[if 4<=A9 m j then 114 else 45])++[if A9 m j/2%2=1 then 119 else 45])++[c]))):=λ c=>by
  rw[EQ (by rw[B1,B1];simp;omega),Ed]
 have I:(A9 m j).fmod 2+CR m j*2=A9 m j%2+CR m j*2:=by rw[GL ∅]
 have O:∀{J V L M R S T Q U W Z a b d e p16:Pos}{Y k2 k3 k4 k5:Nat},CJ C (Dq w 166).scope (W8 m l j (A9 m j)) (.BinOp (.BinOp (.Name "digit" J) .Mod (.Constant (.int 2) Y V) L) .Add (.BinOp (.BinOp (.BinOp (.BinOp (.Name "mode" M) .FloorDiv (.Constant (.int 512) k2 R) S) .FloorDiv (.BinOp (.Constant (.int 2) k3 T) .Pow (.Name "k" Q) U) W) .Mod (.Constant (.int 2) k4 Z) a) .Mult (.Constant (.int 2) k5 b) d) e) (.int (A9 m j%2+CR m j*2)):=λ{_ _ _ _ _ _ _ _ _ _ _ _ _ _ _ _ _ _ _ _ _}=>
  .ai (.ai (.aa (d:=.int (A9 m j)) ⋯) .int (Lo {_})) (.ai (.ai (.ai (.ai (.aa (d:=.int m) ⋯) .int (J9 {_})) (.ai .int (.aa (d:=.int (j:Nat)) ⋯) (WI ⟨∅,∅,{_}⟩)) (J9 v)) .int ((Lo {_}).trans (Cb (λ x=>some (PV.int x)) D))) .int (gO ∅)) ((V0 _ _).trans (Cb (λ x=>some (PV.int x)) I))
 have e2:Ci gT (AM (W8 m l j (A9 m j)) "signs" (.aa (.str (A5 (l++Kq m j)))))=T4 m (l++Kq m j):=⋯
 rw[<-e2];refine CM ((AW f g B (x:="signs") (d:=.str (A5 (l++Kq m j))) ?_ ⋯).post Dg);by_cases t:j=0
 ·subst t;refine .ai (.ai (.ai (.aa (d:=.str (A5 l)) ⋯) (.aj (b:=.str "-r") (.ev (.ae ⋯) rfl) (.ai (.aa (d:=.int (A9 m 0)) ⋯) .int (J9 {_})) rfl (Z5 o s)) p) (.aj (b:=.str "-w") (.ev (.ae ⋯) rfl) (.ai (.ai (.aa (d:=.int (A9 m 0)) ⋯) .int (J9 {_})) .int (Lo {_})) rfl (Z4 o s)) q) (.aj (b:=.str "-xTt") (.ev (.fk (c:=true) (.ar (.aa (d:=.int 0) ⋯) .int rfl rfl ((R7 _ _).trans rfl)) (.ae ⋯)) rfl) (O (p16:=default)) rfl (Z3 _ [45,120,84,116] ⋯ rfl E H)) ((r _).trans ?_);rw[Br,Br];rfl
 ·refine .ai (.ai (.ai (.aa (d:=.str (A5 l)) ⋯) (.aj (b:=.str "-r") (.ev (.ae ⋯) rfl) (.ai (.aa (d:=.int (A9 m j)) ⋯) .int (J9 {_})) rfl (Z5 o s)) p) (.aj (b:=.str "-w") (.ev (.ae ⋯) rfl) (.ai (.ai (.aa (d:=.int (A9 m j)) ⋯) .int (J9 {_})) .int (Lo {_})) rfl (Z4 o s)) q) (.aj (b:=.str "-xSs") (.ev (.fk (c:=false) (.ar (.aa (d:=.int (j:Nat)) ⋯) .int rfl rfl ((R7 _ _).trans (by rw[Bs ∅]))) (.ae ⋯)) rfl) (O (p16:=default)) rfl (Z3 _ [45,120,83,115] ⋯ rfl E H)) ((r _).trans ?_);unfold Kq eI;rw[Ak t,Br,Br];rfl
theorem VL (I:Hb w h)(T:DB a b mg mb h)(o:GW w h C k mg mb):EG (W1 w h) (k+1) 166 KM:=by
 refine Mk (NF I T) λ args d e=>?_;unfold KM at e;split at e
 ·rename_i m;cases e;refine⟨rfl,λ A z N s B=>?_⟩
  conv in Bp P1 39=>whnf
  have E:((m.fdiv 4096).fmod 16)=((m/4096%16).toNat:Nat):=by rw[GM ∅,GL ∅];omega
  refine JJ (AW o s B (x:="signs") (d:=.str (A5 [I8.getD (m/4096%16).toNat 0])) (.aj (b:=.str "?pc?d?b?-?l?s???") (.ev (.ae ⋯) rfl) (.ai (.ai (.aa (d:=.int m) ⋯) .int (J9 {_})) .int ((Lo {_}).trans (Cb (λ x=>some (PV.int x)) E))) rfl (Wg ∅)) ⋯) ?_;have H:AM ((["mode"]:List Str).zip ([PV.int m].map BL.aa)) "signs" (.aa (.str (A5 [I8.getD (m/4096%16).toNat 0])))=T4 m [I8.getD (m/4096%16).toNat 0]:=⋯
  rw[H];refine JJ (J0 o s B (fl:=.next (T4 m (Fy m))) (.ev (.ay (.cons .int (.cons .int (.cons .int .nil rfl) rfl) rfl) {_}) ⋯ rfl rfl) ?_) ?_
  ·refine .next (ρ1:=RE m [I8.getD (m/4096%16).toNat 0] 2) ⋯ (HU o s B m ∅ (_)) ?_;refine .next (ρ1:=RE m ([I8.getD (m/4096%16).toNat 0]++Kq m 2) 1) ⋯ (HU o s B m ∅ (by simp[Kq,eI])) ?_;refine .next (ρ1:=RE m ([I8.getD (m/4096%16).toNat 0]++Kq m 2++Kq m 1) 0) ⋯ (HU o s B m ∅ (by simp[Kq,eI])) ?_;exact .nil EA
  ·exact HV (FC o s B (.aa ⋯))
 ·cases e
theorem UM (H:∀x k,ρ'.lookup x=some k->∃e,k=.aa e/\(O.lookup x=some (.aa e)\/O.lookup x=some (.own e)))(c:So W A V z N b ρ' d):So W A V z N b O d:=.mk λ Z X s Q E S f=>by
 refine c.go Z Z s Q E ⟨S.F.re S.F.aw (λ _ h=>h) (λ a h=>S.F.alive a (S.F.zx a h)) (λ _ _=>rfl) (λ x k w=>?_) (λ x y d e w=>?_),S.le,S.tk,λ a h C=>absurd h C,S.fc⟩ f
 ·obtain⟨e,rfl,q |q⟩:=H x k w
  ·exact⟨_,q,λ v _ r=>Rp.ag S.F.zx r⟩
  ·refine⟨_,q,λ v _ r=>?_⟩;obtain⟨a,rfl,h,C,o⟩:=r;exact o.rp C S.F.zx
 ·obtain⟨_,q,_⟩:=H x _ w;cases q
theorem Md (a b:Nat):a&&& b=2*(a/2&&& b/2)+(a%2)*(b%2):=by
 have h:(a&&& b)/2=a/2&&& b/2:=Nat.and_div_two;have k:(a&&& b)%2=(a%2)*(b%2):=by
  have:=Nat.and_mod_two_pow (a:=a) (b:=b) (n:=1);rw[Nat.pow_one] at this;rw[this];rcases JF a with e |e<;>rcases JF b with q |q<;>rw[e,q]<;>rfl
 omega
theorem Tr (m:Int)(c:Nat):Builtin.bitAnd m (c:Int)=2*Builtin.bitAnd (m/2) ((c/2:Nat):Int)+m%2*((c%2:Nat):Int):=by
 by_cases h:0<=m
 ·obtain⟨n,rfl⟩:=Int.eq_ofNat_of_zero_le h;rw[bitAnd_pp ∅ ∅,bitAnd_pp ∅ ∅];have k:((n:Int)/2).toNat=n/2:=∅
  rw[k];show(((n&&& c:Nat)):Int)=2*(((n/2&&& c/2:Nat)):Int)+_;rw[Md n c]
  push_cast
  rfl
 ·obtain⟨n,o⟩:∃n:Nat,m=-(n:Int)-1:=⟨(-m-1).toNat,∅⟩;subst o;rw[bitAnd_np h ∅,bitAnd_np ∅ ∅];have k:(Builtin.bitNot (-(n:Int)-1)).toNat=n:=by unfold Builtin.bitNot;omega
  have s:(Builtin.bitNot ((-(n:Int)-1)/2)).toNat=n/2:=by unfold Builtin.bitNot;omega
  rw[k,s];show(c:Int)-(((c&&& n:Nat)):Int)=2*(((c/2:Nat):Int)-(((c/2&&& n/2:Nat)):Int))+_;rw[Md c n];have w:(-(n:Int)-1)%2=1-((n%2:Nat):Int):=∅
  rw[w]
  push_cast
  rcases JF c with e |e<;>rw[show((c:Int)%2)=((c%2:Nat):Int) by omega,e]<;>push_cast<;>omega
variable {f:Addr}{c:Nat}{m:Str->Option Value} in
def Et:Nat->Int->Nat->Int
 |0,_,_=>0
 |f+1,m,c=>2*Et f (m/2) (c/2)+m%2*((c%2:Nat):Int)
theorem BK:∀(f:Nat)(m:Int)(c:Nat),c<2^f->Builtin.bitAnd m (c:Int)=Et f m c
 |0,m,c,h=>by
   have:c=0:=∅
   subst this;exact bitAnd_zero m
  |f+1,m,c,h=>by
   rw[Tr,BK f (m/2) (c/2) (by rw[Nat.pow_succ] at h;omega)];rfl
theorem ZW (m:Int):Builtin.bitAnd m 61440=m/4096%16*4096:=by
 have:=BK 16 m 61440 {_};refine this.trans ?_;simp only[Et];omega
theorem Yh (m:Int):Builtin.bitAnd m 4095=m%4096:=by
 have:=BK 12 m 4095 {_};refine this.trans ?_;simp only[Et];omega
def Gf:List (List (Int×Nat)):=[[(40960,108),(49152,115),(32768,45),(24576,98),(16384,100),(8192,99),(4096,112)],[(256,114)],[(128,119)],[(2112,115),(2048,83),(64,120)],[(32,114)],[(16,119)],[(1032,115),(1024,83),(8,120)],[(4,114)],[(2,119)],[(513,116),(512,84),(1,120)]]
def XX (p:Int×Nat):PV:=.ay [.int p.1,.str (DE p.2)]
def Lg (r:List (Int×Nat)):PV:=.ay (r.map XX)
theorem XK:Ul=.ay (Gf.map Lg):=⋯
variable {b:PV}{r:List Stmt}{c:Nat} in
def IF (q:Int->Bool)(d:Nat):List (Int×Nat)->Nat
 |[]=>d
 |(b,c)::r=>if q b then c else IF q d r
def Ja (m:Int)(i:Nat)(b:Int):Bool:=if i=0 then decide (Builtin.bitAnd m 61440=b) else decide (Builtin.bitAnd m b=b)
def Cs (m:Int)(i:Nat)(r:List (Int×Nat)):Nat:=IF (Ja m i) (if i=0 then 63 else 45) r
variable {a:List Addr}{r:List Stmt}{i:Nat} in
def Ef (m:Int):Nat->List (List (Int×Nat))->List Nat
 |_,[]=>[]
 |i,r::a=>Cs m i r::Ef m (i+1) a
def MI (l:List Nat):List PV:=l.map λ c=>.str (DE c)
def KE (m:Int)(l:List Nat):AC:=[("mode",.aa (.int m)),("perm",.own (.list (MI l)))]
def DT (m:Int)(l:List Nat)(i:Nat)(r:List (Int×Nat)):AC:=[("mode",.aa (.int m)),("perm",.own (.list (MI l))),("index",.aa (.int (i:Nat))),("table",.aa (Lg r))]
def Nx (m:Int)(l:List Nat)(i:Nat)(r:List (Int×Nat))(b:Int)(c:Nat):AC:=[("mode",.aa (.int m)),("perm",.own (.list (MI l))),("index",.aa (.int (i:Nat))),("table",.aa (Lg r)),("bit",.aa (.int b)),("char",.aa (.str (DE c)))]
def gU:List Str:=["mode","perm"]
def eX:List Str:=["mode","perm","index","table"]
variable {b:PV}{t:Expr} in
def MR:Expr×List Stmt:=match Bp P1 34 with
 |[_,.For t _ b _ _,_]=>(t,b)
 |_=>default
variable {b:PV}{t:Expr} in
def VG:Expr×List Stmt×List Stmt:=match MR.2 with
 |[.For t _ b o _]=>(t,b,o)
 |_=>default
theorem PS (l:List Nat)(c:Nat):MI l++[.str (DE c)]=MI (l++[c]):=by simp[MI]
theorem aL (E:GW w h C k mg mb)(H:Cg k A)(B:Ip w h 140 z N)(a:C.fn "S_IFMT"=some Pp)(m:Int)(i:Nat)(o:List (Int×Nat))(j:l.length<100):∀r:List (Int×Nat),
 G4 (W1 w h) A (Dq w 140).scope z N VG.1 VG.2.1 VG.2.2 (r.map XX) (DT m l i o) (.next (DT m (l++[IF (Ja m i) (if i=0 then 63 else 45) r]) i o))
 |[]=>by
   have W:(MI l).length<Bi:=by
    have:5000<=Bi:={_}
    simp[MI];omega
   refine .nil ?_
   conv in VG.2.2=>whnf
   refine CM (Ey E H B (c:=decide (((i:Nat):Int)=0)) (.ar (.aa (d:=.int (i:Nat)) ⋯) .int rfl rfl (R7 _ _)) ?_);by_cases O:i=0
   ·rw[Bv ∅,Ap rfl];have e:DT m (l++[IF (Ja m i) (if i=0 then 63 else 45) []]) i o=AM (DT m l i o) "perm" (.own (.list (MI l++[.str (DE 63)]))):=by
     rw[PS];unfold IF;rw[Ap O];rfl
    rw[e];exact CM (Lc E H B ⋯ ⋯ (.ae (d:=.str (DE 63)) ⋯) W)
   ·rw[Bs ∅,Ak (_)];have e:DT m (l++[IF (Ja m i) (if i=0 then 63 else 45) []]) i o=AM (DT m l i o) "perm" (.own (.list (MI l++[.str (DE 45)]))):=by
     rw[PS];unfold IF;rw[Ak O];rfl
    rw[e];exact CM (Lc E H B ⋯ ⋯ (.ae (d:=.str (DE 45)) ⋯) W)
  |(b,c)::r=>by
   have W:(MI l).length<Bi:=by
    have:5000<=Bi:={_}
    simp[MI];omega
   have n:=aL E H B a m i o j r;have V:∀{p q d Z t:Pos}{Q:Pos},(Q.endLine==d.line)=true->E8 (W1 w h) A (Dq w 140).scope z N (execs [.Expr (.Call (.Attribute (.Name "perm" p) "append" Q) [.Name "char" q] [] d) Z,.Break t] z) (Nx m l i o b c) (.brk (DT m (l++[c]) i o)):=λ{_ _ _ _ _ _} u=>by
    have e:DT m (l++[c]) i o=Ci eX (AM (Nx m l i o b c) "perm" (.own (.list (MI l++[.str (DE c)])))):=by rw[PS];kernel_rfl
    rw[e];exact E8.fh (D5 (Lc E H B (by rw[u];rfl) ⋯ (.aa (d:=.str (DE c)) ⋯) W) (CM Q0)) Dg
   have f:E8 (W1 w h) A (Dq w 140).scope z N (execs [] z) (Nx m l i o b c) (.next (DT m l i o)):=by
    have e:DT m l i o=Ci eX (Nx m l i o b c):=⋯
    rw[e];exact EA.post Dg
   have g:∀{v x y:Pos},CJ C (Dq w 140).scope (Nx m l i o b c) (.Call (.Name "S_IFMT" v) [.Name "mode" x] [] y) (.int (Builtin.bitAnd m 61440)):=λ{_ _ _}=>.fn ⋯ ⋯ a (.cons (.aa (d:=.int m) ⋯) .nil rfl) (_) rfl;by_cases s:Ja m i b=true
   ·have e:IF (Ja m i) (if i=0 then 63 else 45) ((b,c)::r)=c:=by unfold IF;rw[Ap s]
    rw[e];refine .brk (ρ1:=Nx m l i o b c) ⋯ ?_
    conv in VG.2.1=>whnf
    refine Kv (Ey E H B (c:=decide (((i:Nat):Int)=0)) (.ar (.aa (d:=.int (i:Nat)) ⋯) .int rfl rfl (R7 _ _)) ?_);unfold Ja at s;by_cases O:i=0
    ·rw[Ap O] at s;rw[Bv ∅,Ap rfl];refine Kv (Ey E H B (c:=true) (.ar g (.aa (d:=.int b) ⋯) rfl rfl ((R7 _ _).trans (Cb some s))) ?_);rw[Ap rfl];exact V ⋯
    ·rw[Ak O] at s;rw[Bs ∅,Ak (_)];refine Kv (Ey E H B (c:=true) (.ar (.ai (.aa (d:=.int m) ⋯) (.aa (d:=.int b) ⋯) (d:=.int (Builtin.bitAnd m b)) rfl) (.aa (d:=.int b) ⋯) rfl rfl ((R7 _ _).trans (Cb some s))) ?_);rw[Ap rfl];exact V ⋯
   ·have e:IF (Ja m i) (if i=0 then 63 else 45) ((b,c)::r)=IF (Ja m i) (if i=0 then 63 else 45) r:=by
     show(if Ja m i b=true then c else _)=_;rw[Ak s]
    rw[e];refine .next (ρ1:=Nx m l i o b c) ⋯ ?_ n
    conv in VG.2.1=>whnf
    refine CM (Ey E H B (c:=decide (((i:Nat):Int)=0)) (.ar (.aa (d:=.int (i:Nat)) ⋯) .int rfl rfl (R7 _ _)) ?_);have s:Ja m i b=false:=by simpa using s
    unfold Ja at s;by_cases O:i=0
    ·rw[Ap O] at s;rw[Bv ∅,Ap rfl];refine CM (Ey E H B (c:=false) (.ar g (.aa (d:=.int b) ⋯) rfl rfl ((R7 _ _).trans (Cb some s))) ?_);rw[Ak (_)];exact f
    ·rw[Ak O] at s;rw[Bs ∅,Ak (_)];refine CM (Ey E H B (c:=false) (.ar (.ai (.aa (d:=.int m) ⋯) (.aa (d:=.int b) ⋯) (d:=.int (Builtin.bitAnd m b)) rfl) (.aa (d:=.int b) ⋯) rfl rfl ((R7 _ _).trans (Cb some s))) ?_);rw[Ak (_)];exact f
theorem cL (o:GW w h C k mg mb)(s:Cg k A)(B:Ip w h 140 z N)(E:C.fn "S_IFMT"=some Pp)(m:Int)(i:Nat)(r:List (Int×Nat))(H:l.length<100):
 E8 (W1 w h) A (Dq w 140).scope z N (execs MR.2 z) (DT m l i r) (.next (KE m (l++[Cs m i r]))):=by
 have e:KE m (l++[Cs m i r])=Ci gU (DT m (l++[Cs m i r]) i r):=⋯
 rw[e];have:=aL o s B E m i r H r
 conv in MR.2=>whnf
 exact CM ((J0 o s B (.ev (.aa (d:=Lg r) ⋯) ⋯ rfl rfl) this).post Dg)
theorem Uo (e:PV.str (DE a)=PV.str (DE b)):a=b:=by
 injection e with e;have:(DE a).cps=(DE b).cps:=by rw[e]
 have:#[a]= #[b]:=this;simpa using this
theorem YH (e:MI a=MI b):a=b:=(List.map_inj_right λ x y=>Uo).mp e
theorem XW (e:XX p=XX q):p=q:=by
 unfold XX at e;injection e with e;injection e with h k;injection h with h;injection k with k _;exact Prod.ext h (Uo k)
theorem Wy (e:Lg a=Lg b):a=b:=by
 unfold Lg at e;injection e with e;exact(List.map_inj_right λ x y=>XW).mp e
theorem Vk (e:DT m l i r=DT m a b c):l=a/\i=b/\r=c:=by
 have h:(DT m l i r).lookup ("perm":Str)=(DT m a b c).lookup ("perm":Str):=by rw[e]
 have k:(DT m l i r).lookup ("index":Str)=(DT m a b c).lookup ("index":Str):=by rw[e]
 have o:(DT m l i r).lookup ("table":Str)=(DT m a b c).lookup ("table":Str):=by rw[e]
 have h:some (BL.own (.list (MI l)))=some (BL.own (.list (MI a))):=h;have k:some (BL.aa (.int (i:Nat)))=some (BL.aa (.int (b:Nat))):=k;have o:some (BL.aa (Lg r))=some (BL.aa (Lg c)):=o;injection h with h;injection h with h;injection h with h;injection k with k;injection k with k;injection k with k;injection o with o;injection o with o;exact⟨YH h,∅,Wy o⟩
open Classical in
noncomputable def fK (m:Int)(k:AC):Option Fl:=
 if h:∃p:List Nat×Nat×List (Int×Nat),p.1.length<100/\k=DT m p.1 p.2.1 p.2.2 then some (.next (KE m (h.choose.1++[Cs m h.choose.2.1 h.choose.2.2]))) else none
theorem cZ (m:Int)(k:l.length<100)(i:Nat)(r:List (Int×Nat)):fK m (DT m l i r)=some (.next (KE m (l++[Cs m i r]))):=by
 have h:∃p:List Nat×Nat×List (Int×Nat),p.1.length<100/\DT m l i r=DT m p.1 p.2.1 p.2.2:=⟨(l,i,r),k,rfl⟩;unfold fK;rw[dif_pos h];obtain⟨o,s,w⟩:=Vk h.choose_spec.2;rw[<-o,<-s,<-w]
theorem Vz (l:List Nat):Txt.join "" (l.map DE)=A5 l:=by
 have k:∀(l:List Nat)(a:List Nat),(l.map DE).foldl (λ h p=>h++("":Str).cps++p.cps) a.toArray=(a++l).toArray:=by
  intro l;induction l with
  |nil=>intro a;simp
  |cons c r o=>
   intro a;show(r.map DE).foldl _ (a.toArray++("":Str).cps++(DE c).cps)=_;have e:a.toArray++("":Str).cps++(DE c).cps=(a++[c]).toArray:=by
    have:("":Str).cps= #[]:=⋯
    rw[this];show a.toArray++ #[]++ #[c]=_;simp
   rw[e,o];simp
 cases l with
 |nil=>kernel_rfl
 |cons c r=>
  show(⟨(r.map DE).foldl (λ h p=>h++("":Str).cps++p.cps) (DE c).cps⟩:Str)=_;have:=k r [c];have e:(DE c).cps=[c].toArray:=rfl;rw[e,this];rfl
theorem OZ:∀l:List Nat,DN (MI l)=some (l.map DE)
 |[]=>rfl
  |c::r=>by
   have h:=OZ r;unfold DN at h ⊢;show List.mapM GE (PV.str (DE c)::MI r)=_;rw[GZ,h];rfl
theorem SY (l:List Nat)(h:l.length<=100):JoinOk "" (l.map DE)=true:=by
 have k:∀(l:List Nat)(n:Nat),(l.map DE).foldl (λ(a:Nat)(x:Str)=>a+x.length+("":Str).length) n=n+l.length:=by
  intro l;induction l with
  |nil=>intro n;rfl
  |cons c r o=>
   intro n;show(r.map DE).foldl _ (n+(DE c).length+("":Str).length)=_;rw[o];have:(DE c).length=1:=rfl;have s:("":Str).length=0:=⋯
   rw[this,s];simp;omega
 unfold JoinOk;rw[List.foldl_toArray,k];have:∀n≤100,tooLong n=false:={_}
 rw[MC,this _ h];rfl
def jG (l:List Nat):Prop:=∀c∈l,c<1114112
theorem YN (h:jG l)(o:l.length<=1000):Ix (A5 l)=true:=by
 have s:=Gz;unfold Ix;rw[Ah];refine⟨?_,by rw[B1];exact Bv ∅⟩;unfold PyData.strOk;rw[G5];intro c k;have:c∈l:=by simpa[A5] using k
 simpa using h c this
theorem Ri (q:Int->Bool)(d:Nat):∀r:List (Int×Nat),IF q d r=d\/∃p:Int×Nat,p∈r/\IF q d r=p.2
 |[]=>.inl rfl
  |(b,c)::r=>by
   show(if q b=true then c else IF q d r)=d\/∃p:Int×Nat,p∈_/\(if q b=true then c else IF q d r)=p.2;split
   ·exact .inr ⟨_,Ac,rfl⟩
   ·rcases Ri q d r with e |⟨p,h,e⟩
    ·exact .inl e
    ·exact .inr ⟨p,Ad _ h,e⟩
theorem Pu (m:Int):∀(k:List (List (Int×Nat)))(i:Nat),(∀r∈k,∀p∈r,p.2<1000)->∀c∈Ef m i k,c<1000
 |[],i,h,c,o=>nomatch o
  |r::k,i,h,c,o=>by
   rcases Ag.mp o with e |e
   ·rw[e];unfold Cs;rcases Ri (Ja m i) (if i=0 then 63 else 45) r with q |⟨p,s,q⟩
    ·rw[q];split<;>omega
    ·rw[q];exact h r Ac p s
   ·exact Pu m k (i+1) (λ r w=>h r (Ad _ w)) c e
theorem NI (m:Int):∀(h:List (List (Int×Nat)))(i:Nat),(Ef m i h).length=h.length
 |[],_=>rfl
  |r::h,i=>Cb (·+1) (NI m h (i+1))
variable {m:Str->Option Value} in
def RV:List PV->Option PV
 |[.int m]=>some (.str (A5 (Ef m 0 Gf)))
 |_=>none
theorem aM (m:Int)(o:∀l i r,DL (Dq w 140).scope t (.ay [.int (i:Nat),Lg r]) (KE m l)=some (DT m l i r)):∀(h:List (List (Int×Nat)))(i:Nat)(l:List Nat),l.length+h.length<=100->
 Gj (Dq w 140).scope t (fK m) (λ s=>some (.next s)) (NN i (h.map Lg)) (KE m l)=some (.next (KE m (l++Ef m i h)))
 |[],i,l,k=>by rw[show Ef m i []=[] from rfl,Cj];rfl
  |r::h,i,l,k=>by
   have z:=aM m o h (i+1) (l++[Cs m i r]) (by simp at k ⊢;omega);show(DL (Dq w 140).scope t (.ay [.int (i:Nat),Lg r]) (KE m l)).bind _=_;rw[o,AX,cZ m (by simp at k;omega)];simp only[AX];rw[z];simp[Ef]
theorem cU (I:Hb w h)(T:DB a b mg mb h)(z:GW w h C k mg mb)(W:C.fn "S_IFMT"=some Pp)(Z:C.gv=dY):EG (W1 w h) (k+1) 140 RV:=by
 refine Mk (Ml I T) λ args d e=>?_;unfold RV at e;split at e
 ·rename_i m;cases e;refine⟨rfl,λ A f v E B=>?_⟩;have g:=Gz;have N:mg "enumerate"=none/\mb "enumerate"=some (.type "enumerate"):=⟨(C9 I T _).trans ⋯,Mf T {_} ⋯⟩;have V:=aM (w:=w) m (t:=MR.1) (λ l i r=>⋯) Gf 0 [] {_};rw[DX] at V
  conv in Bp P1 34=>whnf
  refine SD z E B (n:=1) (d':=.list []) ⋯ ⋯ ?_;refine JJ (ρ1:=KE m (Ef m 0 Gf)) (.mk (XG z (A2 z E 1) B E.handled N ⋯ (ds:=Gf.map Lg) (eb:=fK m) (eo:=λ O=>some (.next O)) ?_ (by rw[Ao];exact Ab {_} g) (λ O j s=>E8.go ?_) (λ O j s=>by cases s;exact EA.go) ?_)) ?_
  ·refine Fo.trans ?_;have:GF C (Dq w 140).scope (AM ((["mode"]:List Str).zip ([PV.int m].map BL.aa)) "perm" (.own (.list []))) "_filemode_table"=C.gv "_filemode_table":=⋯
   rw[this,Z];show some Ul=_;rw[XK]
  ·unfold fK at s;split at s
   ·rename_i H;cases s;obtain⟨n,p⟩:=H.choose_spec;have:=cL z E B W m H.choose.2.1 H.choose.2.2 n;rw[<-p] at this;exact this
   ·cases s
  ·exact V
  ·refine UM (ρ':=[("perm",.aa (.list (MI (Ef m 0 Gf))))]) (λ x t H=>?_) (HV (FC z E B (.ev (.cg (b:=.str "") (mf:=.join) ⋯ ⋯ ⋯ (.ae ⋯) (.cons (.aa (d:=.list (MI (Ef m 0 Gf))) ⋯) .nil rfl) (_) ?_) rfl)))
   ·have o:(if(x=="perm")=true then some (BL.aa (.list (MI (Ef m 0 Gf)))) else none)=some t:=by
     rw[<-H];show _=List.lookup x [("perm",BL.aa (.list (MI (Ef m 0 Gf))))];rw[LF];cases (x==("perm":Str))<;>rfl
    split at o
    ·rename_i q;cases o;have:x="perm":=by simpa using q
     subst this;exact⟨_,rfl,.inr ⋯⟩
    ·cases o
   ·have y:(Ef m 0 Gf).length=10:=NI m Gf 0;show(DN (MI (Ef m 0 Gf))).bind (λ Q=>if(JoinOk "" Q&&Ix (Txt.join "" Q))=true then some (PV.str (Txt.join "" Q)) else none)=_;rw[OZ,AX,Vz,SY _ ∅,YN (λ c u=>by have:=Pu m Gf 0 {_} c u;omega) ∅];rfl
 ·cases e
theorem gW (m b:Int):Ja m 0 b=decide (m/4096%16*4096=b):=by unfold Ja;rw[Ap rfl,ZW]
theorem fB (m:Int)(i:Nat)(b:Int)(h:i≠0):Ja m i b=decide (Builtin.bitAnd m b=b):=by unfold Ja;rw[Ak h]
theorem Zd (m:Int):Cs m 0 [(40960,108),(49152,115),(32768,45),(24576,98),(16384,100),(8192,99),(4096,112)]=I8.getD (m/4096%16).toNat 0:=by
 obtain⟨n,k,h⟩:=gC (x:=m/4096%16) (n:=16) ∅ ∅;unfold Cs;simp only[IF,gW,k,Ap];have:∀n:Nat,n<16->(if decide (((n:Nat):Int)*4096=40960)=true then 108 else if decide (((n:Nat):Int)*4096=49152)=true then 115 else if decide (((n:Nat):Int)*4096=32768)=true then 45 else if decide (((n:Nat):Int)*4096=24576)=true then 98 else if decide (((n:Nat):Int)*4096=16384)=true then 100 else if decide (((n:Nat):Int)*4096=8192)=true then 99 else if decide (((n:Nat):Int)*4096=4096)=true then 112 else 63)=I8.getD ((n:Int).toNat) 0:={_}
 exact this n h
theorem Lm (m:Int)(i:Nat)(h:i≠0)(b:Int)(c:Nat)(p:Prop) [Decidable p] (k:Builtin.bitAnd m b=b↔p):Cs m i [(b,c)]=if p then c else 45:=by
 unfold Cs;simp only[IF,fB m i b h,Ak h];by_cases q:p
 ·rw[Ap q,Ap (Bv (k.mpr q))]
 ·rw[Ak q,Ak λ z=>q (k.mp (E9 z))]
theorem M7 (m:Int)(i:Nat)(s:i≠0)(h k o:Int)(w z A:Nat)(D X:Int)(C:D=0\/D=1)(E:X=0\/X=1)(H:Builtin.bitAnd m h=h↔(D=1/\X=1))(N:Builtin.bitAnd m k=k↔X=1)(O:Builtin.bitAnd m o=o↔D=1):
 Cs m i [(h,w),(k,z),(o,A)]=[45,A,z,w].getD (D+X*2).toNat 0:=by
 unfold Cs;simp only[IF,fB m i _ s,Ak s];rcases C with rfl |rfl<;>rcases E with rfl |rfl<;>simp[H,N,O]
theorem ZP (m:Int):Builtin.bitAnd m 256=256↔4<=A9 m 2:=by
 rw[show Builtin.bitAnd m 256=Et 9 m 256 from BK 9 m 256 {_}];simp only[Et,A9,CR];omega
theorem ZQ (m:Int):Builtin.bitAnd m 128=128↔A9 m 2/2%2=1:=by
 rw[show Builtin.bitAnd m 128=Et 8 m 128 from BK 8 m 128 {_}];simp only[Et,A9,CR];omega
theorem X9 (m:Int):Builtin.bitAnd m 2112=2112↔(A9 m 2%2=1/\CR m 2=1):=by
 rw[show Builtin.bitAnd m 2112=Et 12 m 2112 from BK 12 m 2112 {_}];simp only[Et,A9,CR];omega
theorem Ya (m:Int):Builtin.bitAnd m 2048=2048↔CR m 2=1:=by
 rw[show Builtin.bitAnd m 2048=Et 12 m 2048 from BK 12 m 2048 {_}];simp only[Et,A9,CR];omega
theorem dK (m:Int):Builtin.bitAnd m 64=64↔A9 m 2%2=1:=by
 rw[show Builtin.bitAnd m 64=Et 7 m 64 from BK 7 m 64 {_}];simp only[Et,A9,CR];omega
theorem dL (m:Int):Builtin.bitAnd m 32=32↔4<=A9 m 1:=by
 rw[show Builtin.bitAnd m 32=Et 6 m 32 from BK 6 m 32 {_}];simp only[Et,A9,CR];omega
theorem dM (m:Int):Builtin.bitAnd m 16=16↔A9 m 1/2%2=1:=by
 rw[show Builtin.bitAnd m 16=Et 5 m 16 from BK 5 m 16 {_}];simp only[Et,A9,CR];omega
theorem Yb (m:Int):Builtin.bitAnd m 1032=1032↔(A9 m 1%2=1/\CR m 1=1):=by
 rw[show Builtin.bitAnd m 1032=Et 11 m 1032 from BK 11 m 1032 {_}];simp only[Et,A9,CR];omega
theorem Yc (m:Int):Builtin.bitAnd m 1024=1024↔CR m 1=1:=by
 rw[show Builtin.bitAnd m 1024=Et 11 m 1024 from BK 11 m 1024 {_}];simp only[Et,A9,CR];omega
theorem fT (m:Int):Builtin.bitAnd m 8=8↔A9 m 1%2=1:=by
 rw[show Builtin.bitAnd m 8=Et 4 m 8 from BK 4 m 8 {_}];simp only[Et,A9,CR];omega
theorem fU (m:Int):Builtin.bitAnd m 4=4↔4<=A9 m 0:=by
 rw[show Builtin.bitAnd m 4=Et 3 m 4 from BK 3 m 4 {_}];simp only[Et,A9,CR];omega
theorem fV (m:Int):Builtin.bitAnd m 2=2↔A9 m 0/2%2=1:=by
 rw[show Builtin.bitAnd m 2=Et 2 m 2 from BK 2 m 2 {_}];simp only[Et,A9,CR];omega
theorem ZN (m:Int):Builtin.bitAnd m 513=513↔(A9 m 0%2=1/\CR m 0=1):=by
 rw[show Builtin.bitAnd m 513=Et 10 m 513 from BK 10 m 513 {_}];simp only[Et,A9,CR];omega
theorem ZO (m:Int):Builtin.bitAnd m 512=512↔CR m 0=1:=by
 rw[show Builtin.bitAnd m 512=Et 10 m 512 from BK 10 m 512 {_}];simp only[Et,A9,CR];omega
theorem fW (m:Int):Builtin.bitAnd m 1=1↔A9 m 0%2=1:=by
 rw[show Builtin.bitAnd m 1=Et 1 m 1 from BK 1 m 1 {_}];simp only[Et,A9,CR];omega
theorem VJ (m:Int):Ef m 0 Gf=Fy m:=by
 have hd:∀k,A9 m k%2=0\/A9 m k%2=1:=λ k=>∅
 have h:∀k,CR m k=0\/CR m k=1:=λ k=>by unfold CR;omega
 have e:Ef m 0 Gf=[Cs m 0 [(40960,108),(49152,115),(32768,45),(24576,98),(16384,100),(8192,99),(4096,112)],Cs m 1 [(256,114)],Cs m 2 [(128,119)],Cs m 3 [(2112,115),(2048,83),(64,120)],Cs m 4 [(32,114)],Cs m 5 [(16,119)],Cs m 6 [(1032,115),(1024,83),(8,120)],Cs m 7 [(4,114)],Cs m 8 [(2,119)],Cs m 9 [(513,116),(512,84),(1,120)]]:=rfl;rw[e,Zd,Lm m 1 {_} _ _ _ (ZP m),Lm m 2 {_} _ _ _ (ZQ m),M7 m 3 {_} _ _ _ _ _ _ _ _ (hd 2) (h 2) (X9 m) (Ya m) (dK m),
  Lm m 4 {_} _ _ _ (dL m),Lm m 5 {_} _ _ _ (dM m),M7 m 6 {_} _ _ _ _ _ _ _ _ (hd 1) (h 1) (Yb m) (Yc m) (fT m),
  Lm m 7 {_} _ _ _ (fU m),Lm m 8 {_} _ _ _ (fV m),M7 m 9 {_} _ _ _ _ _ _ _ _ (hd 0) (h 0) (ZN m) (ZO m) (fW m)]
 rfl
theorem Do (s:a.length<=Bi)(h:a[i]? =some d):DS (.list a) (.int (i:Nat))=some d:=by
 have w:i<a.length:=(CU.mp h).1;have k:Lu ((i:Nat):Int)=true:=by
  unfold Lu;have:Bi=1048576:=rfl;simp;omega
 have o:seqIndex? ((i:Nat):Int) a.length=some i:=by
  unfold seqIndex?;simp;omega
 show(if Lu ((i:Nat):Int)=true then(seqIndex? ((i:Nat):Int) a.length).bind (a[·]?) else none)=_
 rw[Ap k,o];exact h
def Df:List Str:=["a\"b","","z","\"","\"\""]
def bV:List Nat:=[124,33,120,40,124]
def AB (l:List Str):PV:=.list (l.map .str)
structure QK (sp:List Nat)(po:List Int)(wi so:List (List Str)):Prop where
 je:sp.length=6
 sp5:∀s∈sp,s<5
 jq:po.length=6
 kh:∀p∈po,p.natAbs<1000000000
 ip:wi.length=4
 jn:∀l∈wi,l.length<=1/\∀x∈l,Gp x=true
 iu:so.length=4
 jo:∀l∈so,l.length<=9
def TC (h:List Nat)(k:List Int)(o s:List (List Str)):List PV:=[AB Df,.list (h.map λ n=>.int (n:Nat)),.list (k.map .int),.list (o.map AB),.list (s.map AB)]
def Iu (h:List Nat)(k:List Int)(p:Nat):List PV:=[.str (D6 (Df.getD (h.getD p 0) "") p),.str (A5 (Ba (bV.getD (h.getD p 0) 0) (dg (k.getD p 0))))]
def LQ (h k:List (List Str))(p:Nat):List PV:=(h.getD p []).map (λ t=>.str (D6 t p))++(k.getD p []).map .str
def OV (h:List Nat)(k:List Int)(o s:List (List Str)):List PV:=(((List.range 6).flatMap (Iu h k))++[.str "226 all told"])++(List.range 4).flatMap (LQ o s)
def Gi (h:List Nat)(k:List Int)(o s:List (List Str))(w:List PV):AC:=[("names",.aa (AB Df)),("spots",.aa (.list (h.map λ n=>.int (n:Nat)))),("ports",.aa (.list (k.map .int))),("wished",.aa (.list (o.map AB))),("spoiled",.aa (.list (s.map AB))),("talk",.own (.list w))]
def eW:List Str:=["names","spots","ports","wished","spoiled","talk"]
variable {b:PV} in
def TA (i:Nat):List Stmt:=match(Bp P1 37)[i]? with
 |some (.For _ _ b _ _)=>b
 |_=>[]
theorem gP (h:m∈Iz):EY .Mult (.str (DE m)) (.int 3)=some (.str (A5 [m,m,m])):=by
 unfold Iz at h;simp only[Ag,Ev,OE] at h;rcases h with rfl |rfl |rfl |rfl<;>kernel_rfl
theorem YX (h:a<5):DS (.str "|!x(|") (.int (a:Nat))=some (.str (DE (bV.getD a 0))):=by
 match a,h with
 |0,_=>kernel_rfl
 |1,_=>kernel_rfl
 |2,_=>kernel_rfl
 |3,_=>kernel_rfl
 |4,_=>kernel_rfl
theorem TT (h:a<5):bV.getD a 0∈Iz:=by
 have:∀a<5,bV.getD a 0∈Iz:={_}
 exact this a h
theorem YT (h:a<5):Gp (Df.getD a "")=true:=by
 have:∀a<5,Gp (Df.getD a "")=true:={_}
 exact this a h
theorem Es {i:Nat}{a:Type}{l:List a}{d:a}(h:i<l.length):l[i]? =some (l.getD i d):=by
 rw[Az,Bb h];rfl
theorem getD_mem {i:Nat}{a:Type}{l:List a}{d:a}(h:i<l.length):l.getD i d∈l:=by
 rw[Az,Bb h];exact List.getElem_mem h
section
theorem Wc (u:GW w h C k mg mb)(v:Cg k A)(B:Ip w h 152 z N)(R:C.fn "_law_said"=some Mi)(H:QK a b c d)(S:∀E(p:Nat),DL (Dq w 152).scope t (.int p) (Gi a b c d E)=some (AM (Gi a b c d E) "place" (.aa (.int p)))):∀(W:List Nat)(E:List PV),(∀p∈W,p<6)->E.length+2*W.length<=1000->
 G4 (W1 w h) A (Dq w 152).scope z N t (TA 1) [] (W.map λ(i:Nat)=>.int (0+(i:Int)*1)) (Gi a b c d E) (.next (Gi a b c d (E++W.flatMap (Iu a b))))
 |[],E,D,y=>by
   rw[List.flatMap_nil,Cj];exact .nil EA
  |p::W,E,D,y=>by
   have G:=Wc u v B R H S W (E++Iu a b p) (λ q Y=>D q (Ad _ Y)) (by simp[Iu] at y ⊢;omega);rw[Br] at G;have b1:=Gz;have O:=D p Ac;have Q:a.getD p 0<5:=H.sp5 _ (getD_mem (by rw[H.je];exact O));have Z:(b.getD p 0).natAbs<1000000000:=H.kh _ (getD_mem (by rw[H.jq];exact O));have e:(b.getD p 0).natAbs<10^10:=Nat.lt_trans Z {_};have e0:(0+(p:Int)*1)=(p:Int):=∅
   show G4 _ _ _ _ _ _ _ _ (.int (0+(p:Int)*1)::_) _ _;rw[e0];refine .next (S E p) ?_ G;have V:DS (.list (a.map λ n=>.int (n:Nat))) (.int (p:Nat))=some (.int ((a.getD p 0:Nat):Int)):=Do (by rw[Ao,H.je];omega) (by rw[AE,Es (d:=0) (by rw[H.je];exact O)];rfl);have f:DS (.list (b.map .int)) (.int (p:Nat))=some (.int (b.getD p 0)):=Do (by rw[Ao,H.jq];omega) (by rw[AE,Es (d:=0) (by rw[H.jq];exact O)];rfl);have name:DS (AB Df) (.int ((a.getD p 0:Nat):Int))=some (.str (Df.getD (a.getD p 0) "")):=Do (by rw[Ao];exact Ab {_} b1) (by rw[AE,Es (d:=("":Str)) Q];rfl);have T:Iu a b p=[.str (D6 (Df.getD (a.getD p 0) "") p),.str (A5 (Ba (bV.getD (a.getD p 0) 0) (dg (b.getD p 0))))]:=rfl
   conv in TA 1=>whnf
   rw[T];clear T G;generalize a.getD p 0=s at*;generalize a0:b.getD p 0=o at*;refine D5 (AW u v B (x:="mark") (d:=.str (DE (bV.getD s 0))) (.aj (b:=.str "|!x(|") (.ev (.ae ⋯) rfl) (.aj (b:=.list (a.map λ n=>.int (n:Nat))) (.aa ⋯) (.aa (d:=.int (p:Nat)) ⋯) rfl V) rfl (YX Q)) ⋯) ?_;have hm:=TT Q;have I:=YT Q;have g:Mi [.str (Df.getD s ""),.int (p:Nat)]=some (.str (D6 (Df.getD s "") p)):=by
    show(if Gp (Df.getD s "")=true/\0<=((p:Nat):Int)/\((p:Nat):Int)<6 then some (PV.str (D6 (Df.getD s "") ((p:Nat):Int).toNat)) else none)=_;rw[Ap ⟨I,∅,∅⟩];rfl
   have j:("229 it lies at (":Str)=A5 (CB++[40]):=⋯
   have l:(") (|||7|)":Str)=A5 (41::ES):=⋯
   have a5:=Tl o e;have J:Of .str [.int o]=some (.str (A5 (dg o))):=by
    show(if o.natAbs<1000000000 then some (PV.str (Str.ofString (toString o))) else none)=_;rw[Ap Z,bR]
   generalize bV.getD s 0=m at*;generalize Df.getD s ""=x at*;have a1:EY .Add (.str "229 it lies at (") (.str (A5 [m,m,m]))=some (.str (A5 ((CB++[40])++[m,m,m]))):=by
    rw[j,EQ (by rw[B1,B1];simp[CB];omega),Ed]
   have a2:EY .Add (.str (A5 ((CB++[40])++[m,m,m]))) (.str (A5 (dg o)))=some (.str (A5 (((CB++[40])++[m,m,m])++dg o))):=by
    rw[EQ (by rw[B1,B1];simp[CB];omega),Ed]
   have a3:EY .Add (.str (A5 (((CB++[40])++[m,m,m])++dg o))) (.str (DE m))=some (.str (A5 ((((CB++[40])++[m,m,m])++dg o)++[m]))):=by
    have:DE m=A5 [m]:=rfl;rw[this,EQ (by rw[B1,B1];simp[CB];omega),Ed]
   have a4:EY .Add (.str (A5 ((((CB++[40])++[m,m,m])++dg o)++[m]))) (.str ") (|||7|)")=some (.str (A5 (Ba m (dg o)))):=by
    rw[l,EQ (by rw[B1,B1];simp[CB,ES];omega),Ed];have:((((CB++[40])++[m,m,m])++dg o)++[m])++(41::ES)=Ba m (dg o):=by simp[Ba]
    rw[this]
   have L:E.length<Bi:=by simp at y;omega
   have M:(E++[PV.str (D6 x p)]).length<Bi:=by simp at y ⊢;omega
   obtain⟨r,U⟩:∃r:AC,r=AM (AM (Gi a b c d E) "place" (.aa (.int (p:Nat)))) "mark" (.aa (.str (DE m))):=⟨_,rfl⟩;refine D5 (Lc (xs:=E) (d:=.str (D6 x p)) u v B ⋯ ⋯ (.fn ⋯ ⋯ R (.cons (.aj (b:=AB Df) (.aa ⋯) (.aj (b:=.list (a.map λ n=>.int (n:Nat))) (.aa ⋯) (.aa (d:=.int (p:Nat)) ⋯) rfl V) rfl name) (.cons (.aa (d:=.int (p:Nat)) ⋯) .nil rfl) rfl) (_) g) L) ?_;have e9:Gi a b c d (E++[.str (D6 x p),.str (A5 (Ba m (dg o)))])=Ci eW (AM (AM (AM (AM (Gi a b c d E) "place" (.aa (.int (p:Nat)))) "mark" (.aa (.str (DE m)))) "talk" (.own (.list (E++[.str (D6 x p)])))) "talk" (.own (.list ((E++[.str (D6 x p)])++[.str (A5 (Ba m (dg o)))])))):=by
    rw[Br];kernel_rfl
   rw[e9];exact CM ((Lc (xs:=E++[.str (D6 x p)]) (d:=.str (A5 (Ba m (dg o)))) u v B ⋯ ⋯ (.ai (.ai (.ai (.ai (.ae (d:=.str "229 it lies at (") ⋯) (.ai (.aa (d:=.str (DE m)) ⋯) .int (gP hm)) a1) (.bx (b:=.str) ⋯ ⋯ (.cons (.aj (b:=.list (b.map .int)) (.aa ⋯) (.aa (d:=.int (p:Nat)) ⋯) rfl f) .nil rfl) (_) J) a2) (.aa (d:=.str (DE m)) ⋯) a3) (.ae (d:=.str ") (|||7|)") ⋯) a4) M).post Dg)
end
variable {d:PV}{t:Expr} in
def Kw (p:Nat):PV->PV
 | .str t=>.str (D6 t p)
 |d=>d
open Classical in
noncomputable def G6 (a:List PV)(r:PV):List PV->Option PV:=λ args=>if args=a then some r else none
section
theorem Wb (j:GW w h C k mg mb)(l:Cg k A)(B:Ip w h 152 z N)(D:C.fn "_law_said"=some Mi)(s:QK c d a b)(e:∀o(p:Nat),DL (Dq w 152).scope t (.int p) (Gi c d a b o)=some (AM (Gi c d a b o) "place" (.aa (.int p)))):∀(O:List Nat)(o:List PV),(∀p∈O,p<4)->o.length+10*O.length<=1000->
 G4 (W1 w h) A (Dq w 152).scope z N t (TA 3) [] (O.map λ(i:Nat)=>.int (0+(i:Int)*1)) (Gi c d a b o) (.next (Gi c d a b (o++O.flatMap (LQ a b))))
 |[],o,m,f=>by
   rw[List.flatMap_nil,Cj];exact .nil EA
  |p::O,o,m,f=>by
   have T:=Gz;have E:=m p Ac;obtain⟨I,n⟩:=s.jn _ (getD_mem (d:=[]) (i:=p) (by rw[s.ip];exact E));have J:=s.jo _ (getD_mem (d:=[]) (i:=p) (by rw[s.iu];exact E));have Q:(LQ a b p).length<=10:=by
    unfold LQ;rw[BZ,Ao,Ao];omega
   have r:=Wb j l B D s e O (o++LQ a b p) (λ q L=>m q (Ad _ L)) (by simp at f ⊢;omega);rw[Br] at r;have M:(0+(p:Int)*1)=(p:Int):=∅
   show G4 _ _ _ _ _ _ _ _ (.int (0+(p:Int)*1)::_) _ _;rw[M];refine .next (e o p) ?_ r;have V:DS (.list (a.map AB)) (.int (p:Nat))=some (AB (a.getD p [])):=Do (by rw[Ao,s.ip];omega) (by rw[AE,Es (d:=[]) (by rw[s.ip];exact E)];rfl);have W:DS (.list (b.map AB)) (.int (p:Nat))=some (AB (b.getD p [])):=Do (by rw[Ao,s.iu];omega) (by rw[AE,Es (d:=[]) (by rw[s.iu];exact E)];rfl);have G:LQ a b p=((a.getD p []).map PV.str).map (Kw p)++(b.getD p []).map .str:=by
    unfold LQ;rw[AG];rfl
   conv in TA 3=>whnf
   rw[G];clear G r Q;generalize a.getD p []=H at*;generalize b.getD p []=g at*;have u:o.length+((H.map PV.str).map (Kw p)).length<=Bi:=by simp at f ⊢;omega
   have v:(o++(H.map PV.str).map (Kw p)).length+(g.map PV.str).length<=Bi:=by simp at f ⊢;omega
   have y:(H.map PV.str).length<=Bi:=by simp;omega
   refine D5 (Wm (xs:=o) (ys:=(H.map PV.str).map (Kw p)) j l B ⋯ ⋯ (.comp (Kw p) (.ev (d:=AB H) (.aj (b:=.list (a.map AB)) (.aa ⋯) (.aa (d:=.int (p:Nat)) ⋯) rfl V) ⋯ rfl rfl) ⋯ ⋯ (λ x R=>?_) y) u) ?_
   ·obtain⟨t,e,rfl⟩:=At.mp R;have Z:Mi [.str t,.int (p:Nat)]=some (.str (D6 t p)):=by
     show(if Gp t=true/\0<=((p:Nat):Int)/\((p:Nat):Int)<6 then some (PV.str (D6 t ((p:Nat):Int).toNat)) else none)=_;rw[Ap ⟨n t e,∅,∅⟩];rfl
    exact⟨[("text",.aa (.str t)),("place",.aa (.int (p:Nat)))],⋯,.fn ⋯ ⋯ D (.cons (.aa (d:=.str t) ⋯) (.cons (.aa (d:=.int (p:Nat)) ⋯) .nil rfl) rfl) (_) Z⟩
   ·have S:Gi c d a b (o++((H.map PV.str).map (Kw p)++g.map .str))=Ci eW (AM (AM (AM (Gi c d a b o) "place" (.aa (.int (p:Nat)))) "talk" (.own (.list (o++(H.map PV.str).map (Kw p))))) "talk" (.own (.list ((o++(H.map PV.str).map (Kw p))++g.map .str)))):=by
     rw[Br];kernel_rfl
    rw[S];exact CM ((Wm (xs:=o++(H.map PV.str).map (Kw p)) (ys:=g.map .str) j l B ⋯ ⋯ (.aj (b:=.list (b.map AB)) (.aa ⋯) (.aa (d:=.int (p:Nat)) ⋯) rfl W) v).post Dg)
theorem cR (I:Hb w h)(T:DB g i mg mb h)(o:GW w h C k mg mb)(E:C.fn "_law_said"=some Mi)(H:QK a b c f):EG (W1 w h) (k+1) 152 (G6 (TC a b c f) (.list (OV a b c f))):=by
 refine Mk (Uf I T) λ args d e=>?_;unfold G6 at e;split at e
 ·rename_i O;subst O;cases e;refine⟨rfl,λ A Q m s B=>?_⟩;have n:=Gz;have N:((List.range 6).flatMap (Iu a b)).length=12:=rfl;have V:=λ q=>Wc o s B E H (t:=.Name "place" q) (λ W p=>⋯) (List.range 6) [] (λ p z=>AD.mp z) (_);have Z:=λ q=>Wb o s B E H (t:=.Name "place" q) (λ W p=>⋯) (List.range 4) (((List.range 6).flatMap (Iu a b))++[.str "226 all told"]) (λ p z=>AD.mp z) (by simp[N])
  conv in Bp P1 37=>whnf
  refine SD o s B (n:=1) (d':=.list []) ⋯ ⋯ ?_;have j:AM ((["names","spots","ports","wished","spoiled"]:List Str).zip ((TC a b c f).map BL.aa)) "talk" (.own (.list []))=Gi a b c f []:=⋯
  rw[j];refine JJ (J0 o s B (.range (ds:=[.int 6]) rfl rfl (.cons .int .nil rfl) ⋯) (V _)) ?_;rw[DX];refine JJ (Lc (xs:=(List.range 6).flatMap (Iu a b)) (d:=.str "226 all told") o s B ⋯ ⋯ (.ae ⋯) (by rw[N];omega)) ?_;have l:AM (Gi a b c f ((List.range 6).flatMap (Iu a b))) "talk" (.own (.list ((List.range 6).flatMap (Iu a b)++[.str "226 all told"])))=Gi a b c f ((List.range 6).flatMap (Iu a b)++[.str "226 all told"]):=⋯
  rw[l];refine JJ (J0 o s B (.range (ds:=[.int 4]) rfl rfl (.cons .int .nil rfl) ⋯) (Z _)) ?_;exact HV (FC o s B (.own ⋯))
 ·cases e
end
theorem KD (n:Nat):∀h:List Str,lvlL (n+1) (h.map PV.str)=true
 |[]=>rfl
  |s::r=>by
   have k:=KD n r;show(Pf (n+1) (PV.str s)&&lvlL (n+1) (r.map PV.str))=true;rw[k];rfl
theorem cW (h:List Str):J8 (AB h) (.list [])=some h.isEmpty:=by
 cases h with
 |nil=>rfl
 |cons s r=>
  unfold J8;rw[Ap]
  ·rfl
  ·show(lvlL 5 ((s::r).map PV.str)&&true)=true;rw[KD 4];rfl
theorem T8 (x:Str)(h:List Str):Ua (.str x) (AB h)=some (h.any λ y=>y==x):=by
 unfold Ua AB;show(if(Pf 6 (.str x)&&lvlL 6 (h.map PV.str))=true then some ((toPyL (h.map PV.str)).any λ y=>PyData.eqv y (ER (.str x))) else none)=_;rw[KD 5,Ap (by rfl)];congr 1;induction h with
 |nil=>rfl
 |cons s r k=>
  show(PyData.eqv (.str s) (.str x)||(toPyL (r.map PV.str)).any λ y=>PyData.eqv y (ER (.str x)))=((s==x)||r.any λ y=>y==x);rw[k];rfl
def gD (p:Str×Str):PV:=.ay [.str p.1,.str p.2]
def OC (l:List (Str×Str)):PV:=.list (l.map gD)
def Pl (h:List (Str×Str))(st:List Str)(n:Str):Bool:=h.any λ p=>decide (p.1=n)&&st.any (·==p.2)
def LW (h:List (Str×Str))(st:List Str):List Str:=st.filter (Pl h st)
variable {n:Nat}{st:Stmt} in
def FV (h:List (Str×Str)):Nat->List Str->List Str
 |0,st=>st
 |n+1,st=>FV h n (LW h st)
def Qf (h:List (Str×Str))(st:List Str):AC:=[("names",.aa (AB Df)),("pairs",.aa (OC h)),("stuck",.aa (AB st))]
def jH:List Str:=["names","pairs","stuck"]
variable {b:PV} in
def Wn:List Stmt:=match Bp P1 41 with
 |[_,.For _ _ b _ _,_]=>b
 |_=>[]
variable {n:Nat} in
def qS (h:List (Str×Str))(st:List Str):PV->Bool
 | .str n=>Pl h st n
 |_=>false
variable {a:Addr}{b:PV} in
def qP (st:List Str)(n:Str):PV->Bool
 | .ay [.str a,.str b]=>decide (a=n)&&(st.any (·==b)&&true)
 |_=>false
variable {b d:PV} in
def YD:PV->PV
 | .ay [_,b]=>b
 |d=>d
theorem cN (h:List (Str×Str))(st:List Str):(((st.map PV.str).filter (qS h st)).map _root_.id)=(LW h st).map PV.str:=by
 rw[OR,Dv];rfl
theorem cO (st:List Str)(n:Str)(h:List (Str×Str)):((h.map gD).filter (qP st n)).map YD=((h.filter λ p=>decide (p.1=n)&&(st.any (·==p.2)&&true)).map (·.2)).map PV.str:=by
 rw[Dv,AG,AG];rfl
section
theorem aU {a:List (Str×Str)}(s:GW w h C k mg mb)(E:Cg k A)(B:Ip w h 176 z N)(H:a.length<=100){st:List Str}(Q:st.length<=100)(t:PV):
 E8 (W1 w h) A (Dq w 176).scope z N (execs Wn z) (AM (Qf a st) "turn" (.aa t)) (.next (Qf a (LW a st))):=by
 have V:=Gz
 conv in Wn=>whnf
 have e:Qf a (LW a st)=Ci jH (AM (AM (Qf a st) "turn" (.aa t)) "stuck" (.aa (.list (((st.map PV.str).filter (qS a st)).map _root_.id)))):=by rw[cN];kernel_rfl
 rw[e];refine CM ((AW s E B (x:="stuck") (.ci (xs:=st.map PV.str) (qS a st) _root_.id (.ev (.aa (d:=AB st) ⋯) ⋯ rfl rfl) ⋯ ⋯ (λ x o=>?_) (by simp;omega)) ⋯).post Dg);obtain⟨n,W,rfl⟩:=At.mp o;refine⟨[("name",.aa (.str n)),("pairs",.aa (OC a)),("stuck",.aa (AB st))],⋯,.bt ?_,λ _=>.aa ⋯⟩;have O:qS a st (.str n)= !(((a.filter λ p=>decide (p.1=n)&&(st.any (·==p.2)&&true)).map (·.2)).isEmpty):=by
  show Pl a st n=_;unfold Pl;rw[BE];simp
 rw[O];refine .ar (b:=.list []) (.ci (xs:=a.map gD) (qP st n) YD (.ev (.aa (d:=OC a) ⋯) ⋯ rfl rfl) ⋯ ⋯ (λ x o=>?_) (by simp;omega)) (.list .nil (by show 0<=Bi;omega)) rfl rfl ?_
 ·obtain⟨p,H,rfl⟩:=At.mp o;refine⟨[("b",.aa (.str p.2)),("a",.aa (.str p.1)),("name",.aa (.str n)),("stuck",.aa (AB st))],⋯,.bt ?_,λ _=>.aa ⋯⟩;exact .all (.cj (.ar (.aa (d:=.str p.1) ⋯) (.aa (d:=.str n) ⋯) rfl rfl (fJ _ _)) λ _=>.cj (.isIn (.aa (d:=.str p.2) ⋯) (.aa (d:=AB st) ⋯) rfl rfl (T8 p.2 st)) λ _=>.nil)
 ·show(J8 _ _).map (!·)=_
  rw[cO];exact(Cb _ (cW _))
theorem W4 (E:GW w h C k mg mb)(H:Cg k A)(B:Ip w h 176 z N)(O:a.length<=100)(Q:∀st d,DL (Dq w 176).scope t d (Qf a st)=some (AM (Qf a st) "turn" (.aa d))):∀(o:List PV)(st:List Str),st.length<=100->
 G4 (W1 w h) A (Dq w 176).scope z N t Wn [] o (Qf a st) (.next (Qf a (FV a o.length st)))
 |[],st,s=>.nil EA
  |x::o,st,s=>.next (Q st x) (aU E H B O s x) (W4 E H B O Q o (LW a st) (Ab (DM _ _) s))
theorem Zn (I:Hb w h)(T:DB b c mg mb h)(o:GW w h C k mg mb)(z:a.length<=100):EG (W1 w h) (k+1) 176 (G6 [AB Df,OC a] (AB (FV a 5 Df))):=by
 refine Mk (RZ I T) λ args d e=>?_;unfold G6 at e;split at e
 ·rename_i E;subst E;cases e;refine⟨rfl,λ A H Q s B=>?_⟩;have N:=λ q=>W4 o s B z (t:=.Name "turn" q) (λ st d=>⋯) (Df.map PV.str) Df {_}
  conv in Bp P1 41=>whnf
  refine JJ (AW o s B (x:="stuck") (d:=AB Df) (.bx (b:=.list) ⋯ ⋯ (.cons (.aa (d:=AB Df) ⋯) .nil rfl) (_) rfl) ⋯) ?_;have O:AM ((["names","pairs"]:List Str).zip (([AB Df,OC a]:List PV).map BL.aa)) "stuck" (.aa (AB Df))=Qf a Df:=⋯
  rw[O];refine JJ (J0 o s B (.ev (.aa (d:=AB Df) ⋯) ⋯ rfl rfl) (N _)) ?_;exact HV (FC o s B (.aa ⋯))
 ·cases e
end
variable {i:Nat} in
def FG:Option Int->PV
 |none=>.none
 |some i=>.int i
def Bu (c:Nat):List Nat:=(List.range 5).filter λ k=>c/2^k%2==1
def AH (l:List Int):PV:=.list (l.map .int)
def BJ (l:List Nat):PV:=.list (l.map λ n=>.int (n:Nat))
def WP (p:Nat×Nat):PV:=.ay [.int p.1,.int p.2]
def EU (l:List (Nat×Nat)):PV:=.list (l.map WP)
def FK (h:List Int)(c:Nat):Int:=((Bu c).map λ k=>h.getD k 0).sum
def DF (h:List (Nat×Nat))(c k:Nat):Bool:=h.all λ p=>!(decide (p.1=k)&&(Bu c).any (·==p.2))
def Ny (h k:List Int)(s:List (Option Int))(c o:Nat):Int:=
 if c-2^o=0 then FK h c-k.getD o 0 else max ((s.getD (c-2^o) none).getD 0) (FK h c-k.getD o 0)
variable {v:Value} in
def Eb (k o:List Int)(w:List (Nat×Nat))(c:Nat)(h:List (Option Int))(s:Nat):List (Option Int):=
 if DF w c s&&(c-2^s==0||(h.getD (c-2^s) none).isSome) then
  (match h.getD c none with
   |none=>h.set c (some (Ny k o h c s))
   |some v=>if Ny k o h c s<v then h.set c (some (Ny k o h c s)) else h)
 else h
def Kf (h k:List Int)(o:List (Nat×Nat))(w:List Nat)(s:List (Option Int)):List (Option Int):=
 w.foldl (λ s c=>(Bu c).foldl (Eb h k o c) s) s
def JT (h k:List Int)(o:List (Nat×Nat)):Option Int:=(Kf h k o ((List.range 31).map (1+·)) (List.replicate 32 none)).getD 31 none
def Qg (h k:List Int)(o:List (Nat×Nat))(s:List (Option Int)):AC:=[("hours",.aa (AH h)),("dues",.aa (AH k)),("pairs",.aa (EU o)),("best",.own (.list (s.map FG)))]
def F3 (h k:List Int)(o:List (Nat×Nat))(s:List (Option Int))(c:Nat):AC:=[("hours",.aa (AH h)),("dues",.aa (AH k)),("pairs",.aa (EU o)),("best",.own (.list (s.map FG))),("chosen",.aa (.int (c:Nat))),("inside",.aa (BJ (Bu c))),("end",.aa (.int (FK h c)))]
def jI:List Str:=["hours","dues","pairs","best"]
def bX:List Str:=["hours","dues","pairs","best","chosen","inside","end"]
variable {b:PV} in
def ZV:List Stmt:=match Bp P1 40 with
 |[_,.For _ _ b _ _,_]=>b
 |_=>[]
variable {b:PV} in
def hU:List Stmt:=match ZV with
 |[_,_,.For _ _ b _ _]=>b
 |_=>[]
theorem Nt (n:Nat):∀l:List Nat,lvlL (n+1) (l.map λ n=>PV.int (n:Nat))=true
 |[]=>rfl
  |s::r=>by
   have h:=Nt n r;show(Pf (n+1) (PV.int s)&&lvlL (n+1) (r.map λ n=>PV.int (n:Nat)))=true;rw[h];rfl
theorem Zr (l:List Nat):J8 (BJ l) (.list [])=some l.isEmpty:=by
 cases l with
 |nil=>rfl
 |cons s r=>
  unfold J8;rw[Ap]
  ·rfl
  ·show(lvlL 5 ((s::r).map λ n=>PV.int (n:Nat))&&true)=true;rw[Nt 4];rfl
theorem T9 (x:Nat)(l:List Nat):Ua (.int (x:Nat)) (BJ l)=some (l.any λ y=>y==x):=by
 unfold Ua BJ;show(if(Pf 6 (.int (x:Nat))&&lvlL 6 (l.map λ n=>PV.int (n:Nat)))=true then some ((toPyL (l.map λ n=>PV.int (n:Nat))).any λ y=>PyData.eqv y (ER (.int (x:Nat)))) else none)=_;rw[Nt 5,Ap (by rfl)];congr 1;induction l with
 |nil=>rfl
 |cons s r h=>
  show(PyData.eqv (.int (s:Nat)) (.int (x:Nat))||(toPyL (r.map λ n=>PV.int (n:Nat))).any λ y=>PyData.eqv y (ER (.int (x:Nat))))=((s==x)||r.any λ y=>y==x);rw[h];congr 1;show(((s:Nat):Int)==((x:Nat):Int))=(s==x);rw[BE];simp;omega
theorem Fj (s:k∈Bu c):k<5/\2^k<=c:=by
 unfold Bu at s;obtain⟨o,h⟩:=AU.mp s;have o:=AD.mp o;refine⟨o,?_⟩;have h:c/2^k%2=1:=by simpa using h
 by_cases q:2^k<=c
 ·exact q
 ·rw[Nat.div_eq_of_lt ∅] at h;cases h
def qI (c:Nat):PV->Bool
 | .int k=>decide (((c:Int).fdiv (2^k.toNat)).fmod 2=1)
 |_=>false
variable {a:Addr}{b:PV} in
def qB (c h:Nat):PV->Bool
 | .ay [.int a,.int b]=>decide (a=(h:Int))&&((Bu c).any (λ y=>y==b.toNat)&&true)
 |_=>false
theorem bO (h:Nat):((2:Int)^h)=((2^h:Nat):Int):=by push_cast;rfl
theorem ZR (c h:Nat):((c:Int).fdiv (2^h)).fmod 2=((c/2^h%2:Nat):Int):=by
 rw[bO,GM (Int.natCast_nonneg _),GL ∅];rfl
theorem cP (c:Nat)(l:List Nat):((l.map λ(i:Nat)=>PV.int (0+(i:Int)*1)).filter (qI c)).map _root_.id=(l.filter λ k=>c/2^k%2==1).map λ n=>PV.int (n:Nat):=by
 rw[OR,Dv];have e:(λ(i:Nat)=>PV.int (0+(i:Int)*1))=λ(n:Nat)=>PV.int (n:Nat):=by funext i;congr 1;omega
 rw[e];congr 1;apply CI;intro k _;show decide (((c:Int).fdiv (2^((k:Nat):Int).toNat)).fmod 2=1)=(c/2^k%2==1);rw[show((k:Nat):Int).toNat=k from rfl,ZR];generalize c/2^k%2=n;rw[BE,BQ,JB];omega
theorem cQ (c k:Nat)(h:List (Nat×Nat)):((h.map WP).filter (qB c k)).map YD=((h.filter λ p=>decide (p.1=k)&&(Bu c).any (·==p.2)).map (·.2)).map λ n=>PV.int (n:Nat):=by
 rw[Dv,AG,AG];congr 1;apply CI;intro p _;show(decide (((p.1:Nat):Int)=(k:Int))&&((Bu c).any (λ y=>y==((p.2:Nat):Int).toNat)&&true))=_;rw[show((p.2:Nat):Int).toNat=p.2 from rfl,HM];congr 1;rw[BE];simp;omega
theorem aB (h:Nat)(k:h<5):EY .Pow (.int 2) (.int (h:Nat))=some (.int ((2^h:Nat):Int)):=by
 rw[WI ⟨∅,∅,{_}⟩,show((h:Nat):Int).toNat=h from rfl,bO]
theorem EN (e:a=Ci ks ρ1)(h:E8 W A V z N t O (.next ρ1)):E8 W A V z N t O (.next a):=e▸h.post Dg
theorem aV (V:GW w h C k mg mb)(W:Cg k A)(B:Ip w h 171 z N)(hd:g.length=5)(hp:f.length<=100)(U:d.length=32)(Y:c<32)(hq:q∈Bu c):
 E8 (W1 w h) A (Dq w 171).scope z N (execs hU z) (AM (F3 j g f d c) "k" (.aa (.int (q:Nat)))) (.next (F3 j g f (Eb j g f c d q) c)):=by
 have b1:=Gz;obtain⟨q5,qc⟩:=Fj hq;obtain⟨r,m⟩:∃r:Nat,r=c-2^q:=⟨_,rfl⟩;have er:((c:Int)-((2^q:Nat):Int))=(r:Int):=by rw[m];exact(Int.ofNat_sub qc).symm
 have n:r<32:=by rw[m];exact C4 (GA _ _) Y
 have subB:∀i,i<32->DS (.list (d.map FG)) (.int (i:Nat))=some (FG (d.getD i none)):=λ i hi=>Do (by rw[Ao];omega) (by rw[AE,Es (d:=none) ∅];rfl);have t:DS (AH g) (.int (q:Nat))=some (.int (g.getD q 0)):=Do (by rw[Ao];omega) (by rw[AE,Es (d:=0) ∅];rfl)
 conv in hU=>whnf
 refine D5 (AW V W B (x:="rest") (d:=.int (r:Nat)) (.ai (.aa (d:=.int (c:Nat)) ⋯) (.ai .int (.aa (d:=.int (q:Nat)) ⋯) (aB q q5)) ((Oy _ _).trans (Cb (λ x=>some (PV.int x)) er))) ⋯) ?_;obtain⟨o,E⟩:∃x,x=Ny j g d c q:=⟨_,rfl⟩;have e1:DF f c q=((f.filter λ p=>decide (p.1=q)&&(Bu c).any (·==p.2)).map (·.2)).isEmpty:=by
  unfold DF;rw[BE];simp;constructor
  ·intro H a b I h2 h3;rcases H a b I with O |O
   ·exact O h2
   ·exact O b h3 rfl
  ·intro H a b I;by_cases O:a=q
   ·exact .inr λ x J e=>H a b I O (e▸J)
   ·exact .inl O
 have L:IG .IsNot (FG (d.getD r none)) .none=some (d.getD r none).isSome:=by cases d.getD r none<;>rfl
 have Q:IG .Is (FG (d.getD c none)) .none=some (d.getD c none).isNone:=by cases d.getD c none<;>rfl
 have e9:∀Z,F3 j g f Z c=Ci bX (AM (AM (AM (AM (F3 j g f d c) "k" (.aa (.int (q:Nat)))) "rest" (.aa (.int (r:Nat)))) "late" (.aa (.int o))) "best" (.own (.list (Z.map FG)))):=λ Z=>⋯
 have M:F3 j g f d c=Ci bX (AM (AM (F3 j g f d c) "k" (.aa (.int (q:Nat)))) "rest" (.aa (.int (r:Nat)))):=⋯
 have u:F3 j g f d c=Ci bX (AM (AM (AM (F3 j g f d c) "k" (.aa (.int (q:Nat)))) "rest" (.aa (.int (r:Nat)))) "late" (.aa (.int o))):=⋯
 refine CM (Ey V W B (c:=DF f c q&&((decide ((r:Int)=0)||((d.getD r none).isSome||false))&&true)) (.all (.cj (.ar (b:=.list []) (.ci (xs:=f.map WP) (qB c q) YD (.ev (.aa (d:=EU f) ⋯) ⋯ rfl rfl) ⋯ ⋯ (λ x J=>?_) (by simp;omega)) (.list .nil (by show 0<=Bi;omega)) rfl rfl ?_) λ _=>.cj (.all (.bv (.ar (.aa (d:=.int (r:Nat)) ⋯) .int rfl rfl (R7 _ _)) λ _=>.bv (.ar (.aj (b:=.list (d.map FG)) (.own ⋯) (.aa (d:=.int (r:Nat)) ⋯) rfl (subB r n)) (.ae rfl) rfl rfl L) λ _=>.nil)) λ _=>.nil)) ?_)
 ·obtain⟨p,hp,rfl⟩:=At.mp J;refine⟨[("b",.aa (.int (p.2:Nat))),("a",.aa (.int (p.1:Nat))),("inside",.aa (BJ (Bu c))),("k",.aa (.int (q:Nat)))],⋯,.bt ?_,λ _=>.aa ⋯⟩;exact .all (.cj (.ar (.aa (d:=.int (p.1:Nat)) ⋯) (.aa (d:=.int (q:Nat)) ⋯) rfl rfl (R7 _ _)) λ _=>.cj (.isIn (.aa (d:=.int (p.2:Nat)) ⋯) (.aa (d:=BJ (Bu c)) ⋯) rfl rfl (T9 p.2 _)) λ _=>.nil)
 ·rw[cQ,e1];exact Zr _
 have ec:(DF f c q&&((decide ((r:Int)=0)||((d.getD r none).isSome||false))&&true))=(DF f c q&&(r==0||(d.getD r none).isSome)):=by
  have e0:decide ((r:Int)=0)=(r==0):=by
   rw[BE,BQ,JB];omega
  rw[Bool.or_false,HM,e0]
 rw[ec];have es:Eb j g f c d q=if(DF f c q&&(r==0||(d.getD r none).isSome))=true then(match d.getD c none with
  |none=>d.set c (some o)
  |some v=>if o<v then d.set c (some o) else d) else d:=by
  unfold Eb;(rw[E,m])<;>(cases d.getD c none<;>rfl)
 rw[es];by_cases s:(DF f c q&&(r==0||(d.getD r none).isSome))=true
 ·rw[Ap s,Ap s];have y:r=0\/(d.getD r none).isSome=true:=by
   rw[Ah,BN] at s;rcases s.2 with O |O
   ·exact .inl (by simpa using O)
   ·exact .inr O
  refine D5 (AW V W B (x:="late") (d:=.int o) (.fk (c:=decide ((r:Int)=0)) (.ar (.aa (d:=.int (r:Nat)) ⋯) .int rfl rfl (R7 _ _)) ?_) ⋯) ?_
  ·have ed:∀{p1 p2 p3 p4 p5:Pos}{R:AC},R=AM (AM (F3 j g f d c) "k" (.aa (.int (q:Nat)))) "rest" (.aa (.int (r:Nat)))->CJ C (Dq w 171).scope R (.BinOp (.Name "end" p1) .Sub (.Subscript (.Name "dues" p2) (.Name "k" p3) p4) p5) (.int (FK j c-g.getD q 0)):=λ{_ _ _ _ _ R} S=>by
    subst S;exact .ai (.aa (d:=.int (FK j c)) ⋯) (.aj (b:=AH g) (.aa ⋯) (.aa (d:=.int (q:Nat)) ⋯) rfl t) (Oy _ _)
   by_cases T:r=0
   ·rw[Bv ∅,Ap rfl];have:o=FK j c-g.getD q 0:=by rw[E];unfold Ny;rw[Ap (by rw[<-m];exact T)]
    rw[this];exact ed rfl
   ·rw[Bs ∅,Ak (_)];obtain⟨v,hv⟩:=BS.mp (y.resolve_left T);have:o=if FK j c-g.getD q 0>v then FK j c-g.getD q 0 else v:=by
     rw[E];unfold Ny;rw[Ak (by rw[<-m];exact T),<-m,hv];show max v _=_;split<;>omega
    rw[this];have sv:=subB r n;rw[hv] at sv;exact .bx (b:=.max) ⋯ ⋯ (.cons (.aj (b:=.list (d.map FG)) (.own ⋯) (.aa (d:=.int (r:Nat)) ⋯) rfl sv) (.cons (ed rfl) .nil rfl) rfl) (_) rfl
  ·have l:=subB c Y;have st:Wu (.list (d.map FG)) (.int (c:Nat)) (.int o)=some (.list ((d.set c (some o)).map FG)):=by
    show(if 0<=((c:Nat):Int)/\((c:Nat):Int)<(d.map FG).length then some (PV.list ((d.map FG).set ((c:Nat):Int).toNat (.int o))) else none)=_;rw[Ap ⟨∅,by rw[Ao];omega⟩,List.map_set];rfl
   cases D:d.getD c none with
   |none=>
    rw[D] at l Q;refine EN (e9 (d.set c (some o))) (CM (Ey V W B (c:=(true||true)) (.all (.bv (.ar (.aj (b:=.list (d.map FG)) (.own ⋯) (.aa (d:=.int (c:Nat)) ⋯) rfl l) (.ae (d:=.none) (c:=Const.none) rfl) rfl rfl Q) λ O=>nomatch O)) ?_));rw[Ap (show(true||true)=true from rfl)];exact CM (TH V W B rfl ⋯ (.aa ⋯) (.aa ⋯) st)
   |some v=>
    rw[D] at l Q;by_cases G:o<v
    ·show E8 _ _ _ _ _ _ _ (.next (F3 j g f (if o<v then d.set c (some o) else d) c));rw[Ap G];refine EN (e9 (d.set c (some o))) (CM (Ey V W B (c:=(false||(decide (o<v)||false))) (.all (.bv (.ar (.aj (b:=.list (d.map FG)) (.own ⋯) (.aa (d:=.int (c:Nat)) ⋯) rfl l) (.ae (d:=.none) (c:=Const.none) rfl) rfl rfl Q) λ _=>.bv (.ar (.aa (d:=.int o) ⋯) (.aj (b:=.list (d.map FG)) (.own ⋯) (.aa (d:=.int (c:Nat)) ⋯) rfl l) rfl rfl (aE _ _)) λ _=>.nil)) ?_));rw[Ap (by simp[G])];exact CM (TH V W B rfl ⋯ (.aa ⋯) (.aa ⋯) st)
    ·show E8 _ _ _ _ _ _ _ (.next (F3 j g f (if o<v then d.set c (some o) else d) c));rw[Ak G];refine EN u (CM (Ey V W B (c:=(false||(decide (o<v)||false))) (.all (.bv (.ar (.aj (b:=.list (d.map FG)) (.own ⋯) (.aa (d:=.int (c:Nat)) ⋯) rfl l) (.ae (d:=.none) (c:=Const.none) rfl) rfl rfl Q) λ _=>.bv (.ar (.aa (d:=.int o) ⋯) (.aj (b:=.list (d.map FG)) (.own ⋯) (.aa (d:=.int (c:Nat)) ⋯) rfl l) rfl rfl (aE _ _)) λ _=>.nil)) ?_));rw[Ak (by simp[G])];exact EA
 ·rw[Ak s,Ak s];exact EN M EA
theorem Lb (h k:List Int)(o:List (Nat×Nat))(c:Nat)(s:List (Option Int))(w:Nat):(Eb h k o c s w).length=s.length:=by
 unfold Eb
 repeat' split
 all_goals first |rfl |exact List.length_set
theorem Ju (h o:List Int)(s:List (Nat×Nat))(c:Nat):∀(l:List Nat)(w:List (Option Int)),(l.foldl (Eb h o s c) w).length=w.length
 |[],w=>rfl
  |k::l,w=>(Ju h o s c l _).trans (Lb ..)
theorem J6 (l:List Int):Fi (l.map PV.int)=some l:=by
 unfold Fi;rw[Hz (g:=λ d=>match d with | .int i=>i |_=>0) λ x h=>?_,AG]
 ·congr 1;exact OR l
 ·obtain⟨i,_,rfl⟩:=At.mp h;rfl
theorem TZ (H:GW w h C k mg mb)(O:Cg k A)(B:Ip w h 171 z N)(hd:a.length=5)(Q:b.length<=100)(V:c<32)(W:∀o d,DL (Dq w 171).scope t d (F3 hrs a b o c)=some (AM (F3 hrs a b o c) "k" (.aa d))):∀(l:List Nat)(o:List (Option Int)),(∀q∈l,q∈Bu c)->o.length=32->
 G4 (W1 w h) A (Dq w 171).scope z N t hU [] (l.map λ n=>PV.int (n:Nat)) (F3 hrs a b o c) (.next (F3 hrs a b (l.foldl (Eb hrs a b c) o) c))
 |[],o,s,E=>.nil EA
  |x::Z,o,s,E=>.next (W o _) (aV H O B hd Q E V (s x Ac)) (TZ H O B hd Q V W Z _ (λ q e=>s q (Ad _ e)) ((Lb ..).trans E))
theorem Yt (E:GW w h C k mg mb)(H:Cg k A)(B:Ip w h 171 z N)(r:a.length=5)(hd:b.length=5)(Q:e.length<=100)(o:f.length=32)(V:c<32):
 E8 (W1 w h) A (Dq w 171).scope z N (execs ZV z) (AM (Qg a b e f) "chosen" (.aa (.int (c:Nat)))) (.next (Qg a b e ((Bu c).foldl (Eb a b e c) f))):=by
 have t:=Gz;have W:=λ q=>TZ (hrs:=a) E H B hd Q V (t:=.Name "k" q) (λ f d=>⋯) (Bu c) f (λ _ h=>h) o;have Z:((((List.range 5).map λ(i:Nat)=>PV.int (0+(i:Int)*1)).filter (qI c)).map _root_.id)=(Bu c).map λ n=>PV.int (n:Nat):=cP c (List.range 5)
 conv in ZV=>whnf
 refine D5 (AW E H B (x:="inside") (d:=BJ (Bu c)) (by
  show CJ _ _ _ _ (.list _);rw[<-Z];refine .ci (qI c) _root_.id (.range (ds:=[.int 5]) rfl rfl (.cons .int .nil rfl) ⋯) ⋯ ⋯ (λ x O=>?_) (by simp;omega);obtain⟨i,s,rfl⟩:=At.mp O;have s:=AD.mp s;have g:(0+(i:Int)*1)=(i:Int):=∅
  rw[g];refine⟨[("k",.aa (.int (i:Nat))),("chosen",.aa (.int (c:Nat)))],⋯,.bt ?_,λ _=>.aa ⋯⟩;refine .ar (a:=.int (((c:Int).fdiv (2^i)).fmod 2)) (.ai (a:=.int ((c:Int).fdiv (2^i))) (.ai (.aa (d:=.int (c:Nat)) ⋯) (.ai .int (.aa (d:=.int (i:Nat)) ⋯) (aB i ∅)) (b:=.int ((2^i:Nat):Int)) ?_) .int ?_) .int rfl rfl (R7 _ _)
  ·have u:=(by decide:∀i<5,0<2^i/\2^i<=16) i s;exact(J9 (x:=(c:Int)) ⟨∅,∅⟩).trans (by rw[bO])
  ·exact Lo {_}) ⋯) ?_
 have j:(Bu c).map (λ n=>PV.int (a.getD n 0))=((Bu c).map λ k=>a.getD k 0).map PV.int:=by rw[AG];rfl
 refine D5 (AW E H B (x:="end") (d:=.int (FK a c)) (.bx (b:=.sum) (ds:=[.list ((Bu c).map λ n=>PV.int (a.getD n 0))]) ⋯ ⋯ (.cons (by
  have l:(Bu c).map (λ n=>PV.int (a.getD n 0))=((Bu c).map λ n=>PV.int (n:Nat)).map (λ d=>match d with | .int i=>.int (a.getD i.toNat 0) |_=>.none):=by rw[AG];rfl
  rw[l];refine .comp _ (.ev (.aa (d:=BJ (Bu c)) ⋯) ⋯ rfl rfl) ⋯ ⋯ (λ x O=>?_) (by
   rw[Ao];have:=DM (λ k=>c/2^k%2==1) (List.range 5);show((List.range 5).filter _).length<=Bi;rw[List.length_range] at this;omega)
  obtain⟨i,s,rfl⟩:=At.mp O;have v:=(Fj s).1;refine⟨[("k",.aa (.int (i:Nat))),("hours",.aa (AH a))],⋯,?_⟩;exact .aj (b:=AH a) (.aa ⋯) (.aa (d:=.int (i:Nat)) ⋯) rfl (Do (by rw[Ao];omega) (by rw[AE,Es (d:=0) ∅];rfl))) .nil rfl) (_) (by
   rw[j];show(Fi _).map _=_;rw[J6];rfl)) ⋯) ?_
 have m:AM (AM (AM (Qg a b e f) "chosen" (.aa (.int (c:Nat)))) "inside" (.aa (BJ (Bu c)))) "end" (.aa (.int (FK a c)))=F3 a b e f c:=⋯
 rw[m];have p:Qg a b e ((Bu c).foldl (Eb a b e c) f)=Ci jI (F3 a b e ((Bu c).foldl (Eb a b e c) f) c):=⋯
 exact EN p (CM (J0 E H B (.ev (.aa (d:=BJ (Bu c)) ⋯) ⋯ rfl rfl) (W _)))
theorem TY (H:GW w h C k mg mb)(O:Cg k A)(B:Ip w h 171 z N)(Q:a.length=5)(hd:b.length=5)(V:c.length<=100)(W:∀o d,DL (Dq w 171).scope t d (Qg a b c o)=some (AM (Qg a b c o) "chosen" (.aa d))):∀(l:List Nat)(o:List (Option Int)),(∀q∈l,q<31)->o.length=32->
 G4 (W1 w h) A (Dq w 171).scope z N t ZV [] (l.map λ(i:Nat)=>PV.int (1+(i:Int)*1)) (Qg a b c o) (.next (Qg a b c (Kf a b c (l.map (1+·)) o)))
 |[],o,s,E=>.nil EA
  |x::Z,o,s,E=>by
   have g:=s x Ac;have e:(1+(x:Int)*1)=((1+x:Nat):Int):=∅
   show G4 _ _ _ _ _ _ _ _ (.int (1+(x:Int)*1)::_) _ _;rw[e];exact .next (W o _) (Yt H O B Q hd V E ∅) (TY H O B Q hd V W Z _ (λ q f=>s q (Ad _ f)) ((Ju ..).trans E))
theorem Tu (h:List Nat)(k:List (Option Int)):(Kf hrs dus prs h k).length=k.length:=by
 induction h generalizing k with
 |nil=>rfl
 |cons c h o=>exact(o _).trans (Ju ..)
theorem cV (I:Hb w h)(T:DB f g mg mb h)(o:GW w h C k mg mb)(O:a.length=5)(z:b.length=5)(E:c.length<=100):EG (W1 w h) (k+1) 171 (G6 [AH a,AH b,EU c] (FG (JT a b c))):=by
 refine Mk (Ui I T) λ args d e=>?_;unfold G6 at e;split at e
 ·rename_i Q;subst Q;cases e;refine⟨rfl,λ A V j s B=>?_⟩;have W:=λ q=>TY o s B O z E (t:=.Name "chosen" q) (λ st d=>⋯) (List.range 31) (List.replicate 32 none) (λ p E=>AD.mp E) (_);have N:=Tu (hrs:=a) (dus:=b) (prs:=c) ((List.range 31).map (1+·)) (List.replicate 32 none)
  have Z:DS (.list ((Kf a b c ((List.range 31).map (1+·)) (List.replicate 32 none)).map FG)) (.int 31)=some (FG (JT a b c)):=Do (i:=31) (by rw[Ao,N];decide) (by rw[AE,Es (d:=none) (by rw[N];decide)];rfl)
  generalize Kf a b c ((List.range 31).map (1+·)) (List.replicate 32 none)=H at*
  conv in Bp P1 40=>whnf
  refine SD o s B (n:=3) (d':=.list ((List.replicate 32 none).map FG)) ⋯ ⋯ ?_;have i:AM ((["hours","dues","pairs"]:List Str).zip (([AH a,AH b,EU c]:List PV).map BL.aa)) "best" (.own (.list ((List.replicate 32 none).map FG)))=Qg a b c (List.replicate 32 none):=⋯
  rw[i];refine JJ (J0 o s B (.range (ds:=[.int 1,.int 32]) rfl rfl (.cons .int (.cons .int .nil rfl) rfl) ⋯) (W _)) ?_;exact HV (FC o s B (.ev (.aj (b:=.list (H.map FG)) (.own ⋯) .int rfl Z) rfl))
 ·cases e
theorem Js:∀c<32,∀k∈Bu c,Bu (c-2^k)=(Bu c).filter (λ x=>!(x==k)):={_}
theorem HA:∀c<32,(Bu c).Nodup:={_}
theorem Qk:∀c<32,Bu c=[]->c=0:={_}
theorem Gs (h:c<32)(o:k∈Bu c):x∈Bu (c-2^k)↔x∈Bu c/\x≠k:=by
 rw[Js c h k o,AU];simp
theorem K8 (h:k∈Bu c):c-2^k<c:=by
 have o:=(Fj h).2;have s:0<2^k:=Nat.two_pow_pos k;omega
theorem TD {f:Nat->Int}{b:Nat}:∀{l:List Nat},l.Nodup->b∈l->(l.map f).sum=((l.filter λ x=>!(x==b)).map f).sum+f b
 |[],_,h=>nomatch h
  |a::l,o,h=>by
   have k:=CN.mp o;by_cases q:a=b
   ·subst q;have e:(a::l).filter (λ x=>!(x==a))=l:=by
     rw[CD (_)];exact F7.mpr λ x s=>by
      have:x≠a:=λ q=>k.1 (q▸s);simpa using this
    rw[e];simp;omega
   ·have w:b∈l:=(Ag.mp h).resolve_left λ z=>q z.symm;rw[Dn (by simpa using q)];have:=TD (f:=f) k.2 w;simp at this ⊢;omega
theorem Sb (h:c<32)(o:k∈Bu c):FK hrs c=FK hrs (c-2^k)+hrs.getD k 0:=by
 unfold FK;rw[Js c h k o];exact TD (HA c h) o
theorem HD:DF d c k=true↔∀b,(k,b)∈d->b∉Bu c:=by
 unfold DF;rw[AJ];constructor
 ·intro H b h o;have:=H _ h;simp at this;exact this b o rfl
 ·intro H p s;obtain⟨a,b⟩:=p;simp;by_cases e:a=k
  ·subst e;exact .inr λ x w q=>H _ s (q▸w)
  ·exact .inl e
theorem Ps (h:DF a c k=true)(o:∀x∈Bu d,x∈Bu c):DF a d k=true:=
 HD.mpr λ b s w=>HD.mp h b s (o b w)
def gt (h:List (Option Int))(c:Nat):Option Int:=h.getD c none
def U9 (h:List (Nat×Nat))(T:Nat->Option Int)(c k:Nat):Prop:=DF h c k=true/\(c-2^k=0\/(T (c-2^k)).isSome=true)
def Fh (h k:List Int)(T:Nat->Option Int)(c o:Nat):Int:=
 if c-2^o=0 then FK h c-k.getD o 0 else max ((T (c-2^o)).getD 0) (FK h c-k.getD o 0)
theorem Qo (h:c<a.length)(x:Option Int)(j:Nat):gt (a.set c x) j=if j=c then x else gt a j:=by
 unfold gt;rw[Az,List.getElem?_set];split
 ·rename_i q;subst q;rw[Ap rfl];first |rfl |(rw[Ap h];rfl)
 ·rename_i q;rw[Ak (λ z=>q z.symm),Az]
theorem YC (H:a.length=32)(N:c<32)(O:k∈Bu c):
 (∀j,j≠c->gt (Eb hrs dus prs c a k) j=gt a j)/\
 (U9 prs (gt a) c k->∃v,gt (Eb hrs dus prs c a k) c=some v/\v<=Fh hrs dus (gt a) c k/\(∀v0,gt a c=some v0->v<=v0)/\(v=Fh hrs dus (gt a) c k\/gt a c=some v))/\
 (¬U9 prs (gt a) c k->Eb hrs dus prs c a k=a):=by
 have A:(DF prs c k&&(c-2^k==0||(a.getD (c-2^k) none).isSome))=true↔U9 prs (gt a) c k:=by
  rw[Ah,BN,JB];rfl
 have E:Ny hrs dus a c k=Fh hrs dus (gt a) c k:=rfl;unfold Eb;rw[E];by_cases h:U9 prs (gt a) c k
 ·rw[Ap (A.mpr h)];cases C:a.getD c none with
  |none=>
   refine⟨λ j w=>?_,λ _=>⟨Fh hrs dus (gt a) c k,?_,Kk _,λ v0 e=>?_,.inl rfl⟩,λ z=>absurd h z⟩
   ·show gt (a.set c _) j=_;rw[Qo ∅,Ak w]
   ·show gt (a.set c _) c=_;rw[Qo ∅,Ap rfl]
   ·have:gt a c=none:=C;rw[this] at e;cases e
  |some v=>
   have o:gt a c=some v:=C;simp only;by_cases s:Fh hrs dus (gt a) c k<v
   ·rw[Ap s];refine⟨λ j w=>?_,λ _=>⟨Fh hrs dus (gt a) c k,?_,Kk _,λ v0 e=>?_,.inl rfl⟩,λ z=>absurd h z⟩
    ·rw[Qo ∅,Ak w]
    ·rw[Qo ∅,Ap rfl]
    ·rw[o] at e;cases e;omega
   ·rw[Ak s];refine⟨λ j w=>rfl,λ _=>⟨v,o,∅,λ v0 e=>?_,.inr o⟩,λ z=>absurd h z⟩;rw[o] at e;cases e;omega
 ·rw[Ak λ z=>h (A.mp z)];exact⟨λ _ _=>rfl,λ z=>absurd z h,λ _=>rfl⟩
theorem GB (h:T (c-2^k)=U (c-2^k)):U9 a T c k↔U9 a U c k:=by unfold U9;rw[h]
theorem E4 (h:T (c-2^k)=U (c-2^k)):Fh a b T c k=Fh a b U c k:=by unfold Fh;rw[h]
theorem Ue (V:c<32):∀(l:List Nat)(s:List (Option Int)),(∀k∈l,k∈Bu c)->s.length=32->
 (∀j,j≠c->gt (l.foldl (Eb hrs dus prs c) s) j=gt s j)/\
 (∀v0,gt s c=some v0->∃v,gt (l.foldl (Eb hrs dus prs c) s) c=some v/\v<=v0)/\
 (∀v,gt (l.foldl (Eb hrs dus prs c) s) c=some v->gt s c=some v\/∃k∈l,U9 prs (gt s) c k/\v=Fh hrs dus (gt s) c k)/\
 (∀k∈l,U9 prs (gt s) c k->∃v,gt (l.foldl (Eb hrs dus prs c) s) c=some v/\v<=Fh hrs dus (gt s) c k)
 |[],s,_,_=>⟨λ _ _=>rfl,λ v0 e=>⟨v0,e,Kk _⟩,λ v e=>.inl e,λ k A=>nomatch A⟩
  |k::l,s,C,W=>by
   have A:=C k Ac;obtain⟨Z,g,i⟩:=YC (hrs:=hrs) (dus:=dus) (prs:=prs) W V A;obtain⟨E,H,N,O⟩:=Ue V l (Eb hrs dus prs c s k) (λ q o=>C q (Ad _ o)) ((Lb ..).trans W);rw[E0];have same:∀q∈l,gt (Eb hrs dus prs c s k) (c-2^q)=gt s (c-2^q):=λ q o=>Z _ (BU (K8 (C q (Ad _ o))));by_cases h:U9 prs (gt s) c k
   ·obtain⟨v1,a,m,n,p⟩:=g h;obtain⟨v2,b,d⟩:=H v1 a;refine⟨λ j f=>(E j f).trans (Z j f),λ v0 e=>⟨v2,b,Int.le_trans d (n v0 e)⟩,λ v e=>?_,λ q o w=>?_⟩
    ·rcases N v e with z |⟨q,o,w,Q⟩
     ·rw[a] at z;cases z;rcases p with z |z
      ·exact .inr ⟨k,Ac,h,z⟩
      ·exact .inl z
     ·exact .inr ⟨q,Ad _ o,(GB (same q o)).mp w,Q.trans (E4 (same q o))⟩
    ·rcases Ag.mp o with rfl |o
     ·exact⟨v2,b,Int.le_trans d m⟩
     ·obtain⟨v,e,l⟩:=O q o ((GB (same q o)).mpr w);exact⟨v,e,by rw[E4 (same q o)] at l;exact l⟩
   ·rw[i h] at E H N O ⊢;refine⟨E,H,λ v e=>?_,λ q o w=>?_⟩
    ·rcases N v e with z |⟨q,o,w,Q⟩
     ·exact .inl z
     ·exact .inr ⟨q,Ad _ o,w,Q⟩
    ·rcases Ag.mp o with rfl |o
     ·exact absurd w h
     ·exact O q o w
structure ZZ (hrs dus:List Int)(prs:List (Nat×Nat))(T:Nat->Option Int)(c:Nat):Prop where
 av:∀v,T c=some v->∃k∈Bu c,U9 prs T c k/\v=Fh hrs dus T c k
 mn:∀k∈Bu c,U9 prs T c k->∃v,T c=some v/\v<=Fh hrs dus T c k
theorem ZZ.congr (h:∀j≤c,T j=U j)(D:ZZ a b d T c):ZZ a b d U c:=
 ⟨λ v e=>by
  obtain⟨k,o,s,w⟩:=D.av v ((h c (Am _)).trans e);have q:=h (c-2^k) (GA _ _);exact⟨k,o,(GB q).mp s,w.trans (E4 q)⟩,λ k o s=>by
  have q:=h (c-2^k) (GA _ _);obtain⟨v,e,l⟩:=D.mn k o ((GB q).mpr s);exact⟨v,(h c (Am _)).symm.trans e,by rw[<-E4 q];exact l⟩⟩
variable {dus hrs:List Int}{prs:List (Nat×Nat)} in
theorem Uv:∀(n m:Nat)(o:List (Option Int)),m+n=31->o.length=32->(∀c,1<=c->c<=m->ZZ hrs dus prs (gt o) c)->(∀c,m<c->gt o c=none)->
 ∀c,1<=c->c<=31->ZZ hrs dus prs (gt (Kf hrs dus prs ((List.range' m n).map (1+·)) o)) c
 |0,m,o,W,A,C,E,c,H,V=>C c H ∅
 |n+1,m,o,W,A,C,E,c,H,V=>by
  obtain⟨N,p,Z,a⟩:=Ue (hrs:=hrs) (dus:=dus) (prs:=prs) (c:=1+m) ∅ (Bu (1+m)) o (λ _ h=>h) A;have b:=Uv n (m+1) ((Bu (1+m)).foldl (Eb hrs dus prs (1+m)) o) ∅ ((Ju ..).trans A) (λ w O d=>?_) (λ w f=>(N w ∅).trans (E w ∅)) c H V
  ·exact b
  ·by_cases q:w=1+m
   ·subst q;have same:∀q∈Bu (1+m),gt o (1+m-2^q)=gt ((Bu (1+m)).foldl (Eb hrs dus prs (1+m)) o) (1+m-2^q):=λ q g=>(N _ (BU (K8 g))).symm;refine⟨λ v e=>?_,λ k s Q=>?_⟩
    ·rcases Z v e with z |⟨k,s,Q,i⟩
     ·rw[E _ ∅] at z;cases z
     ·exact⟨k,s,(GB (same k s)).mp Q,i.trans (E4 (same k s))⟩
    ·obtain⟨v,e,l⟩:=a k s ((GB (same k s)).mpr Q);exact⟨v,e,by rw[<-E4 (same k s)];exact l⟩
   ·exact(C w O ∅).congr λ j r=>(N j ∅).symm
theorem ZT:∃T:Nat->Option Int,(∀c,1<=c->c<=31->ZZ hrs dus prs T c)/\JT hrs dus prs=T 31:=
 ⟨gt (Kf hrs dus prs ((List.range 31).map (1+·)) (List.replicate 32 none)),by
  have:=Uv (hrs:=hrs) (dus:=dus) (prs:=prs) 31 0 (List.replicate 32 none) rfl (_) (λ c h k=>∅) (λ c o=>by
   unfold gt;rw[Az,List.getElem?_replicate];split<;>rfl)
  rwa[<-List.range_eq_range'] at this,rfl⟩
section
variable {c:Nat}{g:Array GenState} in
def Pi (h o:List Int):Nat->List Nat->List Int
 |_,[]=>[]
 |c,k::g=>(FK h c-o.getD k 0)::Pi h o (c-2^k) g
def Fm (o:List (Nat×Nat))(h:List Nat)(c:Nat):Option Nat:=h.find? λ k=>(Bu c).any (·==k)&&DF o c k
variable {c n:Nat} in
def GU (o:List (Nat×Nat))(h:List Nat):Nat->Nat->List Nat×Nat
 |0,c=>([],c)
 |n+1,c=>match Fm o h c with
  |none=>([],c)
  |some k=>(k::(GU o h n (c-2^k)).1,(GU o h n (c-2^k)).2)
theorem MN (x:Nat):x∉Bu 0:=λ h=>by
 rw[show Bu 0=[] from by decide] at h;cases h
theorem DV (h:Fm a b c=some k):k∈Bu c/\DF a c k=true:=by
 have:=List.find?_some h;rw[Ah,DH] at this;obtain⟨⟨x,o,e⟩,s⟩:=this;have e:x=k:=by simpa using e
 exact⟨e▸o,s⟩
theorem Lk (o:∀k<5,k∈a)(s:Fm b a c=none)(h:k∈Bu c):DF b c k=false:=by
 have:=List.find?_eq_none.mp s k (o k (Fj h).1);cases q:DF b c k with
 |false=>rfl
 |true=>
  rw[q,HM] at this;exact absurd (DH.mpr ⟨k,h,(_)⟩) this
theorem NH {b:Type}{R:b->b->Prop}(w:∀a,R a a){q:b->Bool}:∀{l:List b},l.Pairwise R->∀{k:b},l.find? q=some k->∀j∈l,q j=true->R k j
 |[],_,k,h,_,o,_=>nomatch o
  |a::l,z,k,h,j,o,s=>by
   obtain⟨A,C⟩:=DI.mp z;rw[Du] at h;cases e:q a with
   |true=>
    rw[e] at h;simp only[CH] at h;subst h;rcases Ag.mp o with rfl |o
    ·exact w _
    ·exact A _ o
   |false=>
    rw[e] at h;rcases Ag.mp o with rfl |o
    ·rw[e] at s;cases s
    ·exact NH w C h j o s
theorem WK {c j:Nat}{a:List Int}{d:List (Nat×Nat)}{b:List Nat}(o:b.Pairwise λ i j=>a.getD j 0<=a.getD i 0)(s:∀k<5,k∈b)(w:Fm d b c=some k)(h:j∈Bu c)(z:DF d c j=true):a.getD j 0<=a.getD k 0:=
 NH (R:=λ i j=>a.getD j 0<=a.getD i 0) (λ _=>Kk _) o w j (s j (Fj h).1) (by rw[z,HM];exact DH.mpr ⟨j,h,(_)⟩)
theorem W9 (D:∀c,1<=c->c<=31->ZZ a d b T c)(l:∀k,0<=a.getD k 0):∀c,1<=c->c<=31->∀v,T c=some v->∀k∈Bu c,DF b c k=true->(c-2^k=0\/∃u,T (c-2^k)=some u/\u<=v):=by
 intro c;induction c using Nat.strongRecOn with
 |_ c m=>
 intro n p v r k s t;obtain⟨j,E,⟨y,Z⟩,o⟩:=(D c n p).av v r;have h:c<32:=∅
 by_cases q:k=j
 ·subst q;by_cases z:c-2^k=0
  ·exact .inl z
  ·obtain⟨u,w⟩:=BS.mp (Z.resolve_left z);refine .inr ⟨u,w,?_⟩;unfold Fh at o;rw[Ak z,w] at o;rw[o];exact Gl _ _
 ·by_cases B:c-2^k=0
  ·exact .inl B
  right;have A:k∈Bu (c-2^j):=(Gs h E).mpr ⟨s,q⟩;have H:j∈Bu (c-2^k):=(Gs h s).mpr ⟨E,λ e=>q e.symm⟩;have N:=K8 E;have G:=K8 s;have S:=(Fj A).2;have U:0<2^k:=Nat.two_pow_pos k;have f:c-2^j≠0:=∅
  obtain⟨u,w⟩:=BS.mp (Z.resolve_left f);unfold Fh at o;rw[Ak f,w] at o;have Y:u<=v:=by rw[o];exact Gl _ _
  have ev:FK a c-d.getD j 0<=v:=by rw[o];exact FT _ _
  have I:DF b (c-2^j) k=true:=Ps t λ x O=>((Gs h E).mp O).1;have J:DF b (c-2^k) j=true:=Ps y λ x O=>((Gs h s).mp O).1;have g:c-2^k-2^j=c-2^j-2^k:=∅
  have ee:=Sb (hrs:=a) h s;have L:=l k;have i:=m (c-2^j) N ∅ ∅ u w k A I;have M:U9 b T (c-2^k) j:=⟨J,by
   rw[g];rcases i with z |⟨Q,V,_⟩
   ·exact .inl z
   ·exact .inr (by rw[V];rfl)⟩
  obtain⟨R,W,C⟩:=(D (c-2^k) ∅ ∅).mn j H M;refine⟨R,W,?_⟩;unfold Fh at C;rw[g] at C;rcases i with z |⟨Q,V,lu⟩
  ·rw[Ap z] at C;omega
  ·by_cases z:c-2^j-2^k=0
   ·rw[Ap z] at C;omega
   ·rw[Ak z,V] at C;have:max ((some Q).getD 0) (FK a (c-2^k)-d.getD j 0)<=v:=Int.max_le.mpr ⟨by show Q<=v;omega,∅⟩;omega
variable {a:Addr}{b:PV}{l:List Env} in
def Qa:List Int->Option Int
 |[]=>none
 |a::l=>some (match Qa l with |none=>a |some b=>max b a)
theorem Xa (D:∀c,1<=c->c<=31->ZZ f d g T c)(W:∀k,0<=f.getD k 0)(Z:a.Pairwise λ i j=>d.getD j 0<=d.getD i 0)(N:∀k<5,k∈a):∀(n c:Nat),(Bu c).length<=n->1<=c->c<=31->∀v,T c=some v->(GU g a n c).2=0/\Qa (Pi f d c (GU g a n c).1)=some v
 |0,c,l,w,A,v,C=>by
   have:Bu c=[]:=Dm.mp (Nat.le_zero.mp l);have:=Qk c ∅ this;omega
  |n+1,c,l,w,A,v,C=>by
   have E:c<32:=∅
   obtain⟨j,m,⟨O,J⟩,p⟩:=(D c w A).av v C;unfold GU;cases H:Fm g a c with
   |none=>rw[Lk N H m] at O;cases O
   |some k=>
    simp only;obtain⟨s,Q⟩:=DV H;have q:=WK Z N H m O;have len:(Bu (c-2^k)).length<=n:=by
     have e:=Js c E k s;have r:=HA c E;have:(Bu c).filter (λ x=>!(x==k))=(Bu c).erase k:=by rw[r.erase_eq_filter];rfl
     rw[e,this,Ea s];omega
    have L:FK f c-d.getD j 0<=v:=by
     rw[p];unfold Fh;split
     ·exact Kk _
     ·exact FT _ _
    by_cases z:c-2^k=0
    ·have t:GU g a n (c-2^k)=([],0):=by
      rw[z];cases n with
      |zero=>rfl
      |succ n=>
       unfold GU;cases H:Fm g a 0 with
       |none=>rfl
       |some x=>exact absurd (DV H).1 (MN x)
     rw[t];refine⟨rfl,?_⟩;obtain⟨y,h,o⟩:=(D c w A).mn k s ⟨Q,.inl z⟩;rw[C] at h;cases h;unfold Fh at o;rw[Ap z] at o;show some (FK f c-d.getD k 0)=some v;congr 1;omega
    ·obtain⟨u,V,B⟩:=(W9 D W c w A v C k s Q).resolve_left z;obtain⟨G,I⟩:=Xa D W Z N n (c-2^k) len ∅ (by have:=K8 s;omega) u V;refine⟨G,?_⟩;show some (match Qa (Pi f d (c-2^k) (GU g a n (c-2^k)).1) with |none=>_ |some b=>max b (FK f c-d.getD k 0))=some v;rw[I];obtain⟨y,h,o⟩:=(D c w A).mn k s ⟨Q,.inr (by rw[V];rfl)⟩;rw[C] at h;cases h;unfold Fh at o;rw[Ak z,V] at o;show some (max u (FK f c-d.getD k 0))=some v;have o:v<=max u (FK f c-d.getD k 0):=o;have:max u (FK f c-d.getD k 0)<=v:=Int.max_le.mpr ⟨B,∅⟩;congr 1;omega
theorem fF (D:∀c,1<=c->c<=31->ZZ b d a T c):∀(n c:Nat),1<=c->c<=31->(GU a line n c).2=0->(T c).isSome=true
 |0,c,o,s,h=>by
   have:c=0:=h;omega
  |n+1,c,o,s,h=>by
   unfold GU at h;cases w:Fm a line c with
   |none=>
    rw[w] at h;have:c=0:=h;omega
   |some k=>
    rw[w] at h;obtain⟨A,E⟩:=DV w;have H:(GU a line n (c-2^k)).2=0:=h;have N:=K8 A;by_cases z:c-2^k=0
    ·obtain⟨v,C,_⟩:=(D c o s).mn k A ⟨E,.inl z⟩;rw[C];rfl
    ·obtain⟨v,C,_⟩:=(D c o s).mn k A ⟨E,.inr (fF D n _ ∅ ∅ H)⟩;rw[C];rfl
end
def nm (i:Nat):Str:=Df.getD i ""
def IL (c i:Nat):Bool:=(Bu c).any (·==i)
variable {a:Addr}{b:PV}{r:List Stmt} in
def De:List Nat->List (Nat×Nat)
 |a::b::r=>(a,b)::De (b::r)
 |_=>[]
def DA (h:List (List Nat)):List (Nat×Nat):=h.flatMap De
def CP (h:List Nat)(k:List (List Nat))(c:Nat):List (List Nat):=h.map (λ i=>if IL c i then[i] else[])++k.map λ o=>o.reverse.filter (IL c)
def C8 (R:List (List Nat)):List (List Str):=R.map (List.map nm)
theorem Gw:IL c i=true↔i∈Bu c:=by
 unfold IL;rw[DH];exact⟨λ⟨x,k,e⟩=>by
  have e:x=i:=by simpa using e
  exact e▸k,λ h=>⟨i,h,(_)⟩⟩
theorem Nl:∀i<5,∀j<5,nm i=nm j->i=j:={_}
theorem Jp:∀{l:List Nat},(a,b)∈De l->a∈l/\b∈l
 |[],h=>nomatch h
  |[x],h=>nomatch h
  |x::y::r,h=>by
   rcases Ag.mp h with z |z
   ·cases z;exact⟨Ac,Ad _ Ac⟩
   ·have:=Jp z;exact⟨Ad _ this.1,Ad _ this.2⟩
theorem Lw {q:Nat->Bool}:∀{a:Nat}{r:List Nat},(∀p∈De (a::r),q p.1=false->q p.2=false)->q a=false->(a::r).filter q=[]
 |a,[],h,k=>by rw[CD (by simp[k])];rfl
  |a,b::r,h,k=>by
   rw[CD (by simp[k])];exact Lw (λ p o=>h p (Ad _ o)) (h (a,b) Ac k)
theorem N9:∀{l:List Nat},(∀p∈De l,q p.1=false->q p.2=false)->(i∈(l.filter q).dropLast↔∃b,(i,b)∈De l/\q b=true)
 |[],h=>by simp[De]
  |[a],h=>by
   cases e:q a<;>simp[e,De]
  |a::b::r,h=>by
   have E:=N9 (i:=i) (l:=b::r) λ p w=>h p (Ad _ w);cases e:q a with
   |false=>
    have C:=Lw h e;rw[C];refine⟨λ z=>(nomatch z),λ⟨k,o,s⟩=>?_⟩;have:k∈(a::b::r).filter q:=AU.mpr ⟨(Jp o).2,s⟩;rw[C] at this;cases this
   |true=>
    rw[Dn e];by_cases z:(b::r).filter q=[]
    ·rw[z];refine⟨λ z=>(nomatch z),λ⟨k,o,s⟩=>?_⟩;have A:k∈b::r:=by
      rcases Ag.mp o with y |y
      ·cases y;exact Ac
      ·exact(Jp y).2
     have:k∈(b::r).filter q:=AU.mpr ⟨A,s⟩;rw[z] at this;cases this
    ·rw[List.dropLast_cons_of_ne_nil z,Ag,E];constructor
     ·rintro(rfl |⟨k,o,s⟩)
      ·refine⟨b,Ac,?_⟩;cases H:q b with
       |true=>rfl
       |false=>exact absurd (Lw (λ p w=>h p (Ad _ w)) H) z
      ·exact⟨k,Ad _ o,s⟩
     ·rintro⟨k,o,s⟩;rcases Ag.mp o with y |y
      ·cases y;exact .inl rfl
      ·exact .inr ⟨k,y,s⟩
def Yr (h:List (Nat×Nat))(c:Nat):Prop:=∀p∈h,p.1∉Bu c->p.2∉Bu c
theorem Yr.step (w:Yr a c)(A:c<32)(C:k∈Bu c)(E:DF a c k=true):Yr a (c-2^k):=λ p o s h=>by
 rw[Gs A C] at s h;by_cases q:p.1=k
 ·exact HD.mp E p.2 (by rw[<-q];exact o) h.1
 ·exact w p o (λ z=>s ⟨z,q⟩) h.1
section
def IB (L:List (List Nat))(i:Nat):Bool:=L.all λ t=>!(t.tail.contains i)
theorem Pr (N:Yr (DA a) c):IB (CP d a c) i=DF (DA a) c i:=by
 rw[BE,HD];unfold IB CP;rw[List.all_append,Ah,AJ,AJ];have s:∀o∈a,(i∈(o.reverse.filter (IL c)).tail↔∃b,(i,b)∈De o/\IL c b=true):=λ o k=>by
  rw[List.filter_reverse,List.tail_reverse,List.mem_reverse];refine N9 λ p w=>?_;have:=N p (FN.mpr ⟨o,k,w⟩);intro H;cases e:IL c p.2 with
  |false=>rfl
  |true=>exact absurd (Gw.mp e) (this λ z=>by rw[Gw.mpr z] at H;cases H)
 constructor
 ·rintro⟨_,O⟩ b A C;obtain⟨o,k,w⟩:=FN.mp A;have:=O _ (At.mpr ⟨o,k,rfl⟩);have z:=(s o k).mpr ⟨b,w,Gw.mpr C⟩;simp at this;exact this (by simpa using z)
 ·intro h;refine⟨λ t E=>?_,λ t E=>?_⟩
  ·obtain⟨x,_,rfl⟩:=At.mp E;split<;>rfl
  ·obtain⟨o,k,rfl⟩:=At.mp E;cases e:(o.reverse.filter (IL c)).tail.contains i with
   |false=>rfl
   |true=>
    have z:i∈(o.reverse.filter (IL c)).tail:=by simpa using e
    obtain⟨b,A,Q⟩:=(s o k).mp z;exact absurd (Gw.mp Q) (h b (FN.mpr ⟨o,k,A⟩))
def I5 (R:List (List Nat)):List (List Nat):=R.filter λ t=>!t.isEmpty
theorem Ta:IB (I5 R) i=IB R i:=by
 unfold IB I5;rw[BE,AJ,AJ];constructor
 ·intro h t k;cases t with
  |nil=>rfl
  |cons a t=>exact h _ (AU.mpr ⟨k,rfl⟩)
 ·intro h t k;exact h t (AU.mp k).1
def Hj (R:List (List Nat)):List Nat:=R.filterMap List.head?
theorem U6 (w:Yr (DA d) c)(o:∀k<5,k∈b):(Hj (CP b d c)).find? (IB (CP b d c))=Fm (DA d) b c:=by
 have z:Hj (b.map λ i=>if IL c i then[i] else[])=b.filter (IL c):=by
  unfold Hj;rw[List.filterMap_map];clear o;induction b with
  |nil=>rfl
  |cons a l s=>
   cases e:IL c a with
   |true=>rw[Dn e,List.filterMap_cons_some (b:=a) (by simp[e]),s]
   |false=>rw[CD (by simp[e]),List.filterMap_cons_none (by simp[e]),s]
 have A:IB (CP b d c)=DF (DA d) c:=funext λ i=>Pr w;rw[A];unfold CP Hj;rw[List.filterMap_append,List.find?_append];show(List.find? _ (Hj (b.map λ i=>if IL c i then[i] else[]))).or _=_;rw[z,List.find?_filter];have C:(b.find? λ a=>decide (IL c a=true/\DF (DA d) c a=true))=Fm (DA d) b c:=by
  unfold Fm IL;congr 1
  funext a
  rw[BE];simp
 rw[C];cases E:Fm (DA d) b c with
 |some k=>rfl
 |none=>
  show List.find? _ _=none;rw[List.find?_eq_none];intro x H;obtain⟨t,N,h⟩:=List.mem_filterMap.mp H;obtain⟨O,Q,rfl⟩:=At.mp N;have V:x∈O.reverse.filter (IL c):=List.mem_of_mem_head? h;have:=Lk o E (Gw.mp (AU.mp V).2);simp[this]
def Rf (h:Nat)(t:List Nat):List Nat:=if t.head? =some h then t.tail else t
theorem Re (o:k∉t.tail):Rf k t=t.filter (λ x=>!(x==k)):=by
 have h:∀{t:List Nat},k∉t->t.filter (λ x=>!(x==k))=t:=λ{t} o=>F7.mpr λ x s=>by
  have:x≠k:=λ q=>o (q▸s);simpa using this
 cases t with
 |nil=>rfl
 |cons a t=>
  unfold Rf;by_cases q:a=k
  ·subst q;rw[Ap (by rfl),CD (_)];exact(h o).symm
  ·rw[Ak (by simpa using q),Dn (by simpa using q)];have e:t.filter (λ x=>!(x==k))=t:=h o;rw[e]
theorem WJ (h:c<32)(E:k∈Bu c)(o:IB (CP a b c) k=true):(CP a b c).map (Rf k)=CP a b (c-2^k):=by
 have A:∀x,IL (c-2^k) x=(IL c x&&!(x==k)):=λ x=>by
  rw[BE,Gw,Gs h E,Ah,Gw];simp
 unfold IB at o;rw[AJ] at o;unfold CP at o ⊢;rw[BV,AG,AG];congr 1
 ·apply A7;intro i H;show Rf k (if IL c i then[i] else[])=if IL (c-2^k) i then[i] else[]
  rw[A];by_cases q:i=k
  ·subst q;cases e:IL c i<;>simp[Rf]
  ·cases e:IL c i<;>simp[Rf,q]
 ·apply A7;intro s w;show Rf k (s.reverse.filter (IL c))=s.reverse.filter (IL (c-2^k));have C:=o _ (Ax _ (At.mpr ⟨s,w,rfl⟩));rw[Re (λ z=>by simp at C;exact C (by simpa using z)),List.filter_filter];apply CI;intro x _;rw[A,Bool.and_comm]
end
section
structure LI (line:List Nat)(chs:List (List Nat)):Prop where
 all:∀k<5,k∈line
 lt:∀k∈line,k<5
 ch:∀ch∈chs,∀x∈ch,x<5
theorem MJ (L:LI a b):∀t∈CP a b c,∀x∈t,x<5:=λ t o x h=>by
 unfold CP at o;rcases Au.mp o with z |z
 ·obtain⟨i,s,rfl⟩:=At.mp z;split at h
  ·rw[Cz.mp h];exact L.lt i s
  ·cases h
 ·obtain⟨w,k,rfl⟩:=At.mp z;exact L.ch w k x (by simpa using(AU.mp h).1)
theorem Qe (R:List (List Nat)):IA (C8 R)=C8 (I5 R):=by
 unfold IA C8 I5;rw[Dv];congr 1;apply CI;intro t _;show(!(t.map nm).isEmpty)= !t.isEmpty;cases t<;>rfl
theorem Mn {i:Nat}{t:List Nat}(o:∀x∈t,x<5)(s:i<5):(t.map nm).contains (nm i)=t.contains i:=by
 rw[BE,Hr,Hr,At];exact⟨λ⟨x,k,e⟩=>Nl x (o x k) i s e▸k,λ h=>⟨i,h,rfl⟩⟩
theorem VE (o:∀t∈R,∀x∈t,x<5)(s:i<5):FH (C8 R) (nm i)=IB R i:=by
 unfold FH IB C8;rw[List.all_map];have:∀t∈R,(!((t.map nm).tail.contains (nm i)))= !(t.tail.contains i):=λ t k=>by
  rw[<-List.map_tail,Mn (λ x w=>o t k x (List.mem_of_mem_tail w)) s]
 rw[BE,AJ,AJ];exact⟨λ h t k=>(this t k).symm.trans (h t k),λ h t k=>(this t k).trans (h t k)⟩
theorem NG {all:List (List Str)}{q:Nat->Bool}:∀{R:List (List Nat)},(∀t∈R,∀x∈t,FH all (nm x)=q x)->DW all (C8 R)=((Hj R).find? q).map nm
 |[],_=>rfl
  |[]::R,h=>NG (R:=R) λ t k=>h t (Ad _ k)
  |(x::t)::R,h=>by
   show(if FH all (nm x) then some (nm x) else DW all (C8 R))=((x::Hj R).find? q).map nm;rw[h _ Ac x Ac,Du];cases e:q x with
   |true=>rfl
   |false=>exact NG (R:=R) λ t k=>h t (Ad _ k)
theorem S7 (R:List (List Nat)):Hj (I5 R)=Hj R:=by
 unfold Hj I5;induction R with
 |nil=>rfl
 |cons t R h=>
  cases t with
  |nil=>exact h
  |cons a t=>exact Cb (a::·) h
theorem bP (h:∀t∈R,∀x∈t,x<5)(o:k<5):(C8 R).map (Ky (nm k))=C8 (R.map (Rf k)):=by
 unfold C8;rw[AG,AG];apply A7;intro t s;cases t with
 |nil=>rfl
 |cons a t=>
  show(if some (nm a)=some (nm k) then t.map nm else nm a::t.map nm)=(if some a=some k then t else a::t).map nm;by_cases q:a=k
  ·subst q;rw[Ap rfl,Ap rfl]
  ·rw[Ak (λ z=>q (Nl a (h _ s a Ac) k o (BC z))),Ak λ z=>q (BC z)];rfl
theorem Zj:∀n,GU b a n 0=([],0)
 |0=>rfl
  |n+1=>by
   unfold GU;cases h:Fm b a 0 with
   |none=>rfl
   |some x=>exact absurd (DV h).1 (MN x)
theorem Lq:(IA (C8 (CP b c 0))).isEmpty=true:=by
 rw[Qe];have:I5 (CP b c 0)=[]:=by
  unfold I5;rw[MD];intro t h;have:t=[]:=by
   cases t with
   |nil=>rfl
   |cons a t=>
    exfalso;unfold CP at h;rcases Au.mp h with z |z
    ·obtain⟨i,s,e⟩:=At.mp z;have:IL 0 i=false:=by rfl
     rw[this] at e;cases e
    ·obtain⟨k,o,e⟩:=At.mp z;have:a∈k.reverse.filter (IL 0):=e▸Ac;have:=(AU.mp this).2;cases this
  rw[this];simp
 rw[this];rfl
theorem Tc (L:LI a b)(h:Yr (DA b) c):DW (IA (C8 (CP a b c))) (IA (C8 (CP a b c)))=(Fm (DA b) a c).map nm:=by
 rw[Qe,NG (q:=IB (CP a b c)) (λ t k x o=>by
  have s:=(AU.mp k).1;rw[VE (R:=I5 (CP a b c)) (λ t k x o=>MJ L t (AU.mp k).1 x o) (MJ L t s x o),Ta]),S7,U6 h L.all]
theorem ZE (L:LI b d):∀(n c:Nat)(h:List Str),(Bu c).length<=n->c<32->Yr (DA d) c->
 Mx (n+1) (C8 (CP b d c)) h=some (if(GU (DA d) b n c).2=0 then some (h++(GU (DA d) b n c).1.map nm) else none,C8 (CP b d (GU (DA d) b n c).2)):=λ n=>by
 induction n with
 |zero=>
  intro c h A s _;have:c=0:=Qk c s (Dm.mp (Nat.le_zero.mp A));subst this;unfold Mx;rw[Ap Lq];show _=some (some (h++[]),_);rw[Cj];rfl
 |succ n C=>
  intro c h A s o;by_cases z:c=0
  ·subst z;have:=C 0 h (by rw[show Bu 0=[] from by decide];exact BT _) s o;rw[Zj] at this ⊢;rw[<-this];unfold Mx;rw[Ap Lq,Ap Lq]
  have N:(IA (C8 (CP b d c))).isEmpty=false:=by
   rw[Qe];obtain⟨i,E⟩:∃i,i∈Bu c:=by
    cases e:Bu c with
    |nil=>exact absurd (Qk c s e) z
    |cons a l=>exact⟨a,Ac⟩
   have:[i]∈I5 (CP b d c):=AU.mpr ⟨AT _ (At.mpr ⟨i,L.all i (Fj E).1,by rw[Gw.mpr E];rfl⟩),rfl⟩;cases e:I5 (CP b d c) with
   |nil=>rw[e] at this;cases this
   |cons a l=>rfl
  rw[Mx,N,Tc L o];simp only[Aq,AS];rw[GU];cases O:Fm (DA d) b c with
  |none=>
   show some (none,_)=some (if c=0 then _ else none,_);rw[Ak z]
  |some k=>
   obtain⟨w,H⟩:=DV O;have len:(Bu (c-2^k)).length<=n:=by
    have e:=Js c s k w;have Q:=HA c s;have:(Bu c).filter (λ x=>!(x==k))=(Bu c).erase k:=by rw[Q.erase_eq_filter];rfl
    rw[e,this,Ea w];omega
   show Mx (n+1) ((C8 (CP b d c)).map (Ky (nm k))) (h++[nm k])=_;rw[bP (MJ L) (Fj w).1,WJ s w ((Pr o).trans H),C _ _ len (C4 (GA _ _) s) (o.step s w H)];show some (if(GU (DA d) b n (c-2^k)).2=0 then some ((h++[nm k])++(GU (DA d) b n (c-2^k)).1.map nm) else none,_)=_;rw[Br];rfl
end
section
def Vy (h:List (Nat×Nat))(st:List Nat)(n:Nat):Bool:=h.any λ p=>decide (p.1=n)&&st.any (·==p.2)
def IZ (h:List (Nat×Nat))(st:List Nat):List Nat:=st.filter (Vy h st)
variable {n:Nat}{st:Stmt} in
def Ga (h:List (Nat×Nat)):Nat->List Nat->List Nat
 |0,st=>st
 |n+1,st=>Ga h n (IZ h st)
def Ec (h:List (Nat×Nat)):List (Str×Str):=h.map λ p=>(nm p.1,nm p.2)
theorem Ly {a:Type} [DecidableEq a] [BEq a] [LawfulBEq a] {l:List a}{x:a}:l.any (·==x)=decide (x∈l):=by
 rw[BE,DH,BQ];exact⟨λ⟨y,k,e⟩=>(Bo e)▸k,λ h=>⟨x,h,(_)⟩⟩
theorem Ub {n:Nat}{c:List (Nat×Nat)}{st:List Nat}:Vy c st n=true↔∃b,(n,b)∈c/\b∈st:=by
 unfold Vy;rw[DH];constructor
 ·rintro⟨⟨a,b⟩,h,e⟩;rw[Ly,Ah,BQ,BQ] at e;exact⟨b,e.1▸h,e.2⟩
 ·rintro⟨b,h,k⟩;exact⟨_,h,by rw[Ly];simpa using k⟩
theorem WW {i:Nat}{st:List Nat}(o:∀x∈st,x<5)(s:i<5):nm i∈st.map nm↔i∈st:=by
 rw[At];exact⟨λ⟨x,k,e⟩=>Nl x (o x k) i s e▸k,λ h=>⟨i,h,rfl⟩⟩
theorem cE {n:Nat}{c:List (Nat×Nat)}{st:List Nat}(w:∀x∈st,x<5)(o:∀p∈c,p.1<5/\p.2<5)(z:n<5):Pl (Ec c) (st.map nm) (nm n)=Vy c st n:=by
 unfold Pl Vy Ec;rw[List.any_map,BE,DH,DH];have:∀p∈c,((decide (nm p.1=nm n)&&(st.map nm).any (·==nm p.2))=true↔(decide (p.1=n)&&st.any (·==p.2))=true):=λ p s=>by
  rw[Ly,Ly,Ah,Ah,BQ,BQ,BQ,BQ,WW w (o p s).2];exact⟨λ⟨a,b⟩=>⟨Nl _ (o p s).1 _ z a,b⟩,λ⟨a,b⟩=>⟨Cb nm a,b⟩⟩
 exact⟨λ⟨p,h,k⟩=>⟨p,h,(this p h).mp k⟩,λ⟨p,h,k⟩=>⟨p,h,(this p h).mpr k⟩⟩
theorem QX (o:∀p∈a,p.1<5/\p.2<5):∀(n:Nat)(st:List Nat),(∀x∈st,x<5)->FV (Ec a) n (st.map nm)=(Ga a n st).map nm
 |0,st,h=>rfl
  |n+1,st,h=>by
   have e:LW (Ec a) (st.map nm)=(IZ a st).map nm:=by
    unfold LW IZ;rw[Dv];congr 1;apply CI;intro x k;exact cE h o (h x k)
   show FV (Ec a) n (LW (Ec a) (st.map nm))=_;rw[e];exact QX o n _ λ x k=>h x (AU.mp k).1
theorem Nc {a:List (Nat×Nat)}{st:List Nat}(h:IZ a st=st):∀n,Ga a n st=st
 |0=>rfl
  |n+1=>by
   show Ga a n (IZ a st)=st;rw[h];exact Nc h n
theorem LR:∀(n:Nat)(st:List Nat),st.length<=n->IZ prs (Ga prs n st)=Ga prs n st
 |0,st,h=>by
   have:=Dm.mp (Nat.le_zero.mp h);subst this;rfl
  |n+1,st,h=>by
   by_cases q:(IZ prs st).length<=n
   ·exact LR n (IZ prs st) q
   ·have l:=DM (Vy prs st) st;have e:IZ prs st=st:=F7.mpr (List.length_filter_eq_length_iff.mp (by show(IZ prs st).length=_;have:(IZ prs st).length<=st.length:=l;omega));rw[Nc e,e]
theorem Nb {a:List (Nat×Nat)}{R:List Nat}(k:∀x∈R,∃b,(x,b)∈a/\b∈R):∀(n:Nat)(st:List Nat),(∀x∈R,x∈st)->∀x∈R,x∈Ga a n st
 |0,st,h=>h
  |n+1,st,h=>Nb k n _ λ x o=>AU.mpr ⟨h x o,Ub.mpr (let⟨b,s,w⟩:=k x o;⟨b,s,h b w⟩)⟩
theorem JZ:∀(n:Nat)(st:List Nat),∀x∈Ga a n st,x∈st
 |0,st,x,h=>h
  |n+1,st,x,h=>(AU.mp (JZ n _ x h)).1
theorem Xy {a:List (Nat×Nat)}{d:List Nat}{S:List Nat}(s:∀x∈S,∃b,(x,b)∈a/\b∈S):∀(n c:Nat),c<32->(∀x∈S,x∈Bu c)->∀x∈S,x∈Bu (GU a d n c).2
 |0,c,o,h=>h
  |n+1,c,o,h=>by
   unfold GU;cases z:Fm a d c with
   |none=>exact h
   |some k=>
    obtain⟨A,C⟩:=DV z;refine Xy s n _ (C4 (GA _ _) o) λ x w=>(Gs o A).mpr ⟨h x w,λ q=>?_⟩;obtain⟨b,E,H⟩:=s x w;exact HD.mp C b (q▸E) (h b H)
theorem Xz (z:∀k<5,k∈d):∀(n c:Nat),(Bu c).length<=n->c<32->∀x∈Bu (GU f d n c).2,∃b,(x,b)∈f/\b∈Bu (GU f d n c).2
 |0,c,A,s=>λ x w=>by
   have:Bu c=[]:=Dm.mp (Nat.le_zero.mp A);have h:x∈Bu c:=w;rw[this] at h;cases h
  |n+1,c,A,s=>by
   unfold GU;cases C:Fm f d c with
   |none=>
    intro x w;have:=Lk z C w;unfold DF at this;rw[List.all_eq_false] at this;obtain⟨⟨a,b⟩,H,o⟩:=this;simp only[Ly] at o;simp at o;obtain⟨rfl,o⟩:=o;exact⟨b,H,o⟩
   |some k=>
    obtain⟨E,O⟩:=DV C;refine Xz z n _ ?_ (C4 (GA _ _) s);have e:=Js c s k E;have N:=HA c s;have:(Bu c).filter (λ x=>!(x==k))=(Bu c).erase k:=by rw[N.erase_eq_filter];rfl
    rw[e,this,Ea E];omega
theorem UT (o:∀k<5,k∈a)(x:Nat):x∈Ga c 5 (List.range 5)↔x∈Bu (GU c a 5 31).2:=by
 constructor
 ·refine Xy (λ x h=>?_) 5 31 ∅ (λ x h=>?_) x
  ·have e:=LR (prs:=c) 5 (List.range 5) (_);rw[<-e] at h;obtain⟨b,s,w⟩:=Ub.mp (AU.mp h).2;exact⟨b,s,w⟩
  ·have:=JZ 5 _ x h;have e:Bu 31=List.range 5:={_}
   rw[e];exact this
 ·exact Nb (Xz o 5 31 {_} ∅) 5 _ (λ x h=>AD.mpr (Fj h).1) x
theorem Wj (h:∀p∈a,p.1<5/\p.2<5):FV (Ec a) 5 Df=(Ga a 5 (List.range 5)).map nm:=by
 have:Df=(List.range 5).map nm:={_}
 conv=>lhs;rw[this]
 exact QX h 5 _ λ x k=>AD.mp k
theorem Y3 (L:LI a c)(C:∀p∈b,p.1<5/\p.2<5):(C8 (CP a c 31)).map (λ k=>k.filter λ n=>(FV (Ec b) 5 Df).any (·==n))=C8 (CP a c (GU b a 5 31).2):=by
 rw[Wj C];have o:∀t:List Nat,(∀x∈t,x<5)->(t.map nm).filter (λ n=>((Ga b 5 (List.range 5)).map nm).any (·==n))=(t.filter (IL (GU b a 5 31).2)).map nm:=λ t s=>by
  rw[Dv];congr 1;apply CI;intro x w;show((Ga b 5 (List.range 5)).map nm).any (·==nm x)=_
  rw[Ly,BE,BQ,Gw,WW (λ y E=>AD.mp (JZ 5 _ y E)) (s x w),UT L.all]
 have H:(CP a c 31).map (λ t=>t.filter (IL (GU b a 5 31).2))=CP a c (GU b a 5 31).2:=by
  unfold CP;rw[BV,AG,AG];have h:∀i<5,IL 31 i=true:={_}
  congr 1
  ·apply A7;intro i N;show(if IL 31 i then[i] else[]).filter _=_;rw[Ap (h i (L.lt i N))];cases e:IL (GU b a 5 31).2 i<;>simp[e]
  ·apply A7;intro A z;show(A.reverse.filter (IL 31)).filter _=_;rw[List.filter_filter];apply CI;intro x w;rw[h x (L.ch A z x (by simpa using w)),HM]
 rw[<-H];unfold C8;rw[AG,AG];apply A7;intro t s;exact o t (MJ L t s)
end
section
theorem SJ (o:a.Perm b):Iv a=Iv b:=by
 have sorted:∀l:List Str,(Iv l).Pairwise (λ a b=>T3 a b=true):=λ l=>LC (λ a b c h k=>by simp only[T3,AK] at*;exact List.le_trans h k) (λ a b=>by simp only[T3,BN,AK];exact List.le_total _ _) l;refine KZ (le:=λ a b=>T3 a b=true) (λ x y _ _ h k=>?_) (sorted a) (sorted b) (((IM a _).trans o).trans (IM b _).symm);simp only[T3,AK] at h k;have:=List.le_antisymm h k;obtain⟨⟨x⟩⟩:=x;obtain⟨⟨y⟩⟩:=y;simp only at this;rw[this]
theorem Ud:∀(n c:Nat),c<32->(GU prs line n c).2=0->(GU prs line n c).1.Perm (Bu c)
 |0,c,o,h=>by
   have h:c=0:=h;subst h;exact .refl _
  |n+1,c,o,h=>by
   unfold GU at h ⊢;cases s:Fm prs line c with
   |none=>
    rw[s] at h;have h:c=0:=h;subst h;exact .refl _
   |some k=>
    rw[s] at h;obtain⟨w,E⟩:=DV s;have z:=Ud n _ (C4 (GA _ _) o) h;have e:=Js c o k w;have A:=HA c o;have C:(Bu c).filter (λ x=>!(x==k))=(Bu c).erase k:=by rw[A.erase_eq_filter];rfl
    rw[e,C] at z;exact(z.cons k).trans (List.perm_cons_erase w).symm
theorem RU (o:(a,b)∈prs):∀(n c:Nat),c<32->(GU prs line n c).2=0->a∈Bu c->b∈Bu c->(GU prs line n c).1.idxOf b<(GU prs line n c).1.idxOf a
 |0,c,s,h,w,_=>by
   have h:c=0:=h;subst h;exact absurd w (MN _)
  |n+1,c,s,h,w,E=>by
   unfold GU at h ⊢;cases A:Fm prs line c with
   |none=>
    rw[A] at h;have h:c=0:=h;subst h;exact absurd w (MN _)
   |some k=>
    rw[A] at h;obtain⟨H,O⟩:=DV A;have N:k≠a:=λ q=>HD.mp O b (q▸o) E;show List.idxOf b (k::_)<List.idxOf a (k::_);rw[II,II];have Q:(k==a)=false:=by simpa using N
    rw[Q];by_cases C:k=b
    ·subst C;simp
    ·have V:(k==b)=false:=by simpa using C
     rw[V];have W:=RU o n _ (C4 (GA _ _) s) h ((Gs s H).mpr ⟨w,λ z=>N z.symm⟩) ((Gs s H).mpr ⟨E,λ z=>C z.symm⟩);simpa using W
theorem Xs (k:i<5):∀{g:List Nat},(∀x∈g,x<5)->(g.map nm).idxOf (nm i)=g.idxOf i
 |[],_=>rfl
  |a::g,h=>by
   rw[AL,II,II,Xs k λ x o=>h x (Ad _ o)];by_cases q:a=i
   ·subst q;simp
   ·have s:(a==i)=false:=by simpa using q
    have w:(nm a==nm i)=false:=by simpa using λ z=>q (Nl a (h a Ac) i k z)
    rw[s,w]
def OI (h k:List Int)(st:Int×List Int)(i:Nat):Int×List Int:=(st.1+h.getD i 0,st.2++[st.1+h.getD i 0-k.getD i 0])
variable {e a:List Int}{d:List (Nat×Nat)}{b:List Nat} in
theorem Sa:∀(n c:Nat),c<32->(GU d b n c).2=0->(GU d b n c).1.reverse.foldl (OI a e) (0,[])=(FK a c,(Pi a e c (GU d b n c).1).reverse)
 |0,c,o,h=>by
  have h:c=0:=h;subst h;rfl
 |n+1,c,o,h=>by
  unfold GU at h ⊢;cases s:Fm d b c with
  |none=>
   rw[s] at h;have h:c=0:=h;subst h;rfl
  |some k=>
   rw[s] at h;obtain⟨w,A⟩:=DV s;have z:=Sa n _ (C4 (GA _ _) o) h;show List.foldl _ _ (k::_).reverse=(_,(Pi a e c (k::_)).reverse);rw[List.reverse_cons,List.foldl_append,z,Pi,List.reverse_cons];show(FK a (c-2^k)+a.getD k 0,_++[FK a (c-2^k)+a.getD k 0-e.getD k 0])=_;rw[<-Sb o w]
theorem XH (l:List Int):∀a m:Int,l.foldl max a=m↔(m=a\/m∈l)/\a<=m/\∀x∈l,x<=m:=by
 induction l with
 |nil=>intro a m;simp;omega
 |cons b l s=>
  intro a m;rw[E0,s];simp only[Ag,forall_eq_or_imp];constructor
  ·rintro⟨k,o,h⟩;have:=Gl a b;have:=FT a b;refine⟨?_,∅,∅,h⟩;rcases k with z |z
   ·rcases Int.le_total a b with y |y
    ·rw[Int.max_eq_right y] at z;exact .inr (.inl z)
    ·rw[Int.max_eq_left y] at z;exact .inl z
   ·exact .inr (.inr z)
  ·rintro⟨k,o,h,w⟩;refine⟨?_,Int.max_le.mpr ⟨o,h⟩,w⟩;have:=Gl a b;have:=FT a b;have:=Int.max_le.mpr ⟨o,h⟩;rcases k with z |z |z
   ·left;omega
   ·left;omega
   ·exact .inr z
theorem WY:Mu l=some m↔m∈l/\∀x∈l,x<=m:=by
 cases l with
 |nil=>simp[Mu]
 |cons a l=>
  unfold Mu;rw[CH,XH];simp only[Ag,forall_eq_or_imp]
theorem Rv:∀{l:List Int}{m:Int},Qa l=some m↔m∈l/\∀x∈l,x<=m
 |[],m=>by simp[Qa]
  |a::l,m=>by
   have s:= @Rv l;unfold Qa;rw[CH];cases e:Qa l with
   |none=>
    have:l=[]:=by
     cases l with
     |nil=>rfl
     |cons b l=>unfold Qa at e;cases e
    subst this;simp;constructor
    ·intro h;exact⟨h.symm,∅⟩
    ·intro h;exact h.1.symm
   |some b=>
    obtain⟨k,o⟩:=(s (m:=b)).mp e;simp only[Ag,forall_eq_or_imp];have N:=Gl b a;have O:=FT b a;constructor
    ·intro h;refine⟨?_,∅,λ x w=>by have:=o x w;omega⟩;rcases Int.le_total b a with y |y
     ·rw[Int.max_eq_right y] at h;exact .inl h.symm
     ·rw[Int.max_eq_left y] at h;exact .inr (h▸k)
    ·rintro⟨A,C,E⟩;have H:=E b k;have:=Int.max_le.mpr ⟨H,C⟩;rcases A with z |z
     ·omega
     ·have:=o m z;omega
theorem WX (h:Qa l=some m):Mu l.reverse=some m:=by
 rw[WY];have:=Rv.mp h;simpa using this
theorem Yr.start (k:∀p∈a,p.1<5/\p.2<5):Yr a 31:=λ p h o=>by
 have:∀i<5,i∈Bu 31:={_}
 exact absurd (this _ (k p h).1) o
theorem Za (L:LI a b)(A:∀p∈DA b,p.1<5/\p.2<5)(s:∀k,0<=d.getD k 0)(w:a.Pairwise λ i j=>c.getD j 0<=c.getD i 0):
 (JT d c (DA b)=none/\(GU (DA b) a 5 31).2≠0)\/
 ∃v,JT d c (DA b)=some v/\(GU (DA b) a 5 31).2=0/\Mu (((GU (DA b) a 5 31).1.reverse.foldl (OI d c) (0,[])).2)=some v:=by
 obtain⟨T,D,e⟩:=ZT (hrs:=d) (dus:=c) (prs:=DA b);cases h:T 31 with
 |none=>
  refine .inl ⟨e.trans h,λ z=>?_⟩;have:=fF (line:=a) D 5 31 ∅ ∅ z;rw[h] at this;cases this
 |some v=>
  obtain⟨o,m⟩:=Xa D s w L.all 5 31 {_} ∅ ∅ v h;exact .inr ⟨v,e.trans h,o,by rw[Sa 5 31 ∅ o];exact WX m⟩
end
variable {dus hrs:List Int}{prs:List (Nat×Nat)}{sp:Scope} in
structure Sp where
 sp:List Nat
 po:List Int
 wi:List (List Str)
 so:List (List Str)
 hrs:List Int
 dus:List Int
 prs:List (Nat×Nat)
variable {tk:Nat} in
structure aR (D:Sp):Prop where
 tk:QK D.sp D.po D.wi D.so
 hl:D.hrs.length=5
 dl:D.dus.length=5
 pl:D.prs.length<=100
def C0:Ge:=⟨λ _=>none,dY⟩
def C1:Ge:=⟨λ x=>if x="S_IFMT" then some Pp else if x="_law_said" then some Mi else none,dY⟩
noncomputable def Uj (D:Sp)(x:Str):Option (List PV->Option PV):=
 if x="parse257" then some Qs else if x="parse229" then some NB else if x="S_IMODE" then some NC else if x="filemode" then some RV else if x="_law_talk" then some (G6 (TC D.sp D.po D.wi D.so) (.list (OV D.sp D.po D.wi D.so)))
 else if x="_law_listing" then some KM else if x="_law_best" then some (G6 [AH D.hrs,AH D.dus,EU D.prs] (FG (JT D.hrs D.dus D.prs))) else if x="_law_stuck" then some (G6 [AB Df,OC (Ec D.prs)] (AB (FV (Ec D.prs) 5 Df))) else none
noncomputable def CL (D:Sp):Ge:=⟨Uj D,dY⟩
theorem JO (s:EF (W1 w h) a fd d b)(z:mg x=some (.ref a))(c:EG (W1 w h) k a g):
 ∃a o fd,mg x=some (.ref a)/\h.get? a=some o/\o.data=.func fd/\o.cls≠.type "frame"/\o.cls≠.none/\EG (W1 w h) k a g:=by
 obtain⟨o,A,hd,C,E⟩:=s.obj;exact⟨a,o,fd,z,A,hd,C,E,c⟩
theorem aK (I:Hb w h)(T:DB a b mg mb h)(o:Ir):Dh (W1 w h) C0 k mg mb:=cF I T o rfl λ x g e=>nomatch e
theorem jJ (I:Hb w h)(T:DB a b mg mb h)(o:Ir):Dh (W1 w h) C1 (k+1) mg mb:=cF I T o rfl λ x g e=>by
 have s:Dh (W1 w h) C0 k mg mb:=aK I T o;unfold C1 at e;simp only at e;split at e
 ·rename_i q;subst q;cases e;exact JO (Uh I T) ((C9 I T _).trans ⋯) (cT I T s)
 ·split at e
  ·rename_i q;subst q;cases e;exact JO (Ug I T) ((C9 I T _).trans ⋯) (cS I T s)
  ·cases e
theorem dZ (I:Hb w h)(T:DB a b mg mb h)(o:Ir)(z:aR D):Dh (W1 w h) (CL D) (k+2) mg mb:=cF I T o rfl λ x g e=>by
 have s:Dh (W1 w h) C0 (k+1) mg mb:=aK I T o;have A:Dh (W1 w h) C1 (k+1) mg mb:=jJ I T o;unfold CL Uj at e;simp only at e;split at e
 ·rename_i q;subst q;cases e;exact JO (Qw I T) ((C9 I T _).trans ⋯) (fG I T s)
 split at e
 ·rename_i q;subst q;cases e;exact JO (Qx I T) ((C9 I T _).trans ⋯) (fH I T s)
 split at e
 ·rename_i q;subst q;cases e;exact JO (R3 I T) ((C9 I T _).trans ⋯) (Zo I T s)
 split at e
 ·rename_i q;subst q;cases e;exact JO (Ml I T) ((C9 I T _).trans ⋯) (cU I T A rfl rfl)
 split at e
 ·rename_i q;subst q;cases e;exact JO (Uf I T) ((C9 I T _).trans ⋯) (cR I T A rfl z.tk)
 split at e
 ·rename_i q;subst q;cases e;exact JO (NF I T) ((C9 I T _).trans ⋯) (VL I T s)
 split at e
 ·rename_i q;subst q;cases e;exact JO (Ui I T) ((C9 I T _).trans ⋯) (cV I T s z.hl z.dl z.pl)
 split at e
 ·rename_i q;subst q;cases e;exact JO (RZ I T) ((C9 I T _).trans ⋯) (Zn I T s (by rw[Ec,Ao];exact z.pl))
 ·cases e
inductive IH {σ α:Type}(R:σ->α->σ->Prop):List α->σ->σ->Prop
 |nil {s0}:IH R [] s0 s0
 |cons {x0 xs0 s0 tm u}:R s0 x0 tm->IH R xs0 tm u->IH R (x0::xs0) s0 u
theorem IH.bt {a b:Type}{R:a->b->a->Prop}{x:b}{c t:a}(h:R c x t):IH R [x] c t:=.cons h .nil
theorem IH.append {c d:Type}{R:c->d->c->Prop}:∀{k o:List d}{s t u:c},IH R k s t->IH R o t u->IH R (k++o) s u
 |_,_,_,_,_,.nil,h=>h
  |_,_,_,_,_,.cons a b,h=>.cons a (b.append h)
theorem IH.fn {c d:Type}{R:c->d->c->Prop}:∀{h:List d}{s t:c},IH R h s t->∃f:Nat->c,f 0=s/\f h.length=t/\∀i x,h[i]? =some x->R (f i) x (f (i+1))
 |_,s,_,.nil=>⟨λ _=>s,rfl,rfl,λ i x e=>by simp at e⟩
  |_,s,_,.cons a b=>by
   obtain⟨f,k,o,w⟩:=b.fn;refine⟨λ n=>match n with |0=>s |n+1=>f n,rfl,o,λ i x e=>?_⟩;cases i with
   |zero=>
    have e:some _=some x:=e;cases e;show R s _ (f 0);rw[k];exact a
   |succ i=>exact w i x e
section
def HR (k:World)(o:Heap)(D:Sp)(s:Nat)(h:List (Str×PV)×List PV×List PV)(x:PV)(t:List (Str×PV)×List PV×List PV):Prop:=
 ∃r,x=.str r/\Ss (W1 k o) (By (CL D) 6) s (Dq k 159).scope hP hK H9 Pn Xv 58 70 r h.1 h.2.1 h.2.2 t.1 t.2.1 t.2.2
theorem PD (h:O.lookup x=some (.aa d)):CZ (By C (m+1)) V O [.Name x q]=some [d]:=by
 show(((By C (m+1)).ev V O (.Name x q)).bind λ d=>(CZ (By C (m+1)) V O []).map λ k=>d::k)=_;rw[Fo,CK h];rfl
theorem XA (e:Qs [.str r]=some d):M1 (By (CL D) 6) (Dq w 159).scope "reply" r H9 "parse257" d:=λ h k o=>by
 conv in H9=>whnf
 show(if(Bz (Dq w 159).scope "parse257"&&(h.lookup ("parse257":Str)).isNone)=true then(CZ (By (CL D) 5) (Dq w 159).scope h _).bind (λ s=>Qs s) else none)=_;rw[o,Ap ⋯,PD k];exact e
theorem Uw (h:O.lookup ("words":Str)=some (.aa (.str a))):CZ (By C (m+3)) V O [.Name "words" (hP 23),.Tuple [.Constant (.str "peer") (hK 2) (hP 24),.Constant (.int 21) (hK 3) (hP 25)] (hK 4) (hP 26)]=some [.str a,.ay [.str "peer",.int 21]]:=by
 show(((By C (m+3)).ev V O (.Name "words" (hP 23))).bind λ d=>(CZ (By C (m+3)) V O [.Tuple [.Constant (.str "peer") (hK 2) (hP 24),.Constant (.int 21) (hK 3) (hP 25)] (hK 4) (hP 26)]).map λ k=>d::k)=_;rw[Fo,CK h];kernel_rfl
theorem XC (e:NB [.str r,.ay [.str "peer",.int 21]]=some d):M1 (By (CL D) 6) (Dq w 159).scope "words" r (Il hP hK) "parse229" d:=λ h k o=>by
 unfold Il;show(if(Bz (Dq w 159).scope "parse229"&&(h.lookup ("parse229":Str)).isNone)=true then(CZ (By (CL D) 5) (Dq w 159).scope h _).bind (λ s=>NB s) else none)=_;rw[o,Ap ⋯,Uw k];exact e
theorem Li (I:Hb w h)(T:DB a c mg mb h)(E:Ir)(e:l.take 3≠[50,53,55]):F6 (W1 w h) (k+1) (Dq w 159).scope "reply" (A5 l) H9 "parse257" 58 (A5 l):=λ A f O Z X s t g W Q St B S i u=>by
 have j:Dh (W1 w h) C0 k mg mb:=aK I T E;have d:Dh (W1 w h) C0 (k+1) mg mb:=aK I T E;obtain⟨o,m,V,n,p⟩:=(Qw I T).obj
 conv in H9=>whnf
 refine Up d (A2 d W 2) S.F (S.gd B) ⋯ (PD i) ((C9 I T _).trans ⋯) m V n p λ H C q z N r=>?_;exact eE I T j e A #[s,H,C] X q g W Q (St.bb z) ((S.gd B).step z N) (λ b O=>⟨(S.F.alive b O).1,AP z (S.F.alive b O).2⟩) r
theorem O6 (I:Hb w h)(T:DB a c mg mb h)(H:Ir)(e:∀C,eA (By C 6) NL 20 (Dq w 79).scope 10 ["resp","peer"] (Bp P1 9) [.str r,.ay [.str "peer",.int 21]]=some (.gi x r)):F6 (W1 w h) (k+1) (Dq w 159).scope "words" r (Il hP hK) "parse229" (X6 x) r:=λ A g Q Z X s u i d V St B S j v=>by
 have l:Dh (W1 w h) C0 k mg mb:=aK I T H;have f:Dh (W1 w h) C0 (k+1) mg mb:=aK I T H;obtain⟨o,m,W,n,p⟩:=(Qx I T).obj;unfold Il;refine Up f (A2 f d 4) S.F (S.gd B) ⋯ (Uw j) ((C9 I T _).trans ⋯) m W n p λ N E q z O t=>?_;exact eF I T l (e C0) A #[s,N,E] X q i d V (St.bb z) ((S.gd B).step z O) (λ b Q=>⟨(S.F.alive b Q).1,AP z (S.F.alive b Q).2⟩) t
theorem RO (e:Qs [.str r]=some d)(o:hs.length+1<=Bi):HR w h D k (a,hs,b) (.str r) (a,hs++[d],b):=
 ⟨r,rfl,.ie d (XA e) o⟩
theorem cD (I:Hb w h)(T:DB a b mg mb h)(o:Ir)(s:ss.length+1<=Bi):HR w h D (k+1) (d,c,ss) (.str "226 all told") (d,c,ss++[.str "no 226 all told"]):=
 ⟨_,rfl,.gu "226 all told" "226 all told" "no 226 all told" (by
   have e:("226 all told":Str)=A5 (PySem.Str.cps "226 all told").toList:=(Jq _).symm;have:=Li (k:=k) I T o (l:=(PySem.Str.cps "226 all told").toList) {_};rwa[<-e] at this) (O6 I T o λ C=>gN) ⋯ s⟩
theorem cC (I:Hb w h)(T:DB a b mg mb h)(o:Ir)(s:r∈J1)(z:d.length+1<=Bi):HR w h D (k+1) (f,c,d) (.str r) (f,c,d++[.str r]):=
 ⟨r,rfl,.gx r r (by
   have e:r=A5 r.cps.toList:=(Jq _).symm;have t:∀r∈J1,r.cps.toList.take 3≠[50,53,55]:={_}
   have:=Li (k:=k) I T o (t r s);rwa[<-e] at this) (O6 I T o (x:="error_proto") λ C=>gM s) z⟩
theorem Xu (I:Hb w h)(T:DB a b mg mb h)(s:Ir)(A:m∈Iz)(C:i.natAbs<10^10)(E:c.length+1<=Bi):
 HR w h D (k+1) (c,[.str n],e) (.str (A5 (Ba m (dg i)))) (DZ c n (.ay [.str "peer",.int i]),[],e):=
 ⟨_,rfl,.ig (A5 (Ba m (dg i))) _ n [] (Li I T s (by
    have:(Ba m (dg i)).take 3=[50,50,57]:=by simp[Ba,CB]
    rw[this];decide)) (XC (Xx A C _)) (λ z o=>by
    conv in Xv=>whnf
    rw[NM];have:EL (By (CL D) 5) (Dq w 159).scope z (.Name "heard" {line:=171,col:=9,endLine:=171,endCol:=14})=some (.list [.str n]):=by
     rw[F5 (λ d q=>by rw[o] at q;cases q),Fo];exact CK o
    rw[this];kernel_rfl) (λ z o=>by
    conv in Pn=>whnf
    rw[NM];have:EL (By (CL D) 5) (Dq w 159).scope z (.Name "heard" {line:=172,col:=18,endLine:=172,endCol:=23})=some (.list [.str n]):=by
     rw[F5 (λ d q=>by rw[o] at q;cases q),Fo];exact CK o
    rw[this];kernel_rfl) E⟩
end
def KU (h:List Nat):List Nat:=((List.range 3).filter λ k=>!((h.take k).any (·==h.getD k 0))).map λ k=>h.getD k 0
def Fw (h:List Nat):Str:=Txt.join "/" (h.map nm)
def J2 (t:Str)(n:Nat):Bool:=decide (QV (D6 t n).cps.toList=some t.cps.toList)&&decide ((D6 t n).length<=4000)
def MU (h:List Nat):Bool:=
 h.all (λ x=>decide (x<5))&&decide (h.length<=3)&&decide (1<=h.length)&&(decide (h.length<=1)||(Gp (Fw h)&&(List.range 4).all (J2 (Fw h))&&decide (Txt.split (Fw h) "/"=h.map nm)&&JoinOk "/" (h.map nm)&&Ix (Fw h)&&(Txt.split (Fw h) "/").all Ix&&decide ((Txt.split (Fw h) "/").length<=5)))
theorem X7:∀a<5,∀b<5,∀c<5,MU (KU [a,b,c])=true:={_}
theorem YP:∀s<5,∀n<6,J2 (nm s) n=true:={_}
def bS (l:List Int)(h:Nat):Int:=l.getD h 0
def sp5 (h:List Int):Nat:=(bS h 7%5).toNat
def Ld (h:List Int):List Nat:=[0,1,2,3,4,sp5 h]
def Kz (h:List Int)(k:Nat):Int:=bS h k%147456-20480
def Jo (h:List Int):List Int:=(List.range 6).map (Kz h)
def B3 (h:List Int)(k:Nat):Int:=if k=sp5 h then Kz h 5 else Kz h k
def Be (h:List Int):List Int:=(List.range 5).map (B3 h)
def aO (h:List Int)(k u:Nat):Nat:=(bS h 6/125^k/u%5).toNat
def TJ (h:List Int)(k:Nat):List Nat:=[aO h k 25,aO h k 5,aO h k 1]
def K4 (h:List Int):List (List Nat):=(List.range 4).map λ k=>KU (TJ h k)
def LM (h:List Nat):List Str:=if h.length>1 then[Fw h] else[]
def IS (h:List Int):List (List Str):=(K4 h).map LM
def OF:List (List Str):=[["229 at 272)"],["229 at (|||7|x"],["229 at (||7|)","229 at (|||7||)"],["229 at (|||7|!)"]]
def Uu (h:List Int)(k:Nat):Bool:=decide (bS h 7/5/2^k%2=1)
def K3 (h:List Int):List (List Str):=(List.range 4).map λ k=>if Uu h k then OF.getD k [] else[]
def OH (m:Int):Int:=9-Txt.count (Txt.slice (A5 (Fy m)) (some ((1:Nat):Int)) none) "-"
def I9 (h:List Int):List Int:=(Be h).map OH
def JA (h:List Int):List Int:=(Be h).map (·/4096)
def Di (h:List Int):List (Nat×Nat):=DA (K4 h)
def Gb (h:List Int):Sp:=⟨Ld h,Jo h,IS h,K3 h,I9 h,JA h,Di h⟩
section
theorem Wo:sp5 a<5:=by unfold sp5;omega
theorem Tk (h u:Nat):aO a h u<5:=by unfold aO;omega
theorem Ij (h:a∈K4 b):MU a=true:=by
 obtain⟨k,_,rfl⟩:=At.mp h;exact X7 _ (Tk k 25) _ (Tk k 5) _ (Tk k 1)
variable {sl:BL} in
structure iI (ch:List Nat):Prop where
 lt:∀x∈ch,x<5
 l3:ch.length<=3
 l1:1<=ch.length
 ok:1<ch.length->Gp (Fw ch)=true
 said:1<ch.length->∀n<4,J2 (Fw ch) n=true
 je:1<ch.length->Txt.split (Fw ch) "/"=ch.map nm
 jok:1<ch.length->JoinOk "/" (ch.map nm)=true
 oks:1<ch.length->Ix (Fw ch)=true
 sok:1<ch.length->(Txt.split (Fw ch) "/").all Ix=true
 sl:1<ch.length->(Txt.split (Fw ch) "/").length<=5
theorem ZC (h:MU a=true):iI a:=by
 unfold MU at h;simp only[Ah,BN,AK,AJ] at h;obtain⟨⟨⟨k,o⟩,s⟩,w⟩:=h;have z:1<a.length->_:=λ q=>w.resolve_left ∅;exact⟨k,o,s,λ q=>(z q).1.1.1.1.1.1,λ q n A=>(z q).1.1.1.1.1.2 n (AD.mpr A),λ q=>(z q).1.1.1.1.2,λ q=>(z q).1.1.1.2,λ q=>(z q).1.1.2,λ q=>AJ.mpr (z q).1.2,λ q=>(z q).2⟩
theorem Wv (h:J2 t n=true):Qs [.str (D6 t n)]=some (.str t):=by
 unfold J2 at h;rw[Ah,BQ,BQ] at h;unfold Qs;show(if(D6 t n).length<=4000 then(QV (D6 t n).cps.toList).map (λ t=>PV.str (A5 t)) else none)=_;rw[Ap h.2,h.1];show some (PV.str (A5 t.cps.toList))=_;rw[Jq]
theorem Pa:∀h:List Nat,(De h).length<=h.length
 |[]=>Am _
  |[a]=>BT _
  |a::b::r=>by
   have:=Pa (b::r);show(De (b::r)).length+1<=_;simp at this ⊢;omega
theorem Lj:∀p∈Di a,p.1<5/\p.2<5:=λ p o=>by
 obtain⟨s,k,h⟩:=FN.mp o;have:=Jp h;exact⟨(ZC (Ij k)).lt _ this.1,(ZC (Ij k)).lt _ this.2⟩
theorem Rg (h:Nat):(Kz a h).natAbs<200000:=by unfold Kz;omega
theorem Hu:aR (Gb b) where
 tk:={
  je:=rfl
  sp5:=λ s E=>by
   have:s∈[0,1,2,3,4,sp5 b]:=E;have:= @Wo b;simp only[Ag,Ev,OE] at*;omega
  jq:=by simp[Gb,Jo]
  kh:=λ p H=>by
   obtain⟨k,_,rfl⟩:=At.mp H;have:= @Rg b k;omega
  ip:=by simp[Gb,IS,K4]
  jn:=λ l z=>by
   obtain⟨w,o,rfl⟩:=At.mp z;have F:=ZC (Ij o);unfold LM;split
   ·rename_i q;exact⟨Am _,λ x A=>by rw[Cz.mp A];exact F.ok q⟩
   ·exact⟨BT _,λ x A=>nomatch A⟩
  iu:=by simp[Gb,K3]
  jo:=λ l z=>by
   obtain⟨k,C,rfl⟩:=At.mp z;have C:=AD.mp C;split
   ·have:∀k<4,(OF.getD k []).length<=9:={_}
    exact this k C
   ·exact BT _}
 hl:=by simp[Gb,I9,Be]
 dl:=by simp[Gb,JA,Be]
 pl:=by
  show((K4 b).flatMap De).length<=100;rw[List.length_flatMap];have:∀l:List (List Nat),(∀w∈l,w.length<=3)->(l.map λ w=>(De w).length).sum<=3*l.length:=by
   intro l;induction l with
   |nil=>intro _;simp
   |cons a l N=>
    intro h;have O:=N λ w o=>h w (Ad _ o);have Q:=h a Ac;have V:=Pa a;simp at O ⊢;omega
  have:=this (K4 b) λ w o=>(ZC (Ij o)).l3;have W:(K4 b).length=4:=by simp[K4]
  omega
end
section
def Cv (i:Int):PV:=.ay [.str "peer",.int i]
def Kd (h:List Nat)(k:List Int)(o:List (Str×PV))(p:Nat):List (Str×PV):=DZ o (nm (h.getD p 0)) (Cv (k.getD p 0))
theorem O2 (I:Hb w h)(T:DB c d mg mb h)(A:Ir)(Q:∀s∈a,s<5)(V:∀p,(b.getD p 0).natAbs<1000000)(Z:a.length=6):∀(z:List Nat)(o:List (Str×PV)),(∀p∈z,p<6)->o.length+z.length<=100->∀{C:List PV},
 IH (HR w h D (k+1)) (z.flatMap (Iu a b)) (o,[],C) (z.foldl (Kd a b) o,[],C)
 |[],o,_,_,C=>.nil
  |p::z,o,E,W,C=>by
   have f:=Gz;have N:=E p Ac;have H:a.getD p 0<5:=Q _ (getD_mem ∅);have O:o.length+1<=Bi:=by simp at W;omega
   show IH _ ([_,_]++_) _ _;refine .append (.cons (tm:=(o,[.str (nm (a.getD p 0))],C)) (RO (hs:=[]) (d:=.str (nm (a.getD p 0))) (show Qs [.str (D6 (Df.getD (a.getD p 0) "") p)]=some _ from Wv (YP _ H p N)) (by simp;omega)) (.bt (Xu I T A (TT H) (by have:=V p;omega) O))) ?_;exact O2 I T A Q V Z z _ (λ q e=>E q (Ad _ e)) (by
    have g:(Kd a b o p).length<=o.length+1:=FW ..;show(Kd a b o p).length+z.length<=100;simp at W;omega)
variable {D:Sp} in
theorem Q9 {p:Nat}:∀(l:List Str),(∀t∈l,J2 t p=true)->∀{es:List (Str×PV)}{hs ss:List PV},hs.length+l.length<=1000->IH (HR w h D (k+1)) (l.map λ t=>.str (D6 t p)) (es,hs,ss) (es,hs++l.map .str,ss)
 |[],_,es,hs,ss,_=>by rw[GY,GY,Cj];exact .nil
 |t::l,o,es,hs,ss,s=>by
  have A:=Gz;have:=Q9 (p:=p) l (λ x z=>o x (Ad _ z)) (es:=es) (hs:=hs++[.str t]) (ss:=ss) (by simp at s ⊢;omega);rw[Br] at this;exact .cons (RO (Wv (o t Ac)) (by simp at s;omega)) this
variable {a:List Str}{b:ExcName->Option Value}{D:Sp} in
theorem TI (I:Hb w h)(T:DB a b mg mb h)(o:Ir):∀(l:List Str),(∀t∈l,t∈J1)->∀{es:List (Str×PV)}{hs ss:List PV},ss.length+l.length<=1000->IH (HR w h D (k+1)) (l.map .str) (es,hs,ss) (es,hs,ss++l.map .str)
 |[],_,es,hs,ss,_=>by rw[GY,Cj];exact .nil
 |t::l,s,es,hs,ss,z=>by
  have C:=Gz;have:=TI I T o l (λ x A=>s x (Ad _ A)) (es:=es) (hs:=hs) (ss:=ss++[.str t]) (by simp at z ⊢;omega);rw[Br] at this;exact .cons (cC I T o (s t Ac) (by simp at z;omega)) this
variable {a:List Str}{b:ExcName->Option Value}{D:Sp} in
theorem Ra (I:Hb w h)(T:DB a b mg mb h)(s:Ir){wi so:List (List Str)}(C:∀p<4,(wi.getD p []).length<=9/\∀t∈wi.getD p [],J2 t p=true)(E:∀p<4,(so.getD p []).length<=9/\∀t∈so.getD p [],t∈J1):∀(o:List Nat),(∀p∈o,p<4)->∀{es:List (Str×PV)}{hs ss:List PV},hs.length+9*o.length<=1000->ss.length+9*o.length<=1000->
 IH (HR w h D (k+1)) (o.flatMap (LQ wi so)) (es,hs,ss) (es,hs++(o.flatMap λ p=>wi.getD p []).map .str,ss++(o.flatMap λ p=>so.getD p []).map .str)
 |[],_,es,hs,ss,_,_=>by simp;exact .nil
 |p::o,z,es,hs,ss,N,O=>by
  have A:=z p Ac;obtain⟨Z,Q⟩:=C p A;obtain⟨c,V⟩:=E p A;simp only[Cr] at N O;have H:=Ra I T s C E o (λ q W=>z q (Ad _ W)) (es:=es) (hs:=hs++(wi.getD p []).map .str) (ss:=ss++(so.getD p []).map .str) (by rw[BZ,Ao];omega) (by rw[BZ,Ao];omega);rw[Br,Br,<-BV,<-BV] at H;rw[Cu,Cu,Cu];refine .append ?_ H;show IH _ (_++_) _ _;exact .append (Q9 _ Q ∅) (TI I T s _ V ∅)
theorem Ww (I:Hb w h)(T:DB f g mg mb h)(z:Ir):
 IH (HR w h D (k+1)) (OV (Ld ns) (Jo ns) (IS ns) (K3 ns)) ([],[],[]) ((List.range 6).foldl (Kd (Ld ns) (Jo ns)) [],((IS ns).flatten).map .str,.str "no 226 all told"::((K3 ns).flatten).map .str):=by
 have V:=Gz;have O:=(@Hu ns).tk;have H:∀l:List (List Str),l.length=4->(List.range 4).flatMap (λ p=>l.getD p [])=l.flatten:=λ l N=>by
  match l,N with
  |[a,b,c,d],_=>rfl
 have e:=Ra (D:=D) (k:=k) I T z (wi:=IS ns) (so:=K3 ns) (λ p s=>?_) (λ p s=>?_) (List.range 4) (λ p s=>AD.mp s) (es:=(List.range 6).foldl (Kd (Ld ns) (Jo ns)) []) (hs:=[]) (ss:=[.str "no 226 all told"]) {_} {_}
 ·rw[H (IS ns) O.ip,H (K3 ns) O.iu,DX] at e;unfold OV;rw[Br];refine .append (O2 I T z O.sp5 (λ p=>?_) rfl (List.range 6) [] (λ p s=>AD.mp s) {_}) (.append (.bt (cD I T z (ss:=[]) (by simp;omega))) e);rw[Az];cases q:(Jo ns)[p]? with
  |none=>simp
  |some x=>
   have Q:=List.mem_of_getElem? q;obtain⟨k,_,rfl⟩:=At.mp Q;have:= @Rg ns k;show(Kz ns k).natAbs<_;omega
 ·have A:=getD_mem (d:=[]) (i:=p) (l:=IS ns) (by rw[show(IS ns).length=4 from O.ip];exact s);refine⟨by have:=(O.jn _ A).1;omega,λ t o=>?_⟩;obtain⟨W,C,e⟩:=At.mp A;rw[<-e] at o;unfold LM at o;split at o
  ·rename_i q;rw[Cz.mp o];exact(ZC (Ij C)).said q p s
  ·cases o
 ·have A:=getD_mem (d:=[]) (i:=p) (l:=K3 ns) (by rw[show(K3 ns).length=4 from O.iu];exact s);refine⟨O.jo _ A,λ t o=>?_⟩;obtain⟨k,E,e⟩:=At.mp A;have E:=AD.mp E;rw[<-e] at o;split at o
  ·have:∀k<4,∀t∈OF.getD k [],t∈J1:={_}
   exact this k E t o
  ·cases o
end
section
theorem CJ.bk (h:CJ C V O e a)(k:CJ C V O e b):a=b:=by
 obtain⟨o,h⟩:=h;obtain⟨s,k⟩:=k;have w:=h (o+s) ∅;rw[k (o+s) ∅] at w;exact(BC w).symm
theorem MA.bk (h:MA C V O e a)(k:MA C V O e b):a=b:=by
 obtain⟨o,h⟩:=h;obtain⟨s,k⟩:=k;have w:=h (o+s) ∅;rw[k (o+s) ∅] at w;exact(BC w).symm
theorem OT.bk (h:OT C V O e a)(k:OT C V O e b):a=b:=by
 obtain⟨o,h⟩:=h;obtain⟨s,k⟩:=k;have w:=h (o+s) ∅;rw[k (o+s) ∅] at w;exact(BC w).symm
open Classical in
noncomputable def Hf {a:Type}(k:a)(P:a->Prop):a:=if h:∃d,P d then h.choose else k
theorem FE {b:Type}{c d:b}{P:b->Prop}(h:P d)(u:∀a,P a->a=d):Hf c P=d:=by
 unfold Hf;rw[dif_pos ⟨d,h⟩];exact u _ (Exists.choose_spec (⟨d,h⟩:∃d,P d))
theorem CJ.dj {ifs:List Expr}{i m t:Expr}{c:Scope}{p:Pos}{j:Type}{l:List j}{g:j->PV}(q:j->Bool)(f:j->PV)(E:OT C V O m (l.map g))(r:(Cd V c&&CQ m)=true)(u:(DY t).all (λ x=>((A3 c O).lookup x).isNone)=true)
 (H:∀a∈l,∃h,Dc c t (g a) (A3 c O)=some h/\MA C c h ifs (q a)/\(q a=true->CJ C c h i (f a))) (v:l.length<=Bi):CJ C V O (.ListComp i [⟨t,m,ifs,0⟩] c p) (.list ((l.filter q).map f)):=by
 let Q:PV->Bool:=λ x=>Hf true λ b=>∃h,Dc c t x (A3 c O)=some h/\MA C c h ifs b
 let F:PV->PV:=λ x=>Hf .none λ d=>∃h,Dc c t x (A3 c O)=some h/\CJ C c h i d
 have Z:∀a∈l,Q (g a)=q a:=λ a k=>by
  obtain⟨h,o,z,_⟩:=H a k;exact FE ⟨h,o,z⟩ λ b ⟨N,s,W⟩=>by rw[o] at s;cases s;exact W.bk z
 have n:∀a∈l,q a=true->F (g a)=f a:=λ a k w=>by
  obtain⟨h,o,_,A⟩:=H a k;exact FE ⟨h,o,A w⟩ λ b ⟨N,s,W⟩=>by rw[o] at s;cases s;exact W.bk (A w)
 have:=CJ.ci (p:=p) Q F E r u (λ x y=>by
  obtain⟨a,k,rfl⟩:=At.mp y;obtain⟨h,o,z,A⟩:=H a k;rw[Z a k];exact⟨h,o,z,λ w=>by rw[n a k w];exact A w⟩) (by rw[Ao];exact v)
 have e:((l.map g).filter Q).map F=(l.filter q).map f:=by
  rw[Dv,AG];have s:l.filter (Q∘g)=l.filter q:=CI λ a k=>Z a k;rw[s];exact A7 λ a k=>n a (AU.mp k).1 (AU.mp k).2
 rwa[e] at this
theorem CJ.bd {d e t:Expr}{b:Scope}{p:Pos}{c:Type}{l:List c}{g:c->PV}(f:c->PV)(k:OT C V O e (l.map g))(o:(Cd V b&&CQ e)=true)(s:(DY t).all (λ x=>((A3 b O).lookup x).isNone)=true)
 (w:∀a∈l,∃h,Dc b t (g a) (A3 b O)=some h/\CJ C b h d (f a)) (z:l.length<=Bi):CJ C V O (.ListComp d [⟨t,e,[],0⟩] b p) (.list (l.map f)):=by
 have:=CJ.dj (p:=p) (ifs:=[]) (λ _=>true) f k o s (λ a A=>let⟨h,E,H⟩:=w a A;⟨h,E,.nil,λ _=>H⟩) z;rwa[FJ] at this
theorem CJ.cz {m t:Expr}{c:Scope}{p:Pos}{f:Type}{l:List f}{g:f->PV}{i j:Expr}(w:f->Str)(z:f->PV)(H:OT C V O m (l.map g))(n:(Cd V c&&CQ m)=true)(q:(DY t).all (λ x=>((A3 c O).lookup x).isNone)=true)
 (N:∀a∈l,∃h,Dc c t (g a) (A3 c O)=some h/\CJ C c h i (.str (w a))/\CJ C c h j (z a)) (r:l.length<=Bi):CJ C V O (.DictComp i j [⟨t,m,[],0⟩] c p) (.dict (OJ (l.map λ a=>(w a,z a)))):=by
 let K:PV->Str:=λ x=>Hf "" λ d=>∃h,Dc c t x (A3 c O)=some h/\CJ C c h i (.str d)
 let F:PV->PV:=λ x=>Hf .none λ d=>∃h,Dc c t x (A3 c O)=some h/\CJ C c h j d
 have hK:∀a∈l,K (g a)=w a:=λ a k=>by
  obtain⟨h,o,A,_⟩:=N a k;exact FE ⟨h,o,A⟩ λ b ⟨Q,s,W⟩=>by rw[o] at s;cases s;have:=W.bk A;cases this;rfl
 have Z:∀a∈l,F (g a)=z a:=λ a k=>by
  obtain⟨h,o,_,E⟩:=N a k;exact FE ⟨h,o,E⟩ λ b ⟨Q,s,W⟩=>by rw[o] at s;cases s;exact W.bk E
 have:=CJ.gj (p:=p) K F H n q (λ x u=>by
  obtain⟨a,k,rfl⟩:=At.mp u;obtain⟨h,o,A,E⟩:=N a k;rw[hK a k,Z a k];exact⟨h,o,A,E⟩) (by rw[Ao];exact r)
 have e:(l.map g).map (λ x=>(K x,F x))=l.map λ a=>(w a,z a):=by
  rw[AG];exact A7 λ a k=>by show(K (g a),F (g a))=_;rw[hK a k,Z a k]
 rwa[e] at this
theorem CJ.da {n:Expr}{c:Scope}{p:Pos}{q t:Type}{l:List q}{g:q->PV}{g2:t->PV}{t1 i r j:Expr}(s:q->List t)(f:q->t->PV)(Z:OT C V O i (l.map g))(I:(Cd V c&&CQ i)=true)(J:(DY t1).all (λ x=>((A3 c O).lookup x).isNone)=true)
 (A:∀a∈l,∃h,Dc c t1 (g a) (A3 c O)=some h/\OT C c h j ((s a).map g2)/\(DY r).all (λ x=>(h.lookup x).isNone)=true/\∀b∈s a,∃k,Dc c r (g2 b) h=some k/\CJ C c k n (f a b))
 (L:(l.flatMap λ a=>(s a).map (f a)).length<=Bi):CJ C V O (.ListComp n [⟨t1,i,[],0⟩,⟨r,j,[],0⟩] c p) (.list (l.flatMap λ a=>(s a).map (f a))):=by
 let Y:PV->List PV:=λ x=>Hf [] λ d=>∃h,Dc c t1 x (A3 c O)=some h/\OT C c h j d
 let F:PV->PV->PV:=λ x y=>Hf .none λ d=>∃h k,Dc c t1 x (A3 c O)=some h/\Dc c r y h=some k/\CJ C c k n d
 have B:∀a∈l,Y (g a)=(s a).map g2:=λ a o=>by
  obtain⟨u,z,H,_⟩:=A a o;exact FE ⟨u,z,H⟩ λ b ⟨k,E,N⟩=>by rw[z] at E;cases E;exact N.bk H
 have D:∀a∈l,∀b∈s a,F (g a) (g2 b)=f a b:=λ a o b w=>by
  obtain⟨h,z,_,_,v⟩:=A a o;obtain⟨k,Q,W⟩:=v b w;exact FE ⟨h,k,z,Q,W⟩ λ d ⟨r1,r2,E,N,M⟩=>by
   rw[z] at E;cases E;rw[Q] at N;cases N;exact M.bk W
 have e:((l.map g).flatMap λ x=>((Y x).filter λ _=>true).map (F x))=l.flatMap λ a=>(s a).map (f a):=by
  rw[List.flatMap_map];have:∀m:List q,(∀a∈m,a∈l)->(m.flatMap λ a=>((Y (g a)).filter λ _=>true).map (F (g a)))=m.flatMap λ a=>(s a).map (f a):=by
   intro m;induction m with
   |nil=>intro _;rfl
   |cons a m R=>
    intro G;have o:=G a Ac;rw[Cu,Cu,R λ b w=>G b (Ad _ w)];congr 1;rw[FJ,B a o,AG];exact A7 λ b w=>D a o b w
  exact this l λ _ A=>A
 have:=CJ.gl (p:=p) (V:=V) (sc':=c) (elt:=n) (t1:=t1) (it1:=i) (t2:=r) (it2:=j) (ifs:=[]) (C:=C) (O:=O) Y (λ _ _=>true) F Z I J (λ x S=>by
  obtain⟨a,o,rfl⟩:=At.mp S;obtain⟨h,z,H,T,v⟩:=A a o;rw[B a o];refine⟨h,z,H,T,λ y U=>?_⟩;obtain⟨b,w,rfl⟩:=At.mp U;obtain⟨k,Q,W⟩:=v b w;exact⟨k,Q,.nil,λ _=>by rw[D a o b w];exact W⟩) (by rw[e];exact L)
 rwa[e] at this
theorem OT.bj (h:DK V O (.Call (.Name "range" q) [e] [] a)=some [e])(k:CJ C V O e (.int (n:Nat)))(o:Bk e=true)(s:n<100):OT C V O (.Call (.Name "range" q) [e] [] a) ((List.range n).map λ(i:Nat)=>PV.int (i:Nat)):=by
 refine .range (ds:=[.int (n:Nat)]) h rfl (.cons k .nil o) ?_;show(if 0<=((n:Nat):Int)/\((n:Nat):Int)<=100000 then some ((List.range ((n:Nat):Int).toNat).map (λ(i:Nat)=>PV.int (0+(i:Int)*1))) else none)=_;rw[Ap ⟨∅,∅⟩];show some ((List.range n).map _)=_;congr 1;apply A7;intro i _;congr 1;omega
theorem WL (h:List PV)(n:Nat):Iw h none (some (n:Int)) none=h.take n:=by
 have e:sliceBounds none (some (n:Int)) none h.length=(0,((min n h.length:Nat):Int),1):=by
  simp only[sliceBounds,Option.getD_none];have k:¬((n:Int)<0):=∅
  simp only[k,AS,show(1:Int)>0 by decide,A0];congr 2;omega
 rw[Rj h _ _ _ (js:=(List.range (min n h.length)).map (0+·)) (by
  rw[e];have:=sliceRange_one 0 (min n h.length);simpa using this),O9]
 simp
theorem Lf (h:List PV)(n:Nat)(k:h.length<=Bi):CA (.list h) none (some (n:Int)) none=some (.list (h.take n)):=by
 unfold CA;simp only[WL];rw[Ap ⟨(_),by rw[FO];omega⟩]
end
def U8:List Int:=[102893,57760,70144,47122,0,123337,12637,79]
def Ma (h:List Int)(k:Nat):List Int:=(sliceRange (sliceBounds (some (k:Int)) none (some 8) h.length).1 (sliceBounds (some (k:Int)) none (some 8) h.length).2.1 (sliceBounds (some (k:Int)) none (some 8) h.length).2.2).filterMap (h[·]?)
def numAt (k:List Int)(h:Nat):Int:=((Ma k h).sum+U8.getD h 0)%36000000000000
def Mc (h:List Int):List Int:=(List.range 8).map (numAt h)
theorem U7 (h:List Int)(k:Nat):(sliceRange (sliceBounds (some (k:Int)) none (some 8) h.length).1 (sliceBounds (some (k:Int)) none (some 8) h.length).2.1 (sliceBounds (some (k:Int)) none (some 8) h.length).2.2).length<=h.length+8:=by
 unfold sliceRange sliceBounds;simp;split<;>omega
theorem Rk (o:a.length<=1000)(h:Nat):CA (AH a) (some (h:Int)) none (some 8)=some (AH (Ma a h)):=by
 have e:Iw (a.map PV.int) (some (h:Int)) none (some 8)=(Ma a h).map .int:=by
  unfold Iw Ma;rw[Ao,List.map_filterMap];congr 1
  funext i
  rw[AE]
 have k:((Ma a h).map PV.int).length<=Bi:=by
  have s:=Gz;rw[Ao];unfold Ma;have:=U7 a h;have l:=List.length_filterMap_le (a[·]?) (sliceRange (sliceBounds (some (h:Int)) none (some 8) a.length).1 (sliceBounds (some (h:Int)) none (some 8) a.length).2.1 (sliceBounds (some (h:Int)) none (some 8) a.length).2.2)
  omega
 unfold AH CA;simp only[e];rw[Ap ⟨(_),k⟩]
def Y0 (h:List Int):AC:=[("script",.aa (AH h))]
def Y2 (h k:List Int):AC:=[("script",.aa (AH h)),("taken",.aa (AH k)),("own",.aa (AH U8))]
def Y4 (h:List Int):AC:=[("numbers",.aa (AH h)),("names",.aa (AB Df))]
theorem FZ (h:i<l.length)(k:l.length<=5000):DS (AH l) (.int (i:Nat))=some (.int (l.getD i 0)):=by
 have o:=Gz;exact Do (by rw[Ao];omega) (by rw[AE,Es (d:=0) h];rfl)
abbrev MB (k:World)(o:Heap)(s:Around)(h:Env)(w:Heap):=E8 (W1 k o) s (Dq k 181).scope h w
theorem v0 (o:GW w h C k mg mb)(s:Cg k A)(B:Ip w h 181 z N)(E:a.length<=Bi):MB w h A z N (exec (Cx 0) z) (Y0 a) (.next (AM (Y0 a) "taken" (.aa (AH (a.take 60))))):=by
 have H:=Gz
 conv in Cx 0=>whnf
 have e:CA (AH a) none (some ((60:Nat):Int)) none=some (AH (a.take 60)):=by
  unfold AH;rw[Lf _ _ (by rw[Ao];omega),List.map_take]
 exact AW o s B (.slice (b:=AH a) (.aa ⋯) .no (.int .int) .no e) ⋯
theorem v1 (o:GW w h C k mg mb)(s:Cg k A)(B:Ip w h 181 z N):MB w h A z N (exec (Cx 1) z) O (.next (AM O "own" (.aa (AH U8)))):=by
 have E:=Gz
 conv in Cx 1=>whnf
 exact AW o s B (.list (.cons .int (.cons .int (.cons .int (.cons .int (.cons .int (.cons .int (.cons .int (.cons .int .nil rfl) rfl) rfl) rfl) rfl) rfl) rfl) rfl) (by show 8<=Bi;omega)) ⋯
theorem v2 (s:GW w h C k mg mb)(E:Cg k A)(B:Ip w h 181 z N)(H:a.length<=100):MB w h A z N (exec (Cx 2) z) (Y2 b a) (.next (AM (Y2 b a) "numbers" (.aa (AH (Mc a))))):=by
 have O:=Gz;have e:AH (Mc a)=.list ((List.range 8).map λ i=>PV.int (numAt a i)):=by unfold AH Mc;rw[AG];rfl
 rw[e]
 conv in Cx 2=>whnf
 refine AW s E B (.bd _ (.bj ⋯ .int rfl ∅) ⋯ ⋯ (λ i o=>?_) (by simp;omega)) ⋯;have o:=AD.mp o;refine⟨[("k",.aa (.int (i:Nat))),("taken",.aa (AH a)),("own",.aa (AH U8))],⋯,?_⟩;unfold numAt;rw[<-GL {_}];refine .ai (.ai (.bx (b:=.sum) (ds:=[AH (Ma a i)]) (d:=.int (Ma a i).sum) ⋯ ⋯ (.cons (.slice (b:=AH a) (.aa ⋯) (.int (.aa (d:=.int (i:Nat)) ⋯)) .no (.int .int) (Rk ∅ i)) .nil rfl) (_) (by
  show(Fi _).map _=_;rw[J6];rfl)) (.aj (b:=AH U8) (.aa ⋯) (.aa (d:=.int (i:Nat)) ⋯) rfl (FZ (by show i<8;omega) {_})) (V0 _ _)) .int (Lo {_})
theorem v3 (o:GW w h C k mg mb)(s:Cg k A)(B:Ip w h 181 z N):MB w h A z N (exec (Cx 3) z) O (.next (AM O "names" (.aa (AB Df)))):=by
 have E:=Gz
 conv in Cx 3=>whnf
 exact AW o s B (.list (.cons (.ae ⋯) (.cons (.ae ⋯) (.cons (.ae ⋯) (.cons (.ae ⋯) (.cons (.ae ⋯) .nil rfl) rfl) rfl) rfl) rfl) (by show 5<=Bi;omega)) ⋯
theorem WO (h:List Int):(Mc h).length=8:=by simp[Mc]
def Qd (l:List (List Nat)):PV:=.list (l.map BJ)
def Mv (l:List (List Str)):PV:=.list (l.map AB)
def Tj (h:List Int):List (List Nat):=(List.range 4).map (TJ h)
def Y5 (h:List Int):AC:=[("numbers",.aa (AH h)),("names",.aa (AB Df)),("spots",.aa (BJ (Ld h)))]
def Y6 (h:List Int):AC:=[("numbers",.aa (AH h)),("names",.aa (AB Df)),("spots",.aa (BJ (Ld h))),("ports",.aa (AH (Jo h)))]
def Y7 (h:List Int):AC:=[("numbers",.aa (AH h)),("names",.aa (AB Df)),("spots",.aa (BJ (Ld h))),("ports",.aa (AH (Jo h))),("last",.aa (AH (Be h)))]
def Y8 (h:List Int)(k:PV):AC:=[("numbers",.aa (AH h)),("names",.aa (AB Df)),("spots",.aa (BJ (Ld h))),("ports",.aa (AH (Jo h))),("last",.aa (AH (Be h))),("drawn",.aa k)]
theorem gR (h:j.length=8):∃a b c d e f g i,j=[a,b,c,d,e,f,g,i]:=by
 match j,h with
 |[a,b,c,d,e,f,g,i],_=>exact⟨a,b,c,d,e,f,g,i,rfl⟩
theorem Ks (h:i<l.length)(k:l.length<=5000):DS (BJ l) (.int (i:Nat))=some (.int (l.getD i 0:Nat)):=by
 have o:=Gz;exact Do (by rw[Ao];omega) (by rw[AE,Es (d:=0) h];rfl)
theorem IW (h:i<5):DS (AB Df) (.int (i:Nat))=some (.str (nm i)):=by
 have k:=Gz;exact Do (by show 5<=Bi;omega) (by rw[AE,Es (l:=Df) (d:="") h];rfl)
theorem v4 (o:GW w h C k mg mb)(s:Cg k A)(B:Ip w h 181 z N)(E:a.length=8):MB w h A z N (exec (Cx 4) z) (Y4 a) (.next (AM (Y4 a) "spots" (.aa (BJ (Ld a))))):=by
 have H:=Gz;have e:BJ (Ld a)=.list [.int 0,.int 1,.int 2,.int 3,.int 4,.int ((a.getD 7 0).fmod 5)]:=by
  unfold BJ Ld sp5;rw[GL {_}];have:(((bS a 7%5).toNat:Nat):Int)=a.getD 7 0%5:=Int.toNat_of_nonneg (by unfold bS;omega);simp only[AL,GY,this];rfl
 rw[e]
 conv in Cx 4=>whnf
 exact AW o s B (.list (.cons .int (.cons .int (.cons .int (.cons .int (.cons .int (.cons (.ai (.aj (b:=AH a) (.aa ⋯) .int rfl (FZ (i:=7) ∅ ∅)) .int (Lo {_})) .nil rfl) rfl) rfl) rfl) rfl) rfl) (by show 6<=Bi;omega)) ⋯
theorem v5 (o:GW w h C k mg mb)(s:Cg k A)(B:Ip w h 181 z N)(E:j.length=8):MB w h A z N (exec (Cx 5) z) (Y5 j) (.next (AM (Y5 j) "ports" (.aa (AH (Jo j))))):=by
 have O:=Gz;have e:AH (Jo j)=.list ((j.take 6).map λ x=>PV.int (x%147456-20480)):=by
  obtain⟨a,b,c,d,e,f,g,i,rfl⟩:=gR E;rfl
 have H:CA (AH j) none (some ((6:Nat):Int)) none=some (AH (j.take 6)):=by
  unfold AH;rw[Lf _ _ (by rw[Ao];omega),List.map_take]
 rw[e]
 conv in Cx 5=>whnf
 refine AW o s B (.bd (l:=j.take 6) (g:=PV.int) _ (.ev (d:=AH (j.take 6)) (.slice (b:=AH j) (.aa ⋯) .no (.int .int) .no H) ⋯ rfl rfl) ⋯ ⋯ (λ x Q=>?_) (by rw[FO];omega)) ⋯;refine⟨[("number",.aa (.int x))],⋯,?_⟩;rw[<-GL {_}];exact .ai (.ai (.aa (d:=.int x) ⋯) .int (Lo {_})) .int (Oy _ _)
theorem v6 (E:GW w h C k mg mb)(H:Cg k A)(B:Ip w h 181 z N)(Q:a.length=8):MB w h A z N (exec (Cx 6) z) (Y6 a) (.next (AM (Y6 a) "last" (.aa (AH (Be a))))):=by
 have V:=Gz;have e:AH (Be a)=.list ((List.range 5).map λ i=>PV.int (B3 a i)):=by unfold AH Be;rw[AG];rfl
 have W:(Jo a).length=6:=by simp[Jo]
 have s:∀i<6,(Jo a).getD i 0=Kz a i:=λ i o=>by
  unfold Jo;rw[Az,AE,Dz o];rfl
 have O:(Ld a).getD 5 0=sp5 a:=rfl;rw[e]
 conv in Cx 6=>whnf
 refine AW E H B (.bd _ (.bj ⋯ .int rfl ∅) ⋯ ⋯ (λ i o=>?_) (by simp;omega)) ⋯;have o:=AD.mp o;refine⟨[("k",.aa (.int (i:Nat))),("spots",.aa (BJ (Ld a))),("ports",.aa (AH (Jo a)))],⋯,?_⟩;unfold B3;refine .fk (c:=decide (((i:Nat):Int)=((sp5 a:Nat):Int))) (.ar (.aa (d:=.int (i:Nat)) ⋯) (.aj (b:=BJ (Ld a)) (.aa ⋯) .int rfl (Ks (i:=5) (by show 5<6;omega) (by show 6<=5000;omega))) rfl rfl (by rw[O];exact R7 _ _)) ?_;by_cases q:i=sp5 a
 ·rw[Bv ∅,Ap rfl,Ap q];have:=FZ (l:=Jo a) (i:=5) ∅ ∅;rw[s 5 ∅] at this;exact .aj (b:=AH (Jo a)) (.aa ⋯) .int rfl this
 ·rw[Bs ∅,Ak (_),Ak q];have:=FZ (l:=Jo a) (i:=i) ∅ ∅;rw[s i ∅] at this;exact .aj (b:=AH (Jo a)) (.aa ⋯) (.aa (d:=.int (i:Nat)) ⋯) rfl this
theorem v7 (s:GW w h C k mg mb)(E:Cg k A)(B:Ip w h 181 z N)(W:a.length=8):MB w h A z N (exec (Cx 7) z) (Y7 a) (.next (AM (Y7 a) "drawn" (.aa (Qd (Tj a))))):=by
 have Z:=Gz;have e:Qd (Tj a)=.list ((List.range 4).map λ i=>BJ (TJ a i)):=by unfold Qd Tj;rw[AG];rfl
 rw[e]
 conv in Cx 7=>whnf
 refine AW s E B (.bd _ (.bj ⋯ .int rfl ∅) ⋯ ⋯ (λ i o=>?_) (by simp;omega)) ⋯;have o:=AD.mp o;refine⟨[("k",.aa (.int (i:Nat))),("numbers",.aa (AH a))],⋯,?_⟩;have H:BJ (TJ a i)=.list ([25,5,1].map λ(u:Nat)=>PV.int (aO a i u:Nat)):=rfl;rw[H];refine .bd (g:=λ(u:Nat)=>PV.int (u:Nat)) _ (.ev (d:=.ay [.int 25,.int 5,.int 1]) (.ay (.cons .int (.cons .int (.cons .int .nil rfl) rfl) rfl) (by show 3<=Bi;omega)) ⋯ rfl rfl) ⋯ ⋯ (λ u O=>?_) (by simp;omega);refine⟨[("unit",.aa (.int (u:Nat))),("k",.aa (.int (i:Nat))),("numbers",.aa (AH a))],⋯,?_⟩;have Q:0<u/\u<100:=by
  simp only[Ag,Ev,OE] at O;omega
 have V:((aO a i u:Nat):Int)=(((a.getD 6 0).fdiv (125^i)).fdiv (u:Nat)).fmod 5:=by
  unfold aO;have p:=(by decide:∀i<4,(0:Int)<=125^i) i o;rw[GL {_},GM ∅,GM p];exact Int.toNat_of_nonneg (by unfold bS;omega)
 have p:=(by decide:∀i<4,(125:Int)^i≠0/\((125:Int)^i).natAbs<1073741824) i o;rw[V];refine .ai (a:=.int (((a.getD 6 0).fdiv (125^i)).fdiv (u:Nat))) (.ai (a:=.int ((a.getD 6 0).fdiv (125^i))) (.ai (.aj (b:=AH a) (.aa ⋯) .int rfl (FZ (i:=6) ∅ ∅)) (.ai .int (.aa (d:=.int (i:Nat)) ⋯) (WI ⟨∅,∅,{_}⟩)) (J9 p)) (.aa (d:=.int (u:Nat)) ⋯) (J9 ⟨∅,∅⟩)) .int (Lo {_})
theorem v8 (Q:GW w h C k mg mb)(V:Cg k A)(B:Ip w h 181 z N):MB w h A z N (exec (Cx 8) z) (Y8 a (Qd (Tj a))) (.next (AM (Y8 a (Qd (Tj a))) "chains" (.aa (Qd (K4 a))))):=by
 have c:=Gz;have e:Qd (K4 a)=.list ((Tj a).map λ o=>BJ (KU o)):=by unfold Qd K4 Tj;rw[AG,AG];rfl
 rw[e]
 conv in Cx 8=>whnf
 refine AW Q V B (.bd (l:=Tj a) (g:=BJ) _ (.ev (d:=Qd (Tj a)) (.aa ⋯) ⋯ rfl rfl) ⋯ ⋯ (λ o s=>?_) (by simp[Tj];omega)) ⋯;obtain⟨i,W,E⟩:=At.mp s;have d:o.length=3:=by rw[<-E];rfl
 clear E W s;refine⟨[("row",.aa (BJ o))],⋯,?_⟩;have Z:BJ (KU o)=.list (((List.range 3).filter λ k=>!((o.take k).any (·==o.getD k 0))).map λ k=>PV.int (o.getD k 0:Nat)):=by unfold BJ KU;rw[AG];rfl
 rw[Z];refine .dj _ _ (.bj ⋯ .int rfl ∅) ⋯ ⋯ (λ j H=>?_) (by simp;omega);have H:=AD.mp H;have b:CA (BJ o) none (some ((j:Nat):Int)) none=some (BJ (o.take j)):=by
  unfold BJ;rw[Lf _ _ (by rw[Ao];omega),List.map_take]
 have O:=Ks (l:=o) (i:=j) ∅ ∅;refine⟨[("k",.aa (.int (j:Nat))),("row",.aa (BJ o))],⋯,.bt (.isIn (.aj (b:=BJ o) (.aa ⋯) (.aa (d:=.int (j:Nat)) ⋯) rfl O) (b:=BJ (o.take j)) (.ev (.slice (b:=BJ o) (.aa ⋯) .no (.int (.aa (d:=.int (j:Nat)) ⋯)) .no b) rfl) rfl rfl ?_),λ _=>.aj (b:=BJ o) (.aa ⋯) (.aa (d:=.int (j:Nat)) ⋯) rfl O⟩;show(Ua _ _).map (!·)=_
 rw[T9];rfl
def Y9 (h:List Int)(k:PV):AC:=[("numbers",.aa (AH h)),("names",.aa (AB Df)),("spots",.aa (BJ (Ld h))),("ports",.aa (AH (Jo h))),("last",.aa (AH (Be h))),("drawn",.aa k),("chains",.aa (Qd (K4 h)))]
def gK (h:List Int):AC:=[("numbers",.aa (AH h)),("names",.aa (AB Df)),("spots",.aa (BJ (Ld h))),("ports",.aa (AH (Jo h))),("last",.aa (AH (Be h))),("chains",.aa (Qd (K4 h))),("pairs",.aa (EU (Di h)))]
def iO (h:List Int):AC:=[("numbers",.aa (AH h)),("names",.aa (AB Df)),("spots",.aa (BJ (Ld h))),("ports",.aa (AH (Jo h))),("last",.aa (AH (Be h))),("pairs",.aa (EU (Di h))),("wished",.aa (Mv (IS h)))]
def gJ (h:List Int):AC:=[("numbers",.aa (AH h)),("names",.aa (AB Df)),("spots",.aa (BJ (Ld h))),("ports",.aa (AH (Jo h))),("last",.aa (AH (Be h))),("pairs",.aa (EU (Di h))),("wished",.aa (Mv (IS h))),("odd",.aa (Mv OF))]
def eB (h:List Int):AC:=[("names",.aa (AB Df)),("spots",.aa (BJ (Ld h))),("ports",.aa (AH (Jo h))),("last",.aa (AH (Be h))),("pairs",.aa (EU (Di h))),("wished",.aa (Mv (IS h))),("spoiled",.aa (Mv (K3 h)))]
theorem WN (h:l.length<=3):De l=(List.range (l.length-1)).map λ k=>(l.getD k 0,l.getD (k+1) 0):=by
 match l,h with
 |[],_=>rfl
 |[a],_=>rfl
 |[a,b],_=>rfl
 |[a,b,c],_=>rfl
theorem ET (l:List Str):DN (l.map PV.str)=some l:=by
 unfold DN;rw[Hz (g:=λ d=>match d with | .str i=>i |_=>"") λ x h=>?_,AG]
 ·congr 1;exact OR l
 ·obtain⟨i,_,rfl⟩:=At.mp h;rfl
theorem KN {c d:Type}(f:c->List d):∀l:List c,(∀a∈l,(f a).length<=m)->(l.flatMap f).length<=m*l.length
 |[],_=>(_)
  |a::l,h=>by
   have o:=KN (m:=m) f l λ b k=>h b (Ad _ k);have s:=h a Ac;rw[Cu,BZ,Cr,Nat.mul_succ];omega
theorem v9 (V:GW w h C k mg mb)(W:Cg k A)(B:Ip w h 181 z N):MB w h A z N (exec (Cx 9) z) (Y9 c d) (.next (AM (Y9 c d) "pairs" (.aa (EU (Di c))))):=by
 have g:=Gz;have H:∀o∈K4 c,o.length<=3/\1<=o.length:=λ o s=>⟨(ZC (Ij s)).l3,(ZC (Ij s)).l1⟩;have e:EU (Di c)=.list ((K4 c).flatMap λ o=>(List.range (o.length-1)).map λ k=>WP (o.getD k 0,o.getD (k+1) 0)):=by
  unfold EU Di DA;rw[List.map_flatMap];congr 1;have:∀l:List (List Nat),(∀o∈l,o.length<=3)->(l.flatMap λ o=>(De o).map WP)=l.flatMap λ o=>(List.range (o.length-1)).map λ k=>WP (o.getD k 0,o.getD (k+1) 0):=by
   intro l;induction l with
   |nil=>intro _;rfl
   |cons a l Z=>
    intro O;rw[Cu,Cu,Z λ b N=>O b (Ad _ N),WN (O a Ac),AG];rfl
  exact this _ λ o s=>(H o s).1
 have m:(K4 c).length=4:=by simp[K4]
 have f:((K4 c).flatMap λ o=>(List.range (o.length-1)).map λ k=>WP (o.getD k 0,o.getD (k+1) 0)).length<=Bi:=by
  have:=KN (m:=3) (λ o:List Nat=>(List.range (o.length-1)).map λ k=>WP (o.getD k 0,o.getD (k+1) 0)) (K4 c) λ o s=>by
   have:=(H o s).1;simp;omega
  omega
 rw[e];generalize K4 c=E at*
 conv in Cx 9=>whnf
 refine AW V W B (.da (l:=E) (g:=BJ) (g2:=λ(i:Nat)=>PV.int (i:Nat)) (λ o=>List.range (o.length-1)) (λ o k=>WP (o.getD k 0,o.getD (k+1) 0)) (.ev (d:=Qd E) (.aa ?_) ⋯ rfl rfl) ⋯ ⋯ (λ o s=>?_) f) ⋯
 ·kernel_rfl
 ·obtain⟨p,q⟩:=H o s;refine⟨[("row",.aa (BJ o))],⋯,.bj ⋯ (.ai (a:=.int (o.length:Nat)) (.bx (b:=.len) (ds:=[BJ o]) ⋯ ⋯ (.cons (.aa (d:=BJ o) ⋯) .nil rfl) (_) (by show some (PV.int ((o.map λ n=>PV.int (n:Nat)).length:Nat))=_;rw[Ao])) .int ?_) rfl ∅,⋯,λ j Q=>?_⟩
  ·rw[Oy];congr 2;omega
  ·have Q:=AD.mp Q;refine⟨[("k",.aa (.int (j:Nat))),("row",.aa (BJ o))],⋯,.ay (.cons (.aj (b:=BJ o) (.aa ⋯) (.aa (d:=.int (j:Nat)) ⋯) rfl (Ks ∅ ∅)) (.cons (.aj (b:=BJ o) (.aa ⋯) (.ai (b:=.int 1) (d:=.int ((j+1:Nat):Int)) (.aa (d:=.int (j:Nat)) ⋯) .int (V0 _ _)) rfl (Ks ∅ ∅)) .nil rfl) rfl) (by show 2<=Bi;omega)⟩
theorem jC (E:GW w h C k mg mb)(H:Cg k A)(B:Ip w h 181 z N):MB w h A z N (exec (Cx 10) z) (gK a) (.next (AM (gK a) "wished" (.aa (Mv (IS a))))):=by
 have W:=Gz;have O:∀o∈K4 a,iI o:=λ o s=>ZC (Ij s);have Z:(K4 a).length=4:=by simp[K4]
 have e:Mv (IS a)=.list ((K4 a).map λ o=>AB (LM o)):=by unfold Mv IS;rw[AG];rfl
 rw[e]
 conv in Cx 10=>whnf
 refine AW E H B (.bd (l:=K4 a) (g:=BJ) _ (.ev (d:=Qd (K4 a)) (.aa ⋯) ⋯ rfl rfl) ⋯ ⋯ (λ o s=>?_) ∅) ⋯;have F:=O o s;have b:=F.l3;refine⟨[("row",.aa (BJ o)),("names",.aa (AB Df))],⋯,?_⟩;refine .fk (c:=decide ((1:Int)<(o.length:Nat))) (.ar (a:=.int (o.length:Nat)) (.bx (b:=.len) (ds:=[BJ o]) ⋯ ⋯ (.cons (.aa (d:=BJ o) ⋯) .nil rfl) (_) (by show some (PV.int ((o.map λ n=>PV.int (n:Nat)).length:Nat))=_;rw[Ao])) .int rfl rfl (by rfl)) ?_;unfold LM;by_cases q:1<o.length
 ·rw[Bv ∅,Ap rfl,Ap q];refine .list (.cons (.cg (mf:=.join) (b:=.str "/") (ds:=[AB (o.map nm)]) ⋯ ⋯ ⋯ (.ae ⋯) (.cons ?_ .nil rfl) (_) ?_) .nil rfl) (by show 1<=Bi;omega)
  ·have Q:AB (o.map nm)=.list (o.map λ i=>PV.str (nm i)):=by unfold AB;rw[AG];rfl
   rw[Q];refine .bd (l:=o) (g:=λ(i:Nat)=>PV.int (i:Nat)) _ (.ev (d:=BJ o) (.aa ⋯) ⋯ rfl rfl) ⋯ ⋯ (λ i V=>?_) ∅;exact⟨[("k",.aa (.int (i:Nat))),("names",.aa (AB Df))],⋯,.aj (b:=AB Df) (.aa ⋯) (.aa (d:=.int (i:Nat)) ⋯) rfl (IW (F.lt i V))⟩
  ·show(DN ((o.map nm).map PV.str)).bind _=_;rw[ET];show(if(JoinOk "/" (o.map nm)&&Ix (Fw o))=true then some (PV.str (Fw o)) else none)=_;rw[F.jok q,F.oks q];rfl
 ·rw[Bs ∅,Ak (_),Ak q];exact .list .nil (by show 0<=Bi;omega)
theorem jB (s:GW w h C k mg mb)(E:Cg k A)(B:Ip w h 181 z N):MB w h A z N (exec (Cx 11) z) O (.next (AM O "odd" (.aa (Mv OF)))):=by
 have Q:=Gz;have o:1<=Bi:=∅
 have H:2<=Bi:=∅
 conv in Cx 11=>whnf
 exact AW s E B (.list (.cons (.list (.cons (.ae ⋯) .nil rfl) o) (.cons (.list (.cons (.ae ⋯) .nil rfl) o) (.cons (.list (.cons (.ae ⋯) (.cons (.ae ⋯) .nil rfl) rfl) H) (.cons (.list (.cons (.ae ⋯) .nil rfl) o) .nil rfl) rfl) rfl) rfl) (by show 4<=Bi;omega)) ⋯
theorem jA (s:GW w h C k mg mb)(E:Cg k A)(B:Ip w h 181 z N)(Q:a.length=8):MB w h A z N (exec (Cx 12) z) (gJ a) (.next (AM (gJ a) "spoiled" (.aa (Mv (K3 a))))):=by
 have V:=Gz;have e:Mv (K3 a)=.list ((List.range 4).map λ k=>AB (if Uu a k then OF.getD k [] else[])):=by unfold Mv K3;rw[AG];rfl
 rw[e]
 conv in Cx 12=>whnf
 refine AW s E B (.bd _ (.bj ⋯ .int rfl ∅) ⋯ ⋯ (λ i o=>?_) (by simp;omega)) ⋯;have o:=AD.mp o;refine⟨[("k",.aa (.int (i:Nat))),("numbers",.aa (AH a)),("odd",.aa (Mv OF))],⋯,?_⟩;have p:=(by decide:∀i<4,(2:Int)^i≠0/\((2:Int)^i).natAbs<1073741824/\(0:Int)<=2^i) i o;have H:Uu a i=decide ((((a.getD 7 0).fdiv 5).fdiv (2^i)).fmod 2=1):=by
  unfold Uu;rw[GL {_},GM p.2.2,GM {_}];rfl
 rw[H];refine .fk (c:=decide ((((a.getD 7 0).fdiv 5).fdiv (2^i)).fmod 2=1)) (.ar (a:=.int ((((a.getD 7 0).fdiv 5).fdiv (2^i)).fmod 2)) (.ai (a:=.int (((a.getD 7 0).fdiv 5).fdiv (2^i))) (.ai (a:=.int ((a.getD 7 0).fdiv 5)) (.ai (.aj (b:=AH a) (.aa ⋯) .int rfl (FZ (i:=7) ∅ ∅)) .int (J9 {_})) (.ai .int (.aa (d:=.int (i:Nat)) ⋯) (WI ⟨∅,∅,{_}⟩)) (J9 ⟨p.1,p.2.1⟩)) .int (Lo {_})) .int rfl rfl (R7 _ _)) ?_;generalize decide ((((a.getD 7 0).fdiv 5).fdiv (2^i)).fmod 2=1)=O;cases O with
 |true=>
  rw[Ap rfl,Ap rfl];exact .aj (b:=Mv OF) (.aa ⋯) (.aa (d:=.int (i:Nat)) ⋯) rfl (Do (by show 4<=Bi;omega) (by rw[AE,Es (l:=OF) (d:=[]) o];rfl))
 |false=>
  rw[Ak (_),Ak (_)];exact .list .nil (by show 0<=Bi;omega)
structure LE (w:World)(h:Heap)(A:Around)(env:Env)(hb:Heap):Prop where
 B:Ip w h 181 env hb
 hA:Cg 8 A
 O:V5 (W1 w h) A env hb []
 wr:∀b∈Ay env,Ck (Dq w 181).scope env b
 he:∃n,env=callEnvC (Dq w 181) n 181
structure QP (w:World)(h:Heap)(A:Around)(env:Env)(hb:Heap)(sts:List Stmt)(ρ:AC):Prop where
 go:∀(s:Shared)(Q:Flow->Shared->Prop)(E:JD),XS (W1 w h) (Dq w 181).scope env hb (Ay env) (Ay env) s ρ->(∀h' tk,A8 (W1 w h) hb h'->s.toks<=tk->Q (.ret (.bool true)) #[s,h',tk])->wpAny (W1 w h).M A (execs sts env) Q E s
section
theorem E1 {r:List Stmt}{st:Stmt}{a:AC}(c:MB w h A z N (exec st z) O (.next a))(d:QP w h A z N r a):QP w h A z N (st::r) O:=.mk λ s Q E S e=>
 Al (c.go _ _ s _ _ S λ C k H f V=>d.go #[s,C,k] Q E H λ W o b Z=>e W o b (Ab V Z))
theorem IV (e:a=Ci b O)(k:QP w h A z N r a):QP w h A z N r O:=.mk λ s Q E S o=>k.go s Q E (S.ap (e▸Dg)) o
theorem bA {r:List Stmt}{st:Stmt}(V:MB w h A z N (exec st z) O (.ret (.bool true))):QP w h A z N (st::r) O:=.mk λ s Q E S W=>
 Al (V.go _ _ s _ _ S λ v o k H C Z=>by cases Z;exact W o k H C)
theorem XF (o:(fd.scope.names.map (·.1)).Nodup)(n a:Nat):∀b∈Ay (callEnvC fd n a),Ck fd.scope (callEnvC fd n a) b:=λ b w=>by
 rcases Ag.mp w with q |q
 ·exact .inl q
 ·obtain⟨⟨x,c⟩,z,rfl⟩:=At.mp q;have s:(callEnvC fd n a).cells.lookup x=some c:=FY fd.scope.names (n+1) [] o (λ p k=>nomatch k) (λ p k=>nomatch k) (x,c) z;refine .inr ⟨x,?_,s⟩;cases e:decide (fd.scope.names.lookup x=some .cell) with
  |true=>simpa using e
  |false=>
   have A:fd.scope.names.lookup x≠some .cell:=by simpa using e
   have:=(Cp x fd.scope.names (n+1) [] o).1 A;have h:(cellsFrom (n+1) fd.scope.names []).lookup x=some c:=s;rw[this] at h;cases h
def WR (h:AC):Bool:=h.all λ p=>match p.2 with | .own _=>false |_=>true
theorem Jt (k:WR O=true):∀y d,O.lookup y≠some (.own d):=λ y d q=>by
 have:∀l:AC,WR l=true->l.lookup y=some (.own d)->False:=by
  intro l;induction l with
  |nil=>intro _ q;cases q
  |cons p l o=>
   intro h q;obtain⟨x,s⟩:=p;unfold WR at h;rw[Dd,Ah] at h;rw[LF] at q;split at q
   ·cases q;exact absurd h.1 (_)
   ·exact o h.2 q
 exact this O k q
theorem t0 (s:GW w h C k mg mb)(L:LE w h A z N)(b:k<=8)(c:a.length<=Bi)(d:QP w h A z N r (eB (Mc (a.take 60)))):
 QP w h A z N (Cx 0::Cx 1::Cx 2::Cx 3::Cx 4::Cx 5::Cx 6::Cx 7::Cx 8::Cx 9::Cx 10::Cx 11::Cx 12::r) (Y0 a):=by
 have E:=L.hA.ag b;have B:=L.B;have e:(a.take 60).length<=100:=by rw[FO];omega
 refine E1 (v0 s E B c) (E1 (v1 s E B) ?_);have H:=WO (a.take 60);generalize a.take 60=O at*;have f:Y2 a O=Ci ["script","taken","own"] (AM (AM (Y0 a) "taken" (.aa (AH O))) "own" (.aa (AH U8))):=⋯
 refine IV f (E1 (v2 s E B e) ?_);generalize Mc O=o at*;refine E1 (v3 s E B) ?_;have g:Y4 o=Ci ["numbers","names"] (AM (AM (Y2 a O) "numbers" (.aa (AH o))) "names" (.aa (AB Df))):=⋯
 refine IV g (E1 (v4 s E B H) ?_);have i:Y5 o=Ci ["numbers","names","spots"] (AM (Y4 o) "spots" (.aa (BJ (Ld o)))):=⋯
 refine IV i (E1 (v5 s E B H) ?_);have j:Y6 o=Ci ["numbers","names","spots","ports"] (AM (Y5 o) "ports" (.aa (AH (Jo o)))):=⋯
 refine IV j (E1 (v6 s E B H) ?_);have l:Y7 o=Ci ["numbers","names","spots","ports","last"] (AM (Y6 o) "last" (.aa (AH (Be o)))):=⋯
 refine IV l (E1 (v7 s E B H) ?_);have m:Y8 o (Qd (Tj o))=Ci ["numbers","names","spots","ports","last","drawn"] (AM (Y7 o) "drawn" (.aa (Qd (Tj o)))):=⋯
 refine IV m (E1 (v8 s E B) ?_);have n:Y9 o (Qd (Tj o))=Ci ["numbers","names","spots","ports","last","drawn","chains"] (AM (Y8 o (Qd (Tj o))) "chains" (.aa (Qd (K4 o)))):=⋯
 refine IV n (E1 (v9 s E B) ?_);have Q:gK o=Ci ["numbers","names","spots","ports","last","chains","pairs"] (AM (Y9 o (Qd (Tj o))) "pairs" (.aa (EU (Di o)))):=⋯
 refine IV Q (E1 (jC s E B) ?_);have V:iO o=Ci ["numbers","names","spots","ports","last","pairs","wished"] (AM (gK o) "wished" (.aa (Mv (IS o)))):=⋯
 refine IV V (E1 (jB s E B) ?_);have W:gJ o=Ci ["numbers","names","spots","ports","last","pairs","wished","odd"] (AM (iO o) "odd" (.aa (Mv OF))):=⋯
 refine IV W (E1 (jA s E B H) ?_);have Z:eB o=Ci ["names","spots","ports","last","pairs","wished","spoiled"] (AM (gJ o) "spoiled" (.aa (Mv (K3 o)))):=⋯
 exact IV Z d
end
def Us (h:List Int):List (Str×PV):=(List.range 6).foldl (Kd (Ld h) (Jo h)) []
def JS (h:List Int):List (Str×PV):=(List.range 5).map λ k=>(nm k,Cv (B3 h k))
theorem Ur:Us a=JS a:=by
 have k:= @Wo a;unfold Us JS Kd;have h:∀i<6,(Jo a).getD i 0=Kz a i:=λ i o=>by
  unfold Jo;rw[Az,AE,Dz o];rfl
 show[0,1,2,3,4,5].foldl (λ w p=>DZ w (nm ((Ld a).getD p 0)) (Cv ((Jo a).getD p 0))) []=[0,1,2,3,4].map _;simp only[E0,List.foldl_nil,AL,GY,h 0 ∅,h 1 ∅,h 2 ∅,h 3 ∅,h 4 ∅,h 5 ∅];unfold Ld B3;generalize Kz a 0=z;generalize Kz a 1=A;generalize Kz a 2=C;generalize Kz a 3=E;generalize Kz a 4=H;generalize Kz a 5=N;generalize sp5 a=s at*
 match s,k with
 |0,_=>kernel_rfl
 |1,_=>kernel_rfl
 |2,_=>kernel_rfl
 |3,_=>kernel_rfl
 |4,_=>kernel_rfl
theorem VU:MT (Us a) (JS a)=some true:=by
 rw[Ur];have h:∀i:Int,J8 (Cv i) (Cv i)=some true:=λ i=>by
  show some (PyData.eqv (ER (Cv i)) (ER (Cv i)))=_;show some (decide (("peer":Str)="peer")&&((i==i)&&true))=_;simp
 unfold MT JS;have:KJ ((List.range 5).map λ k=>(nm k,Cv (B3 a k))) ((List.range 5).map λ k=>(nm k,Cv (B3 a k)))=some true:=by
  generalize B3 a=f;show KJ [(nm 0,Cv (f 0)),(nm 1,Cv (f 1)),(nm 2,Cv (f 2)),(nm 3,Cv (f 3)),(nm 4,Cv (f 4))] [(nm 0,Cv (f 0)),(nm 1,Cv (f 1)),(nm 2,Cv (f 2)),(nm 3,Cv (f 3)),(nm 4,Cv (f 4))]=_;generalize f 0=s;generalize f 1=w;generalize f 2=z;generalize f 3=A;generalize f 4=C;have step:∀(o:List (Str×PV))(n:Str)(d:PV)(r:List (Str×PV))(e:Str×PV),o.find? (λ e=>e.1=n)=some e->J8 d e.2=some true->KJ o r=some true->KJ o ((n,d)::r)=some true:=λ o n d r e E H N=>by
   unfold KJ;rw[E];show(J8 d e.2).bind _=_;rw[H,N];rfl
  refine step _ _ _ _ (nm 0,Cv s) ⋯ (h s) (step _ _ _ _ (nm 1,Cv w) ⋯ (h w) (step _ _ _ _ (nm 2,Cv z) ⋯ (h z) (step _ _ _ _ (nm 3,Cv A) ⋯ (h A) (step _ _ _ _ (nm 4,Cv C) ⋯ (h C) rfl))))
 rw[this];simp
theorem TV:∀{k:List PV},(∀x∈k,Pf (n+1) x=true)->lvlL (n+1) k=true
 |[],_=>rfl
  |x::k,h=>by
   show(Pf (n+1) x&&lvlL (n+1) k)=true;rw[h x Ac,TV λ y o=>h y (Ad _ o)];rfl
theorem Pv:∀{k:List PV},(∀x∈k,PyData.eqv (ER x) (ER x)=true)->PyData.eqvAll (toPyL k) (toPyL k)=true
 |[],_=>by unfold toPyL PyData.eqvAll;rfl
  |x::k,h=>by
   rw[toPyL,PyData.eqvAll,h x Ac,Pv λ y o=>h y (Ad _ o)];rfl
theorem R6 (h:∀x∈a,PyData.eqv (ER x) (ER x)=true):PyData.eqv (ER (.list a)) (ER (.list a))=true:=by
 show PyData.eqv (.list (toPyL a)) (.list (toPyL a))=true;rw[PyData.eqv];exact Pv h
theorem Qz (h:∀x∈a,Pf 5 x=true)(k:∀x∈a,PyData.eqv (ER x) (ER x)=true):J8 (.list a) (.list a)=some true:=by
 unfold J8;have:Pf 6 (.list a)=true:=TV h;rw[this,Ap (show(true&&true)=true from rfl),R6 k]
theorem R5 (x:Str):PyData.eqv (ER (.str x)) (ER (.str x))=true:=by
 show decide (x=x)=true;simp
theorem XR (x:Int):PyData.eqv (ER (.int x)) (ER (.int x))=true:=by
 show(x==x)=true;simp
theorem MS (l:List Str):J8 (AB l) (AB l)=some true:=
 Qz (λ x h=>by obtain⟨y,_,rfl⟩:=At.mp h;rfl) λ x h=>by obtain⟨y,_,rfl⟩:=At.mp h;exact R5 y
theorem Zs (l:List Int):J8 (AH l) (AH l)=some true:=
 Qz (λ x h=>by obtain⟨y,_,rfl⟩:=At.mp h;rfl) λ x h=>by obtain⟨y,_,rfl⟩:=At.mp h;exact XR y
theorem Um (l:List (List Str)):J8 (.list (BB l)) (.list (BB l))=some true:=
 Qz (λ x h=>by obtain⟨y,_,rfl⟩:=At.mp h;exact KD 3 y) λ x h=>by
  obtain⟨y,_,rfl⟩:=At.mp h;exact R6 λ z k=>by obtain⟨u,_,rfl⟩:=At.mp k;exact R5 u
def YJ (h:List Int):List Str:="no 226 all told"::(K3 h).flatten
def Kr (h:List Int):PV:=.ay [.dict (JS h),AB (IS h).flatten,AB (YJ h)]
def iH (h:List Int)(t:Addr):AC:=[("names",.aa (AB Df)),("spots",.aa (BJ (Ld h))),("ports",.aa (AH (Jo h))),("last",.aa (AH (Be h))),("pairs",.aa (EU (Di h))),("wished",.aa (Mv (IS h))),("spoiled",.aa (Mv (K3 h))),("told",.al (.ref t))]
def gI (h:List Int)(t:Addr):AC:=[("names",.aa (AB Df)),("spots",.aa (BJ (Ld h))),("ports",.aa (AH (Jo h))),("last",.aa (AH (Be h))),("pairs",.aa (EU (Di h))),("wished",.aa (Mv (IS h))),("spoiled",.aa (Mv (K3 h))),("told",.al (.ref t)),("refused",.aa (AB (YJ h)))]
def gH (h:List Int):AC:=[("names",.aa (AB Df)),("last",.aa (AH (Be h))),("pairs",.aa (EU (Di h))),("told",.aa (Kr h))]
theorem Jv (l:List (List Str)):(l.flatMap λ h=>h.map PV.str)=l.flatten.map PV.str:=by
 rw[List.map_flatten,List.flatMap_def]
theorem X2:OJ ((List.range 5).map λ k=>(nm k,Cv (B3 a k)))=JS a:=by
 unfold JS;generalize B3 a=f;show OJ [(nm 0,Cv (f 0)),(nm 1,Cv (f 1)),(nm 2,Cv (f 2)),(nm 3,Cv (f 3)),(nm 4,Cv (f 4))]=[(nm 0,Cv (f 0)),(nm 1,Cv (f 1)),(nm 2,Cv (f 2)),(nm 3,Cv (f 3)),(nm 4,Cv (f 4))];generalize f 0=h;generalize f 1=o;generalize f 2=s;generalize f 3=w;generalize f 4=z;kernel_rfl
theorem Sy:(IS a).flatten.length<=4:=by
 have:=KN (m:=1) (λ l:List Str=>l) (IS a) λ l h=>((@Hu a).tk.jn l h).1;have k:(IS a).length=4:=(@Hu a).tk.ip;rw[List.flatMap_def,List.map_id'] at this;omega
theorem bF:(K3 a).flatten.length<=36:=by
 have:=KN (m:=9) (λ l:List Str=>l) (K3 a) λ l h=>(@Hu a).tk.jo l h;have k:(K3 a).length=4:=(@Hu a).tk.iu;rw[List.flatMap_def,List.map_id'] at this;omega
theorem iZ (s:GW w h C k mg mb)(E:Cg k A)(B:Ip w h 181 z N):MB w h A z N (exec (Cx 14) z) (iH a t) (.next (gI a t)):=by
 have H:=Gz;have O:= @bF a;have e:gI a t=Ci ["names","spots","ports","last","pairs","wished","spoiled","told","refused"] (AM (iH a t) "refused" (.aa (.list ([.str "no 226 all told"]++(K3 a).flatten.map .str)))):=⋯
 refine EN e ?_
 conv in Cx 14=>whnf
 refine AW s E B (.ai (a:=.list [.str "no 226 all told"]) (b:=.list ((K3 a).flatten.map .str)) (.list (.cons (.ae ⋯) .nil rfl) (by show 1<=Bi;omega)) (by
  rw[<-Jv];refine .da (l:=K3 a) (g:=AB) (g2:=PV.str) (λ o=>o) (λ _ t=>.str t) (.ev (d:=Mv (K3 a)) (.aa ⋯) ⋯ rfl rfl) ⋯ ⋯ (λ o Q=>?_) (by rw[Jv,Ao];omega);exact⟨[("part",.aa (AB o))],⋯,.ev (d:=AB o) (.aa ⋯) ⋯ rfl rfl,⋯,λ t V=>⟨[("text",.aa (.str t)),("part",.aa (AB o))],⋯,.aa ⋯⟩⟩) ?_) ⋯
 show(if[PV.str "no 226 all told"].length+((K3 a).flatten.map PV.str).length<=Bi then some (PV.list ([.str "no 226 all told"]++(K3 a).flatten.map .str)) else none)=_;rw[Ap (by rw[Ao];show 1+_<=Bi;omega)]
theorem Yx:(CL D).fn "_law_talk"=some (G6 (TC D.sp D.po D.wi D.so) (.list (OV D.sp D.po D.wi D.so))):=by
 show Uj D "_law_talk"=_;unfold Uj;rw[Ak {_},Ak {_},Ak {_},Ak {_},Ap rfl]
theorem J4 (a:List PV)(r:PV):G6 a r a=some r:=by unfold G6;rw[Ap rfl]
theorem t1 (I:Hb w h)(T:DB c g mg mb h)(p:Ir)(L:LE w h A z N)(b0:QP w h A z N r (gH a)):QP w h A z N (Cx 13::Cx 14::Cx 15::r) (eB a):=.mk λ s Q E S hQ=>by
 have b1:=Gz;have Gk:Dh (W1 w h) (CL (Gb a)) 2 mg mb:=dZ (k:=0) I T p Hu;obtain⟨f,f0,f1,f2⟩:=(Ww (k:=1) (D:=Gb a) (ns:=a) I T p).fn;have fo:=XI I T;rw[S6] at fo;have u:∀y d,(eB a).lookup y≠some (.own d):=Jt ⋯;have tv:∀v B p3 p4 p5 p6 p7,CJ (CL (Gb a)) (Dq w 181).scope (eB a) (.Call (.Name "_law_talk" v) [.Name "names" B,.Name "spots" p3,.Name "ports" p4,.Name "wished" p5,.Name "spoiled" p6] [] p7) (.list (OV (Ld a) (Jo a) (IS a) (K3 a))):=λ v B p3 p4 p5 p6 p7=>
  .fn ⋯ ⋯ Yx (.cons (.aa (d:=AB Df) ⋯) (.cons (.aa (d:=BJ (Ld a)) ⋯) (.cons (.aa (d:=AH (Jo a)) ⋯) (.cons (.aa (d:=Mv (IS a)) ⋯) (.cons (.aa (d:=Mv (K3 a)) ⋯) .nil rfl) rfl) rfl) rfl) rfl) (_) (J4 _ _)
 conv in Cx 13=>whnf
 obtain⟨m,hm⟩:=tv _ _ _ _ _ _ _;refine Al (UN Gk L.B L.O S u L.wr (eN I T) ((C9 I T _).trans ⋯) fo Zi ((C9 I T _).trans ⋯) (XO I T) (aN I T) {_} (L.hA.ag ∅) (hm m (Am _)) rfl (n:=5) (es:=λ i=>(f i).1) (hs:=λ i=>(f i).2.1) (ss:=λ i=>(f i).2.2) (by rw[f0]) (by rw[f0]) (by rw[f0]) (λ i x e=>f2 i x e) ⋯ ⋯ ⋯ λ O W D t nt v1 v2 V hD G hT v B pD J=>?_);simp only[f1] at v B pD;have eY:AM (eB a) "told" (.al (.ref t))=iH a t:=⋯
 rw[eY] at V;have M:D∉Ay z:=λ q=>by
  obtain⟨o,ho⟩:=S.F.ah D q;rw[hD] at ho;cases ho
 have a6:¬Ck (Dq w 181).scope z D:=λ q=>M (S.F.bo q);refine Al ((iZ Gk (L.hA.ag ∅) L.B).go _ _ #[s,O,W] _ _ V λ H Z R kd U=>?_);have a7:H.get? t=some (JI #[.ref D,v1,v2] nt):=kd t _ (.inl ⟨G,.inr (.inl rfl)⟩) hT;have Y:∀b o,O.get? b=some o->b∉D::Ay z->(o.cls=.type "list"\/o.cls=.type "tuple"\/o.cls=.type "dict")->H.get? b=some o/\b∉D::Ay z:=λ b o e n hd=>⟨kd b o (.inl ⟨n,hd⟩) e,n⟩;have re:CJ (CL (Gb a)) (Dq w 181).scope (gI a t) (match Cx 15 with | .If (.Compare _ _ [re] _) _ _ _=>re |_=>default) (.ay [.dict (JS a),AB (IS a).flatten,AB (YJ a)]):=by
  have wl:= @Sy a
  conv in Cx 15=>whnf
  show CJ _ _ _ (.Tuple _ _ _) _;refine .ay (.cons (by
   rw[<-X2];refine .cz (λ k=>nm k) (λ k=>Cv (B3 a k)) (.bj ⋯ .int rfl ∅) ⋯ ⋯ (λ i hi=>?_) (by simp;omega);have hi:=AD.mp hi;have la:(Be a).getD i 0=B3 a i:=by
    unfold Be;rw[Az,AE,Dz hi];rfl
   have sl:=FZ (l:=Be a) (i:=i) (by simp[Be];omega) (by simp[Be]);rw[la] at sl;exact⟨[("k",.aa (.int (i:Nat))),("names",.aa (AB Df)),("last",.aa (AH (Be a)))],⋯,.aj (b:=AB Df) (.aa ⋯) (.aa (d:=.int (i:Nat)) ⋯) rfl (IW hi),.ay (.cons (.ae ⋯) (.cons (.aj (b:=AH (Be a)) (.aa ⋯) (.aa (d:=.int (i:Nat)) ⋯) rfl sl) .nil rfl) rfl) (by show 2<=Bi;omega)⟩) (.cons (by
   show CJ _ _ _ _ (.list _);rw[<-Jv];refine .da (l:=IS a) (g:=AB) (g2:=PV.str) (λ C=>C) (λ _ t=>.str t) (.ev (d:=Mv (IS a)) (.aa ⋯) ⋯ rfl rfl) ⋯ ⋯ (λ C hp=>?_) (by rw[Jv,Ao];omega);exact⟨[("part",.aa (AB C))],⋯,.ev (d:=AB C) (.aa ⋯) ⋯ rfl rfl,⋯,λ t ht=>⟨[("text",.aa (.str t)),("part",.aa (AB C))],⋯,.aa ⋯⟩⟩) (.cons (.aa ⋯) .nil rfl) rfl) rfl) (by show 3<=Bi;omega)
 obtain⟨m2,a0⟩:=re
 conv at a0 in Cx 15=>whnf
 conv in Cx 15=>whnf
 have bs:= @VU a;refine Al (Zh (s:=#[s,H,Z]) Gk (L.hA.ag ∅) L.B R (x:="told") ⋯ (Jt ⋯) (λ _ h=>h) (λ _ h=>h) M G a7 (Rp.bc Y v) (Rp.bc Y B) (BX.af kd Ac a6 pD) (a0 m2 (Am _)) rfl bs (MS _) (MS _) λ a1 j a2 a3=>?_);have a8:gH a=Ci ["names","last","pairs","told"] (AM (gI a t) "told" (.aa (.ay [.dict (Us a),.list ((IS a).flatten.map .str),.list (.str "no 226 all told"::(K3 a).flatten.map .str)]))):=by
  rw[Ur];kernel_rfl
 refine b0.go #[s,a1,j] Q E (a2.ap (by rw[a8];exact Dg)) λ a4 l a9 a5=>hQ a4 l a9 (Ab J (Ab U (Ab a3 a5)))
theorem Q6 (l:List Nat)(h:1<=l.length):Txt.slice (A5 l) (some ((1:Nat):Int)) none=A5 (l.drop 1):=by
 have:=Le l (i:=1) (j:=l.length) h;rw[Cq (by rw[LH];exact Am _)] at this;rw[<-this];have e:strSliceIndices (some ((1:Nat):Int)) none 1 (A5 l).length=strSliceIndices (some ((1:Nat):Int)) (some (l.length:Int)) 1 (A5 l).length:=by
  rw[B1];have k:max (0:Int) (min (l.length:Int) (l.length:Int))=l.length:=∅
  simp only[strSliceIndices,show((1:Int)>0)=True from by simp,A0,show ¬((l.length:Int)<0) by omega,AS,k]
 unfold Txt.slice;rw[e]
theorem X4 (c:Nat):∀l:List Nat,cnt c l<=l.length
 |[]=>by rw[cnt_nil];simp
  |n::l=>by
   have:=X4 c l;rw[cnt_cons,Cr];split<;>omega
theorem Rt (m:Int):(Fy m).length=10:=by
 unfold Fy Kq eI;rfl
theorem Vw (m:Int):0<=OH m:=by
 unfold OH;rw[Q6 _ (by rw[Rt];omega)];have e:("-":Str)=⟨#[45]⟩:=⋯
 rw[e,count_cnt];have:=X4 45 (A5 ((Fy m).drop 1)).cps.toList;have l:(A5 ((Fy m).drop 1)).cps.toList.length=9:=by
  show((Fy m).drop 1).toArray.toList.length=9;rw[List.toList_toArray,LH,Rt]
 omega
theorem QC (a b:PV):IG .NotEq a b=(J8 a b).map (!·):=rfl
def EW (f:Nat->PV):List (Str×PV):=(List.range 5).map λ k=>(nm k,f k)
theorem fL (f:Nat->PV):OJ (EW f)=EW f:=by
 show OJ [(nm 0,f 0),(nm 1,f 1),(nm 2,f 2),(nm 3,f 3),(nm 4,f 4)]=[(nm 0,f 0),(nm 1,f 1),(nm 2,f 2),(nm 3,f 3),(nm 4,f 4)];generalize f 0=h;generalize f 1=k;generalize f 2=o;generalize f 3=s;generalize f 4=w;kernel_rfl
theorem Wh (f:Nat->PV)(h:i<5):DS (.dict (EW f)) (.str (nm i))=some (f i):=by
 show DS (.dict [(nm 0,f 0),(nm 1,f 1),(nm 2,f 2),(nm 3,f 3),(nm 4,f 4)]) _=_
 match i,h with
 |0,_=>kernel_rfl
 |1,_=>kernel_rfl
 |2,_=>kernel_rfl
 |3,_=>kernel_rfl
 |4,_=>kernel_rfl
def FD (h:List Int):List Str:=(Be h).map λ m=>A5 (Fy m)
def Fk (h:List Int)(k:Nat):PV:=.int (OH (B3 h k))
def EJ (h:List Int)(k:Nat):PV:=.int (B3 h k/4096)
def iG (h:List Int):AC:=[("names",.aa (AB Df)),("last",.aa (AH (Be h))),("pairs",.aa (EU (Di h))),("told",.aa (Kr h)),("modes",.aa (AH (Be h)))]
def fX (h:List Int):AC:=[("names",.aa (AB Df)),("last",.aa (AH (Be h))),("pairs",.aa (EU (Di h))),("told",.aa (Kr h)),("modes",.aa (AH (Be h))),("signs",.aa (AB (FD h)))]
def iF (h:List Int):AC:=[("names",.aa (AB Df)),("last",.aa (AH (Be h))),("pairs",.aa (EU (Di h))),("told",.aa (Kr h)),("modes",.aa (AH (Be h))),("hours",.aa (.dict (EW (Fk h))))]
def iE (h:List Int):AC:=[("names",.aa (AB Df)),("last",.aa (AH (Be h))),("pairs",.aa (EU (Di h))),("told",.aa (Kr h)),("hours",.aa (.dict (EW (Fk h)))),("dues",.aa (.dict (EW (EJ h))))]
def IC (h:List Int):PV:=FG (JT (I9 h) (JA h) (Di h))
def iD (h:List Int):AC:=[("names",.aa (AB Df)),("pairs",.aa (EU (Di h))),("told",.aa (Kr h)),("hours",.aa (.dict (EW (Fk h)))),("dues",.aa (.dict (EW (EJ h)))),("best",.aa (IC h))]
theorem Wf {a:List Int}{i:Nat}(h:i<5):DS (AH (Be a)) (.int (i:Nat))=some (.int (B3 a i)):=by
 have k:(Be a).getD i 0=B3 a i:=by
  unfold Be;rw[Az,AE,Dz h];rfl
 have o:=FZ (l:=Be a) (i:=i) (by simp[Be];omega) (by simp[Be]);rwa[k] at o
theorem KG:(Be a).length=5:=by simp[Be]
theorem iY (E:GW w h C k mg mb)(H:Cg k A)(B:Ip w h 181 z N):MB w h A z N (exec (Cx 16) z) (gH a) (.next (iG a)):=by
 have Q:=Gz;refine EN (ks:=["names","last","pairs","told","modes"]) (ρ1:=AM (gH a) "modes" (.aa (.list ((List.range 5).map λ i=>.int (B3 a i))))) ⋯ ?_
 conv in Cx 16=>whnf
 refine AW E H B (.bd (l:=List.range 5) (g:=λ i=>.str (nm i)) _ (.ev (d:=AB Df) (.aa ⋯) ⋯ rfl ⋯) ⋯ ⋯ (λ i o=>?_) (by simp;omega)) ⋯;have o:=AD.mp o;have O:DS (.dict (JS a)) (.str (nm i))=some (Cv (B3 a i)):=Wh (λ k=>Cv (B3 a k)) o;refine⟨[("name",.aa (.str (nm i))),("told",.aa (Kr a))],⋯,?_⟩;generalize B3 a i=x at*;unfold Kr;generalize JS a=s at*;exact .aj (b:=Cv x) (.ev (.aj (b:=.dict s) (.ev (.aj (b:=.ay [.dict s,AB (IS a).flatten,AB (YJ a)]) (.aa ⋯) .int rfl ⋯) rfl) (.aa (d:=.str (nm i)) ⋯) rfl O) rfl) .int rfl ⋯
theorem Zl:(CL D).fn "filemode"=some RV:=by
 show Uj D "filemode"=_;unfold Uj;rw[Ak {_},Ak {_},Ak {_},Ap rfl]
theorem RM:(CL D).fn "S_IMODE"=some NC:=by
 show Uj D "S_IMODE"=_;unfold Uj;rw[Ak {_},Ak {_},Ap rfl]
theorem Nu:(CL D).fn "_law_listing"=some KM:=by
 show Uj D "_law_listing"=_;unfold Uj;rw[Ak {_},Ak {_},Ak {_},Ak {_},Ak {_},Ap rfl]
theorem ZS:(CL D).fn "_law_best"=some (G6 [AH D.hrs,AH D.dus,EU D.prs] (FG (JT D.hrs D.dus D.prs))):=by
 show Uj D "_law_best"=_;unfold Uj;rw[Ak {_},Ak {_},Ak {_},Ak {_},Ak {_},Ak {_},Ap rfl]
theorem Wi:(CL D).fn "_law_stuck"=some (G6 [AB Df,OC (Ec D.prs)] (AB (FV (Ec D.prs) 5 Df))):=by
 show Uj D "_law_stuck"=_;unfold Uj;rw[Ak {_},Ak {_},Ak {_},Ak {_},Ak {_},Ak {_},Ak {_},Ap rfl]
theorem Zm (m:Int):RV [.int m]=some (.str (A5 (Fy m))):=by
 show some (PV.str (A5 (Ef m 0 Gf)))=_;rw[VJ]
theorem RN (m:Int):NC [.int m]=some (.int (m%4096)):=by
 show some (PV.int (Builtin.bitAnd m 4095))=_;rw[Yh]
theorem iX (o:Dh (W1 w h) (CL D) k mg mb)(s:Cg k A)(B:Ip w h 181 z N):MB w h A z N (exec (Cx 17) z) (iG a) (.next (fX a)):=by
 have C:=Gz;have E:= @KG a;have e:AB (FD a)=.list ((Be a).map λ m=>.str (A5 (Fy m))):=by unfold AB FD;rw[AG];rfl
 refine EN (ks:=["names","last","pairs","told","modes","signs"]) (ρ1:=AM (iG a) "signs" (.aa (AB (FD a)))) ⋯ ?_;rw[e]
 conv in Cx 17=>whnf
 refine AW o s B (.bd (l:=Be a) (g:=PV.int) _ (.ev (d:=AH (Be a)) (.aa ⋯) ⋯ rfl rfl) ⋯ ⋯ (λ m H=>?_) ∅) ⋯;exact⟨[("mode",.aa (.int m))],⋯,.fn ⋯ ⋯ Zl (.cons (.aa (d:=.int m) ⋯) .nil rfl) (_) (Zm m)⟩
theorem iW (C:Dh (W1 w h) (CL D) k mg mb)(E:Cg k A)(B:Ip w h 181 z N):MB w h A z N (exec (Cx 18) z) (fX a) (.next (fX a)):=by
 have H:=Gz;have O:= @KG a;have e:AB (FD a)=.list ((Be a).map λ m=>.str (A5 (Fy m))):=by unfold AB FD;rw[AG];rfl
 have o:AH ((Be a).map (·%4096))=.list ((Be a).map λ m=>.int (m%4096)):=by unfold AH;rw[AG];rfl
 conv in Cx 18=>whnf
 refine Ey C E B (c:=(false||(false||false))) (.all (.bv (.ar (a:=AB (FD a)) (b:=AB (FD a)) (.aa ⋯) (by
  rw[e];refine .bd (l:=Be a) (g:=PV.int) _ (.ev (d:=AH (Be a)) (.aa ⋯) ⋯ rfl rfl) ⋯ ⋯ (λ m s=>?_) ∅;exact⟨[("port",.aa (.int m))],⋯,.fn ⋯ ⋯ Nu (.cons (.aa (d:=.int m) ⋯) .nil rfl) (_) rfl⟩) rfl rfl (by rw[QC,MS];rfl)) λ _=>.bv (.ar (a:=AH ((Be a).map (·%4096))) (b:=AH ((Be a).map (·%4096))) (by
  rw[o];refine .bd (l:=Be a) (g:=PV.int) _ (.ev (d:=AH (Be a)) (.aa ⋯) ⋯ rfl rfl) ⋯ ⋯ (λ m s=>?_) ∅;exact⟨[("mode",.aa (.int m))],⋯,.fn ⋯ ⋯ RM (.cons (.aa (d:=.int m) ⋯) .nil rfl) (_) (RN m)⟩) (by
  rw[o];refine .bd (l:=Be a) (g:=PV.int) _ (.ev (d:=AH (Be a)) (.aa ⋯) ⋯ rfl rfl) ⋯ ⋯ (λ m s=>?_) ∅;refine⟨[("port",.aa (.int m))],⋯,?_⟩;rw[<-GL {_}];exact .ai (.aa (d:=.int m) ⋯) .int (Lo {_})) rfl rfl (by rw[QC,Zs];rfl)) λ _=>.nil)) ?_
 rw[Ak (_)];exact EA
theorem iV (s:Dh (W1 w h) (CL D) k mg mb)(C:Cg k A)(B:Ip w h 181 z N):MB w h A z N (exec (Cx 19) z) (fX a) (.next (iF a)):=by
 have O:=Gz;have Q:= @KG a;refine EN (ks:=["names","last","pairs","told","modes","hours"]) (ρ1:=AM (fX a) "hours" (.aa (.dict (OJ (EW (Fk a)))))) (by rw[fL];kernel_rfl) ?_
 conv in Cx 19=>whnf
 refine AW s C B (.cz (λ k=>nm k) (Fk a) (.bj ⋯ .int rfl ∅) ⋯ ⋯ (λ i o=>?_) (by simp;omega)) ⋯;have o:=AD.mp o;have E:DS (AB (FD a)) (.int (i:Nat))=some (.str (A5 (Fy (B3 a i)))):=by
  have H:(Be a)[i]? =some (B3 a i):=by
   unfold Be;rw[AE,Dz o];rfl
  refine Do (by unfold FD;rw[Ao,Ao];omega) ?_;unfold FD;rw[AE,AE,H];rfl
 refine⟨[("k",.aa (.int (i:Nat))),("names",.aa (AB Df)),("signs",.aa (AB (FD a)))],⋯,.aj (b:=AB Df) (.aa ⋯) (.aa (d:=.int (i:Nat)) ⋯) rfl (IW o),?_⟩;unfold Fk OH;refine .ai .int (.cg (mf:=.count) (b:=.str (Txt.slice (A5 (Fy (B3 a i))) (some ((1:Nat):Int)) none)) (ds:=[.str "-"]) ⋯ ⋯ ⋯ (.slice (b:=.str (A5 (Fy (B3 a i)))) (.ev (.aj (b:=AB (FD a)) (.aa ⋯) (.aa (d:=.int (i:Nat)) ⋯) rfl E) rfl) (.int .int) .no .no (by show(if(none:Option Int)=none then some (PV.str _) else none)=_;rw[Ap rfl];rfl)) (.cons (.ae ⋯) .nil rfl) (_) rfl) (Oy _ _)
theorem iU (C:Dh (W1 w h) (CL D) k mg mb)(E:Cg k A)(B:Ip w h 181 z N):MB w h A z N (exec (Cx 20) z) (iF a) (.next (iE a)):=by
 have H:=Gz;refine EN (ks:=["names","last","pairs","told","hours","dues"]) (ρ1:=AM (iF a) "dues" (.aa (.dict (OJ (EW (EJ a)))))) (by rw[fL];kernel_rfl) ?_
 conv in Cx 20=>whnf
 refine AW C E B (.cz (λ k=>nm k) (EJ a) (.bj ⋯ .int rfl ∅) ⋯ ⋯ (λ i o=>?_) (by simp;omega)) ⋯;have o:=AD.mp o;have s:= @Wf a i o;refine⟨[("k",.aa (.int (i:Nat))),("names",.aa (AB Df)),("modes",.aa (AH (Be a)))],⋯,.aj (b:=AB Df) (.aa ⋯) (.aa (d:=.int (i:Nat)) ⋯) rfl (IW o),?_⟩;have e:EJ a i=.int ((B3 a i-B3 a i%4096).fdiv 4096):=by
  unfold EJ;generalize B3 a i=x;rw[GM {_}];have:x/4096=(x-x%4096)/4096:=∅
  rw[this]
 rw[e];exact .ai (a:=.int (B3 a i-B3 a i%4096)) (.ai (a:=.int (B3 a i)) (b:=.int (B3 a i%4096)) (.aj (b:=AH (Be a)) (.aa ⋯) (.aa (d:=.int (i:Nat)) ⋯) rfl s) (.fn ⋯ ⋯ RM (.cons (.aj (b:=AH (Be a)) (.aa ⋯) (.aa (d:=.int (i:Nat)) ⋯) rfl s) .nil rfl) (_) (RN _)) (Oy _ _)) .int (J9 {_})
theorem iT (o:Dh (W1 w h) (CL (Gb a)) k mg mb)(s:Cg k A)(B:Ip w h 181 z N):MB w h A z N (exec (Cx 21) z) (iE a) (.next (iD a)):=by
 have O:=Gz;have Q:= @KG a;have C:AH (I9 a)=.list ((Be a).map λ m=>.int (OH m)):=by unfold AH I9;rw[AG];rfl
 have E:AH (JA a)=.list ((Be a).map λ m=>.int (m.fdiv 4096)):=by
  unfold AH JA;rw[AG];congr 1;apply A7;intro m _;show PV.int (m/4096)=_;rw[GM {_}]
 refine EN (ks:=["names","pairs","told","hours","dues","best"]) (ρ1:=AM (iE a) "best" (.aa (IC a))) ⋯ ?_
 conv in Cx 21=>whnf
 refine AW o s B (.fn (ds:=[AH (I9 a),AH (JA a),EU (Di a)]) ⋯ ⋯ ZS (.cons ?_ (.cons ?_ (.cons (.aa ⋯) .nil rfl) rfl) rfl) (_) (J4 _ _)) ⋯
 ·rw[C];refine .bd (l:=Be a) (g:=PV.int) _ (.ev (d:=AH (Be a)) (.aa ⋯) ⋯ rfl rfl) ⋯ ⋯ (λ m H=>?_) ∅;refine⟨[("port",.aa (.int m))],⋯,?_⟩;unfold OH;exact .ai .int (.cg (mf:=.count) (b:=.str (Txt.slice (A5 (Fy m)) (some ((1:Nat):Int)) none)) (ds:=[.str "-"]) ⋯ ⋯ ⋯ (.slice (b:=.str (A5 (Fy m))) (.ev (.fn ⋯ ⋯ Nu (.cons (.aa (d:=.int m) ⋯) .nil rfl) (_) rfl) rfl) (.int .int) .no .no (by show(if(none:Option Int)=none then some (PV.str _) else none)=_;rw[Ap rfl];rfl)) (.cons (.ae ⋯) .nil rfl) (_) rfl) (Oy _ _)
 ·rw[E];refine .bd (l:=Be a) (g:=PV.int) _ (.ev (d:=AH (Be a)) (.aa ⋯) ⋯ rfl rfl) ⋯ ⋯ (λ m H=>?_) ∅;exact⟨[("port",.aa (.int m))],⋯,.ai (.aa (d:=.int m) ⋯) .int (J9 {_})⟩
def Je (h:List Int)(i:Nat):Int:=B3 h i/4096
def W2 (h:List Int)(i j:Nat):Bool:=decide (Je h j-Je h i<0)
def eS (p:List Nat):PV:=AB (p.map nm)
def Yq (h:List Int)(p:List Nat):AC:=[("names",.aa (AB Df)),("pairs",.aa (EU (Di h))),("told",.aa (Kr h)),("hours",.aa (.dict (EW (Fk h)))),("dues",.aa (.dict (EW (EJ h)))),("best",.aa (IC h)),("line",.aa (eS p))]
theorem bW:LB 5 (W2 a):=⟨λ i j _ _ h=>by unfold W2 at*;simp at*;omega,λ i j l _ _ _ k o=>by unfold W2 at*;simp at*;omega⟩
theorem Qp (h:i<5):Df.getD i Str.empty=nm i:=by
 match i,h with
 |0,_=>rfl
 |1,_=>rfl
 |2,_=>rfl
 |3,_=>rfl
 |4,_=>rfl
theorem Xd (I:Hb w h)(T:DB e g mg mb h)(L:LE w h A z N)(o:(f,("law.<locals>.<lambda>":Str))∈aF)(d:∀z,defaultsOf a z=([],[]))(t:Ym a c b ps)(s:(b.names.map (·.1)).Nodup)
 (C:b.names.all (λ p=>!(p.2== .free)||(Dq w 181).scope.names.lookup p.1==some .cell)=true) (E:∀x k,φ.lookup x=some k->b.names.lookup x=some .free/\CC x=true/\O.lookup x=some k/\∃d,k=.aa d):UA (W1 w h) mg (Dq w 181).scope z O a c b f ps φ:=by
 obtain⟨n,rfl⟩:=L.he;refine⟨⟨180,178,aF,"law.<locals>.<lambda>",eV,{_},Ut I T {_},⋯,o,⋯⟩,d _,t,s,λ p H Q=>?_,E⟩;have:=AJ.mp C p H;rw[Q] at this;simpa using this
theorem dA:∃m,∀i j,i<5->j<5->(By (CL D) m).ev KH.2.2.1 ((["one","other"]:List Str).zip [BL.aa (.str (Df.getD i Str.empty)),.aa (.str (Df.getD j Str.empty))]++([("dues",BL.aa (.dict (EW (EJ a))))]:AC)) KH.2.1=some (.int (Je a j-Je a i)):=by
 obtain⟨m,w⟩:=dW (P:=λ k(q:Nat×Nat)=>(By (CL D) k).ev KH.2.2.1 ((["one","other"]:List Str).zip [BL.aa (.str (Df.getD q.1 Str.empty)),.aa (.str (Df.getD q.2 Str.empty))]++([("dues",BL.aa (.dict (EW (EJ a))))]:AC)) KH.2.1=some (.int (Je a q.2-Je a q.1))) (xs:=(List.range 5).flatMap λ i=>(List.range 5).map λ j=>(i,j)) λ q s=>by
  obtain⟨i,h,s⟩:=FN.mp s;obtain⟨j,o,rfl⟩:=At.mp s;have h:=AD.mp h;have o:=AD.mp o;show CJ _ _ _ _ _;rw[Qp h,Qp o]
  conv in KH.2.1=>whnf
  exact .ai (a:=EJ a j) (b:=EJ a i) (.aj (b:=.dict (EW (EJ a))) (.aa ⋯) (.aa (d:=.str (nm j)) ⋯) rfl (Wh _ o)) (.aj (b:=.dict (EW (EJ a))) (.aa ⋯) (.aa (d:=.str (nm i)) ⋯) rfl (Wh _ h)) (Oy _ _)
 exact⟨m,λ i j h o=>w m (Am _) (i,j) (FN.mpr ⟨i,AD.mpr h,At.mpr ⟨j,AD.mpr o,rfl⟩⟩)⟩
theorem Xh:Ym KH.1 KH.2.1 KH.2.2.1 ["one","other"]:=by
 refine⟨⋯,⋯,⋯,?_,?_,{_},λ h k w z A o s=>?_⟩
 ·decide+kernel
 ·decide+kernel
 ·obtain⟨a,b,rfl⟩:=Vi s
  conv in KH.1=>whnf
  rfl
theorem iS (I:Hb w h)(T:DB b c mg mb h)(O:Ir)(L:LE w h A z N)(y:∀p,Gm 5 (W2 a) p->QP w h A z N r (Yq a p)):QP w h A z N (Cx 22::r) (iD a):=.mk λ s Q E S B=>by
 have b1:=Gz;have D:Dh (W1 w h) (CL (Gb a)) 2 mg mb:=dZ (k:=0) I T O Hu;have G:Dh (W1 w h) C0 1 mg mb:=aK I T O;obtain⟨o,J,l,M,R⟩:=(XJ I T).obj;obtain⟨m,U⟩:= @dA (Gb a) a;have Y:=Xh;have hn:(KH.2.2.1.names.map (·.1)).Nodup:={_}
 have fr:KH.2.2.1.names.all (λ p=>!(p.2== .free)||(Dq w 181).scope.names.lookup p.1==some .cell)=true:=⋯
 have n:KH.2.2.1.names.lookup ("dues":Str)=some .free:=⋯
 have hp:(KH.2.2.2,("law.<locals>.<lambda>":Str))∈aF:=Ac
 conv in Cx 22=>whnf
 refine Al (Vh D (L.hA.ag ∅) L.B S (gZ I T G) ((C9 I T _).trans ⋯) ⟨o,_,J,l,M,R⟩ T.nolimit (Xd I T L (ps:=["one","other"]) (φ:=[("dues",.aa (.dict (EW (EJ a))))]) hp (λ _=>rfl) Y hn fr λ x sl g=>?_) rfl (ns:=Df) (y:="names") ⋯ {_} (m:=m) bW (λ i j V hj=>⟨Je a j-Je a i,U i j V hj,rfl⟩) ⋯ ⋯ ⋯ λ p v W C k kd Z=>?_)
 ·rw[GH] at g;split at g
  ·rename_i q;subst q;cases g;exact⟨n,{_},⋯,_,rfl⟩
  ·cases g
 ·have t:∀i∈p,i<5:=λ i V=>AD.mp ((v.1.mem_iff).mp V);have e:(p.map λ i=>Df.getD i Str.empty)=p.map nm:=A7 λ i V=>Qp (t i V);rw[e] at k;have eZ:Yq a p=Ci ["names","pairs","told","hours","dues","best","line"] (AM (iD a) "line" (.aa (.list ((p.map nm).map .str)))):=⋯
  exact(y p v).go #[s,W,C] Q E (k.ap (by rw[eZ];exact Dg)) λ d H u f=>B d H u (Ab Z f)
noncomputable def NQ {b:Type}(k:b->Prop)(g:b->AC)(f:b->List Str)(h:AC):Option (List Str):=Hf none λ o=>∃a,k a/\h=g a/\o=some (f a)
theorem Lv {d:AC}{b:Type}{e:b->Prop}{g:b->AC}{f:b->List Str}{c:List Str}(h:NQ e g f d=some c):∃a,e a/\d=g a/\c=f a:=by
 unfold NQ Hf at h;split at h
 ·rename_i k;obtain⟨a,o,s,w⟩:=k.choose_spec;rw[w] at h;cases h;exact⟨a,o,s,rfl⟩
 ·cases h
theorem QA {c:Type}{d:c->Prop}{g:c->AC}{f:c->List Str}(h:∀a b,g a=g b->a=b){a:c}(k:d a):NQ d g f (g a)=some (f a):=
 FE ⟨a,k,rfl,rfl⟩ λ o ⟨b,z,s,w⟩=>by rw[w,h a b s]
theorem O4 (h:f.length<=5):CA (.list f) none none (some (-1))=some (.list f.reverse):=by
 match f,h with
 |[],_=>kernel_rfl
 |[a],_=>kernel_rfl
 |[a,b],_=>kernel_rfl
 |[a,b,c],_=>kernel_rfl
 |[a,b,c,d],_=>kernel_rfl
 |[a,b,c,d,e],_=>kernel_rfl
def Sh (h:List Int):List (List Nat):=(K4 h).filter λ k=>decide (1<k.length)
def eL (t:Str):Prop:=(Txt.split t "/").all Ix=true/\(Txt.split t "/").length<=5
def Hv (h:List Int)(p:List Nat):List (List Str):=C8 (CP p (Sh h) 31)
theorem ZB (h:a∈Sh b):iI a/\1<a.length:=by
 obtain⟨k,o⟩:=AU.mp h;exact⟨ZC (Ij k),by simpa using o⟩
theorem TL:Di b=DA (Sh b):=by
 unfold Di Sh DA;have:∀l:List (List Nat),l.flatMap De=(l.filter λ h=>decide (1<h.length)).flatMap De:=by
  intro l;induction l with
  |nil=>rfl
  |cons a l k=>
   rw[Cu,k];by_cases q:1<a.length
   ·rw[Dn (by simpa using q),Cu]
   ·rw[CD (by simpa using q)];have:De a=[]:=by
     match a,q with
     |[],_=>rfl
     |[x],_=>rfl
     |x::y::r,q=>exact absurd (_) q
    rw[this,DX]
 exact this _
theorem aS:(IS b).flatten=(Sh b).map Fw:=by
 unfold IS Sh;have:∀l:List (List Nat),(l.map LM).flatten=(l.filter λ h=>decide (1<h.length)).map Fw:=by
  intro l;induction l with
  |nil=>rfl
  |cons a l k=>
   rw[AL,List.flatten_cons,k];by_cases q:1<a.length
   ·rw[Dn (by simpa using q),AL];unfold LM;rw[Ap q];rfl
   ·rw[CD (by simpa using q)];unfold LM;rw[Ak q];rfl
 exact this _
theorem MK (s:∀i∈p,i<5):((p.map nm).map λ n=>[n])++((IS nu).flatten.map λ t=>(Txt.split t "/").reverse)=Hv nu p:=by
 have h:∀i<5,IL 31 i=true:={_}
 unfold Hv C8 CP;rw[aS,BV,AG,AG,AG,AG];congr 1
 ·apply A7;intro i w;show[nm i]=(if IL 31 i then[i] else[]).map nm;rw[Ap (h i (s i w))];rfl
 ·apply A7;intro k o;obtain⟨F,q⟩:=ZB o;show(Txt.split (Fw k) "/").reverse=(k.reverse.filter (IL 31)).map nm;have:k.reverse.filter (IL 31)=k.reverse:=F7.mpr λ x z=>h x (F.lt x (by simpa using z));rw[this,F.je q,LD]
theorem MP (s:Gm 5 (W2 a) p):LI p (Sh a):=
 ⟨λ k h=>(s.1.mem_iff).mpr (AD.mpr h),λ k h=>AD.mp ((s.1.mem_iff).mp h),λ z o x w=>(ZB o).1.lt x w⟩
def Po (n:Str):AC:=[("name",.aa (.str n))]
def Mh (n:Str):AC:=[("text",.aa (.str n))]
variable {a f:Addr}{b d:PV}{c:Nat} in
def Dk:Expr×Comprehension×Scope×Expr×Comprehension×Scope:=match Cx 23 with
 | .Assign _ (.BinOp (.ListComp a [b] c _) _ (.ListComp d [e] f _) _) _=>(a,b,c,d,e,f)
 |_=>default
theorem cI (s:Cg k A)(w:Dh a Cn k mg mb)(h:Env)(o:AC)(c:List Str)(z:NQ (λ _=>True) Po (λ n=>[n]) o=some c):Ew a A Dk.2.2.1 h o Dk.1 c:=by
 obtain⟨n,_,rfl,rfl⟩:=Lv z
 conv in Dk.1=>whnf
 exact VD (m:=3) w s ⋯
theorem Qt {f:Pos}{d:List PV}(E:Dh W C k mg mb)(H:Cg k A){v:Expr}{lo a st:Option Expr}{b:Pos}{l u t:Option Int}{c:List Str}(h:UH C V O v (.list d))(o:Yl C V O lo l)(s:Yl C V O a u)(w:Yl C V O st t)(e:CA (.list d) l u t=some (.list (c.map .str))):Ew W A V z O (.Subscript v (.Slice lo a st b) f) c:=by
 obtain⟨N,h⟩:=h;obtain⟨Q,o⟩:=o;obtain⟨Z,s⟩:=s;obtain⟨g,w⟩:=w;exact RW (m:=N+Q+Z+g) E H (h _ ∅) (o _ ∅) (s _ ∅) (w _ ∅) e
theorem cH (H:Cg k A)(N:Dh a Cn k mg mb)(o:Env)(s:AC)(c:List Str)(O:NQ eL Mh (λ t=>(Txt.split t "/").reverse) s=some c):Ew a A Dk.2.2.2.2.2 o s Dk.2.2.2.1 c:=by
 have e:=Gz;obtain⟨t,⟨Q,V⟩,rfl,rfl⟩:=Lv O;have W:∀(w h E C:Pos)(z:Nat),h.endLine=C.line->UH Cn Dk.2.2.2.2.2 (Mh t) (.Call (.Attribute (.Name "text" w) "split" h) [.Constant (.str "/") z E] [] C) (.list ((Txt.split t "/").map .str)):=λ w h E C z Z=>.ev (.cg (mf:=.split) (b:=.str t) (ds:=[.str "/"]) (by rw[Z];simp[I3]) ⋯ ⋯ (.aa ⋯) (.cons (.ae ⋯) .nil rfl) (_) (by
  show(if(!(("/":Str).length==0)&&(Txt.split t "/").all Ix&&decide ((Txt.split t "/").length<=Bi))=true then some (PV.list ((Txt.split t "/").map .str)) else none)=_;rw[Q,Bv ∅,Ap {_}])) rfl
 have b:∀(w h:Pos)(z:Nat),Yl Cn Dk.2.2.2.2.2 (Mh t) (some (.UnaryOp .USub (.Constant (.int 1) z w) h)) (some (-1)):=λ w h z=>.int (.kk 4 λ m=>⋯);have d:CA (.list ((Txt.split t "/").map PV.str)) none none (some (-1))=some (.list (((Txt.split t "/").reverse).map PV.str)):=by
  rw[O4 (by rw[Ao];exact V),LD]
 generalize Txt.split t "/"=f at*
 conv in Dk.2.2.2.1=>whnf
 exact Qt N H (W _ _ _ _ _ rfl) .no .no (b _ _ _) d
def gG (h:List Int)(p:List Nat)(k:Addr):AC:=[("names",.aa (AB Df)),("pairs",.aa (EU (Di h))),("hours",.aa (.dict (EW (Fk h)))),("dues",.aa (.dict (EW (EJ h)))),("best",.aa (IC h)),("rows",.al (.ref k))]
def IX (h:List Int):List Str:=FV (Ec (Di h)) 5 Df
def gF (h:List Int)(p:List Nat)(k:Addr):AC:=[("names",.aa (AB Df)),("pairs",.aa (EU (Di h))),("hours",.aa (.dict (EW (Fk h)))),("dues",.aa (.dict (EW (EJ h)))),("best",.aa (IC h)),("rows",.al (.ref k)),("stuck",.aa (AB (IX h)))]
theorem Uc {i t:Expr}{e:Type}{b:AC->Expr->Option Bool}{c:AC->Expr->Option (List PV)}{a:AC->Option e}(g:Str->AC)(f:Str->e)(h:(DY t).all (λ x=>(O.lookup x).isNone)=true)(k:∀n,Dc V t (.str n) O=some (g n))(l:List Str)(o:∀n∈l,a (g n)=some (f n)):
 Cc V b c a [⟨t,i,[],0⟩] O (l.map .str)=some (l.map f):=by
 have:=Ig (V:=V) (tst:=b) (itr:=c) (emit:=a) (t:=t) (it:=i) (ifs:=[]) (O:=O) (xs:=l.map .str) (λ _=>true) (λ d=>match d with | .str n=>f n |_=>f "") h λ x s=>by
  obtain⟨n,w,rfl⟩:=At.mp s;exact⟨g n,k n,rfl,λ _=>o n w⟩
 rw[this,FJ,AG];rfl
theorem VC (a b:Str)(e:Po a=Po b):a=b:=by unfold Po at e;injection e with e;injection e with _ e;injection e with e;injection e
theorem VB (a b:Str)(e:Mh a=Mh b):a=b:=by unfold Mh at e;injection e with e;injection e with _ e;injection e with e;injection e
theorem iR (v:GW w h C k mg mb)(e:Cg k A)(B:Ip w h 181 z N)(x:∀i∈p,i<5)(hl:p.length=5)(S:XS (W1 w h) (Dq w 181).scope z N Z X s (Yq a p))
 (y:∀O V H W n,XS (W1 w h) (Dq w 181).scope z N (H++Z) (H++X) #[s,O,V] (AM (Yq a p) "rows" (.al (.ref W)))->A8 (W1 w h) N O->s.toks<=V->O.get? W=some (Fz (H.map Value.ref).toArray n)->H.Nodup->(∀r∈H,s.heap.get? r=none)->W∉H++X->CE (W1 w h) X O H (Hv a p)->b .next #[s,O,V]):
 wpAny (W1 w h).M A (exec (Cx 23) z) b E s:=by
 have b1:=Gz;have wl:= @Sy a;have D:Cc Dk.2.2.1 ((By Cn 6).ts Dk.2.2.1) ((By Cn 6).it Dk.2.2.1) (NQ (λ _=>True) Po λ n=>[n]) [Dk.2.1] (A3 Dk.2.2.1 (Yq a p)) ((p.map nm).map .str)=some ((p.map nm).map λ n=>[n]):=by
  have f:A3 Dk.2.2.1 (Yq a p)=[]:=⋯
  rw[f]
  conv in Dk.2.1=>whnf
  exact Uc Po _ ⋯ (λ n=>⋯) _ λ n hn=>QA VC trivial
 have G:Cc Dk.2.2.2.2.2 ((By Cn 6).ts Dk.2.2.2.2.2) ((By Cn 6).it Dk.2.2.2.2.2) (NQ eL Mh λ t=>(Txt.split t "/").reverse) [Dk.2.2.2.2.1] (A3 Dk.2.2.2.2.2 (Yq a p)) ((IS a).flatten.map .str)=some ((IS a).flatten.map λ t=>(Txt.split t "/").reverse):=by
  have f:A3 Dk.2.2.2.2.2 (Yq a p)=[]:=⋯
  rw[f]
  conv in Dk.2.2.2.2.1=>whnf
  refine Uc Mh _ ⋯ (λ n=>⋯) _ λ t m=>QA VB ?_;rw[aS] at m;obtain⟨ch,g,rfl⟩:=At.mp m;obtain⟨F,q⟩:=ZB g;exact⟨F.sok q,F.sl q⟩
 have I:=MK (nu:=a) x
 conv in Cx 23=>whnf
 refine UZ v e B S (m:=6) (r1:=(p.map nm).map λ n=>[n]) (r2:=(IS a).flatten.map λ t=>(Txt.split t "/").reverse) (λ J j o Q c l=>cI e j o Q c l) (λ J j o Q c l=>cH e j o Q c l) ⋯ ⋯ rfl rfl (xs1:=(p.map nm).map .str) (xs2:=(IS a).flatten.map .str) ⋯ ⋯ D G (by rw[Ao,Ao,Ao];omega) ⋯ λ O V H W n d L M R T U Y u=>?_;rw[I] at u;exact y O V H W n d L M R T U Y u
theorem iQ (o:Dh (W1 w h) (CL (Gb a)) k mg mb)(s:Cg k A)(B:Ip w h 181 z N):MB w h A z N (exec (Cx 24) z) (gG a p b) (.next (gF a p b)):=by
 have V:=Gz;have C:=(@Hu a).pl;have E:= @Lj a;have e:OC (Ec (Di a))=.list ((Di a).map λ q=>gD (nm q.1,nm q.2)):=by unfold OC Ec;rw[AG];rfl
 refine EN (ks:=["names","pairs","hours","dues","best","rows","stuck"]) (ρ1:=AM (gG a p b) "stuck" (.aa (AB (IX a)))) ⋯ ?_
 conv in Cx 24=>whnf
 refine AW o s B (.fn (ds:=[AB Df,OC (Ec (Di a))]) ⋯ ⋯ Wi (.cons (.aa ⋯) (.cons ?_ .nil rfl) rfl) (_) (J4 _ _)) ⋯;rw[e];refine .bd (l:=Di a) (g:=WP) _ (.ev (d:=EU (Di a)) (.aa ⋯) ⋯ rfl rfl) ⋯ ⋯ (λ q H=>?_) (by have:(Di a).length<=100:=C;omega);obtain⟨O,Q⟩:=E q H;exact⟨[("b",.aa (.int (q.2:Nat))),("a",.aa (.int (q.1:Nat))),("names",.aa (AB Df))],⋯,.ay (.cons (.aj (b:=AB Df) (.aa ⋯) (.aa (d:=.int (q.1:Nat)) ⋯) rfl (IW O)) (.cons (.aj (b:=AB Df) (.aa ⋯) (.aa (d:=.int (q.2:Nat)) ⋯) rfl (IW Q)) .nil rfl) rfl) (by show 2<=Bi;omega)⟩
def Ms (h:List Int)(p:List Nat):Nat:=(GU (Di h) p 5 31).2
def C7 (h:List Int)(p:List Nat):List Nat:=(GU (Di h) p 5 31).1
def G7 (h:List Int)(p:List Nat):List (List Str):=C8 (CP p (Sh h) (Ms h p))
theorem Ti (h:i<5):(JA a).getD i 0=Je a i:=by
 unfold JA Be;rw[Az,AE,AE,Dz h];rfl
theorem Xt (h:i<5):(I9 a).getD i 0=OH (B3 a i):=by
 unfold I9 Be;rw[Az,AE,AE,Dz h];rfl
theorem W7 (h:Gm 5 (W2 c) p):(JT (I9 c) (JA c) (Di c)=none/\Ms c p≠0)\/∃v,JT (I9 c) (JA c) (Di c)=some v/\Ms c p=0/\Mu (((C7 c p).reverse.foldl (OI (I9 c) (JA c)) (0,[])).2)=some v:=by
 have L:=MP h;unfold Ms C7;rw[TL];refine Za L (λ q o=>?_) (λ k=>?_) ?_
 ·rw[<-TL] at o;exact Lj q o
 ·by_cases s:k<5
  ·rw[Xt s];exact Vw _
  ·rw[Az,List.getElem?_eq_none (by simp[I9,Be];omega)];simp
 ·refine List.Pairwise.imp_of_mem (λ{a b} w z q=>?_) h.2;rw[Ti (L.lt a w),Ti (L.lt b z)];have:=q.1;unfold W2 at this;have:=of_decide_eq_false this;omega
theorem fO (k:Gm 5 (W2 a) p):Mx 6 (Hv a p) []=some (if Ms a p=0 then some ((C7 a p).map nm) else none,G7 a p):=by
 have L:=MP k;have:=ZE L 5 31 [] {_} ∅ (Yr.start λ q h=>by rw[<-TL] at h;exact Lj q h);rw[<-TL] at this;exact this
theorem T2 (k:Gm 5 (W2 a) p):(Hv a p).map (λ h=>h.filter λ n=>(IX a).any (·==n))=G7 a p:=Y3 (MP k) Lj
def iC (h:List Int)(p:List Nat)(k:Addr):AC:=[("names",.aa (AB Df)),("pairs",.aa (EU (Di h))),("hours",.aa (.dict (EW (Fk h)))),("dues",.aa (.dict (EW (EJ h)))),("best",.aa (IC h)),("rows",.al (.ref k)),("left",.aa (.list (BB (G7 h p))))]
def Ux (h:List Int)(p:List Nat):AC:=[("names",.aa (AB Df)),("pairs",.aa (EU (Di h))),("hours",.aa (.dict (EW (Fk h)))),("dues",.aa (.dict (EW (EJ h)))),("best",.aa (IC h)),("rows",.aa (.list (BB (G7 h p)))),("left",.aa (.list (BB (G7 h p)))),("merged",.aa (AB ((C7 h p).map nm)))]
def Qr (st h:List Str):AC:=[("row",.aa (AB h)),("stuck",.aa (AB st))]
variable {a:Addr}{b:PV}{c:Nat} in
def Dy:Expr×Comprehension×Scope:=match Cx 25 with
 | .Assign _ (.ListComp a [b] c _) _=>(a,b,c)
 |_=>default
theorem UU (e:AB a=AB b):a=b:=by
 have h:=ET a;have k:a.map PV.str=b.map PV.str:=by unfold AB at e;injection e
 rw[k,ET b] at h;exact(BC h).symm
theorem XE {st:List Str}(a b:List Str)(e:Qr st a=Qr st b):a=b:=by
 unfold Qr at e;injection e with e;injection e with _ e;injection e with e;exact UU e
theorem cG {st:List Str}{a:BH}(C:Cg k A)(E:Dh a Cn k mg mb)(o:Env)(s:AC)(c:List Str)(H:NQ (λ h:List Str=>h.length<=100) (Qr st) (λ h=>h.filter λ n=>st.any (·==n)) s=some c):Ew a A Dy.2.2 o s Dy.1 c:=by
 have V:=Gz;obtain⟨h,W,rfl,rfl⟩:=Lv H;have N:CJ Cn Dy.2.2 (Qr st h) Dy.1 (.list ((h.filter λ n=>st.any (·==n)).map .str)):=by
  conv in Dy.1=>whnf
  refine .dj (l:=h) (g:=PV.str) (λ n=>st.any (·==n)) PV.str (.ev (d:=AB h) (.aa ⋯) ⋯ rfl rfl) ⋯ ⋯ (λ n w=>?_) ∅
  exact⟨[("name",.aa (.str n)),("stuck",.aa (AB st))],⋯,.bt (.isIn (.aa (d:=.str n) ⋯) (.aa (d:=AB st) ⋯) rfl rfl (T8 n st)),λ _=>.aa ⋯⟩
 obtain⟨n,w⟩:=N;have z:=w (n+1) (A6 _);generalize h.filter (λ n=>st.any (·==n))=c at*
 conv at z in Dy.1=>whnf
 conv in Dy.1=>whnf
 obtain⟨x,O,Q⟩:=As.mp (show(EO (By Cn n) _ _ _ _ _).map PV.list=some _ from z);cases Q;exact S9 E C O
def dG (q:Nat->Pos):List Stmt:=[.Try [.Assign [.Name "merged" (q 20)] (.Call (.Name "_c3_merge" (q 21)) [.Name "rows" (q 22)] [] (q 23)) (q 24)] [.ExceptHandler (some (.Name "RuntimeError" (q 25))) (some "error") [.Return (some (.BoolOp .And (Oc q λ _=>0) (q 26))) (q 27)] (q 28)] [] [] (q 29)]
def tq:Nat->Pos:=H1 dG [Cx 26]
theorem eH:Cx 26=.Try [.Assign [.Name "merged" (tq 20)] (.Call (.Name "_c3_merge" (tq 21)) [.Name "rows" (tq 22)] [] (tq 23)) (tq 24)] [.ExceptHandler (some (.Name "RuntimeError" (tq 25))) (some "error") [.Return (some (.BoolOp .And (Oc tq λ _=>0) (tq 26))) (tq 27)] (tq 28)] [] [] (tq 29):=⋯
theorem ED.af (x:ED W h b a)(s:BY V z Z X h H)(o:∀r∈b,r∈Z/\¬Ck V z r):ED W H b a:=by
 obtain⟨c,w,A⟩:=x;refine⟨c,w,λ r k=>?_⟩;obtain⟨C,n,e,E,l⟩:=A r k;exact⟨C,n,s r _ (.inr ⟨(o r k).1,(o r k).2,(_),(_)⟩) e,E,GD l⟩
theorem t3 (I:Hb w h)(T:DB b e mg mb h)(b8:Ir)(L:LE w h A z N)(gp:Gm 5 (W2 a) p)(d4:Ms a p=0->QP w h A z N r (Ux a p)):QP w h A z N (Cx 23::Cx 24::Cx 25::Cx 26::r) (Yq a p):=.mk λ s Q E S hQ=>by
 have b1:=Gz;have Gk:Dh (W1 w h) (CL (Gb a)) 2 mg mb:=dZ (k:=0) I T b8 Hu;have hA:Cg 2 A:=L.hA.ag ∅;have B:=L.B;have LO:=MP gp;have hl:p.length=5:=by have:=gp.1.length_eq;simpa using this
 have wl:= @Sy a;refine Al (iR Gk hA B LO.lt hl S λ u a0 m H n a8 b9 y hL nd D nL RR=>?_);have C:∀r∈m,r∉Ay z:=λ r G q=>by
  obtain⟨o,ho⟩:=S.F.ah r q;rw[D r G] at ho;cases ho
 have J:∀r∈m,r∈m++Ay z/\¬Ck (Dq w 181).scope z r:=λ r G=>⟨AT _ G,λ q=>C r G (S.F.bo q)⟩;have RA:ED (W1 w h) u m (Hv a p):=CE.fn nd RR;have hz:m.length<=Bi:=by
  have:=RR.len;rw[<-MK LO.lt,BZ,Ao,Ao,Ao] at this;omega
 have c0:gG a p H=Ci ["names","pairs","hours","dues","best","rows"] (AM (Yq a p) "rows" (.al (.ref H))):=⋯
 have a1:=a8.ap (by rw[c0];exact Dg:V1 (gG a p H) _);refine Al ((iQ Gk hA B).go _ _ #[s,u,a0] _ _ a1 λ W a2 M Z R=>?_);have a9:W.get? H=some (Fz (m.map Value.ref).toArray n):=Z H _ (.inl ⟨nL,.inl rfl⟩) hL;have b0:ED (W1 w h) W m (Hv a p):=RA.af Z J;have b2:H∉Ay z:=λ q=>nL (Ax _ q);have SB:=O3 (s:=#[s,W,a2]) M (x:="rows") ⋯ (Jt ⋯) (λ _ h=>h) (λ _ h=>h) C a9 b2 hz b0 C;have g1:Cc Dy.2.2 ((By Cn 6).ts Dy.2.2) ((By Cn 6).it Dy.2.2) (NQ (λ k:List Str=>k.length<=100) (Qr (IX a)) λ k=>k.filter λ n=>(IX a).any (·==n)) [Dy.2.1] (A3 Dy.2.2 (AM (gF a p H) "rows" (.aa (.list (BB (Hv a p)))))) (BB (Hv a p))=some (G7 a p):=by
  rw[<-T2 gp];have rl:∀k∈Hv a p,k.length<=100:=λ k O=>by
   rw[<-MK LO.lt] at O;rcases Au.mp O with q |q
   ·obtain⟨x,_,rfl⟩:=At.mp q;show 1<=100;omega
   ·obtain⟨x,hx,rfl⟩:=At.mp q;rw[aS] at hx;obtain⟨ch,c1,rfl⟩:=At.mp hx;obtain⟨F,q⟩:=ZB c1;rw[IN];have:=F.sl q;omega
  generalize Hv a p=R0 at*;generalize c2:IX a=st at*;have e0:A3 Dy.2.2 (AM (gF a p H) "rows" (.aa (.list (BB R0))))=([("stuck",BL.aa (AB st))]:AC):=by rw[<-c2];kernel_rfl
  rw[e0]
  conv in Dy.2.1=>whnf
  have:=Ig (V:=Dy.2.2) (tst:=(By Cn 6).ts Dy.2.2) (itr:=(By Cn 6).it Dy.2.2) (emit:=NQ (λ k:List Str=>k.length<=100) (Qr st) λ k=>k.filter λ n=>st.any (·==n)) (t:=Dy.2.1.target) (it:=Dy.2.1.iter) (ifs:=[]) (O:=([("stuck",BL.aa (AB st))]:AC)) (xs:=BB R0) (λ _=>true) (λ d=>match d with | .list ds=>((DN ds).getD []).filter (λ n=>st.any (·==n)) |_=>[]) ⋯ λ x hx=>by
   obtain⟨k,O,rfl⟩:=At.mp hx;refine⟨Qr st k,⋯,rfl,λ _=>?_⟩;show _=some (((DN (k.map PV.str)).getD []).filter _);rw[ET];exact QA XE (rl k O)
  rw[FJ] at this;refine this.trans ?_;unfold BB;rw[AG];congr 1;apply A7;intro k _;show((DN (k.map PV.str)).getD []).filter _=_;rw[ET];rfl
 have ll:(G7 a p).length<=Bi:=by
  rw[<-T2 gp,Ao,<-MK LO.lt,BZ,Ao,Ao,Ao];omega
 have c3:∀W':BH,Dh W' Cn 2 mg mb->∀f t c,NQ (λ k:List Str=>k.length<=100) (Qr (IX a)) (λ k=>k.filter λ n=>(IX a).any (·==n)) t=some c->Ew W' A Dy.2.2 f t Dy.1 c:=λ W' G' f t c hc=>cG hA G' f t c hc
 have c4:=fO gp;have c5:=ZH
 conv in Cx 25=>whnf
 refine Al (Vj Gk hA B M SB.F (m:=6) (xs1:=BB (Hv a p)) (r1:=G7 a p) c3 ⋯ rfl ⋯ g1 ll ⋯ λ g a3 b3 i U=>?_);have c6:iC a p H=Ci ["names","pairs","hours","dues","best","rows","left"] (AM (gF a p H) "left" (.aa (.list (BB (G7 a p))))):=⋯
 have a4:=b3.ap (by rw[c6];exact Dg:V1 (iC a p H) _);have c7:g.get? H=some (Fz (m.map Value.ref).toArray n):=i H _ (.inl ⟨nL,.inl rfl⟩) a9;have c8:ED (W1 w h) g m (Hv a p):=b0.af i J;have fo:=fC I T;rw[c5] at fo;have c9:mg "RuntimeError"=none/\mb "RuntimeError"=some (.type "RuntimeError"):=⟨(C9 I T _).trans ⋯,Mf T {_} ⋯⟩;have eR:=Um (G7 a p);rw[eH];refine Al (dF (s:=#[s,g,a3]) Gk B L.O a4 fo ((C9 I T _).trans ⋯) hS fN c9 (L.hA.ag ∅) (oc:={cls:=.none,data:=.plain}) (best:=IC a) (left:=G7 a p) c7 (λ q=>(Au.mp q).elim (λ q=>nL (AT _ q)) nL) nd hz (λ r G=>⟨AT _ G,C r G,E5 S.le (D r G)⟩) c8 (Jt ⋯) ⋯ ⋯ ⋯ ⋯ ⋯ ⋯ ⋯ ⋯ (fuel:=6) ∅ c4 (λ d5 V Y j b4 d0 d1 b5=>?_) λ ho=>?_)
 ·by_cases a5:Ms a p=0
  ·rw[Ap a5] at V;cases V;have d2:=O3 (s:=#[s,Y,j]) b4 (x:="rows") ⋯ (Jt ⋯) (λ _ h=>h) (λ _ h=>h) C d0 b2 hz d1 C;have d3:Ux a p=Ci ["names","pairs","hours","dues","best","rows","left","merged"] (AM (AM (iC a p H) "merged" (.aa (.list (((C7 a p).map nm).map .str)))) "rows" (.aa (.list (BB (G7 a p))))):=⋯
   exact(d4 a5).go #[s,Y,j] Q E (d2.ap (by rw[d3];exact Dg)) λ b6 a6 a7 b7=>hQ b6 a6 a7 (Ab y (Ab R (Ab U (Ab b5 b7))))
  ·rw[Ak a5] at V;cases V
 ·rcases W7 gp with⟨h1,h2⟩ |⟨v,h1,h2,_⟩
  ·refine⟨true,true,by unfold IC;rw[h1];rfl,eR,λ h' tk a7 l=>?_⟩;exact hQ h' tk a7 (Ab y (Ab R (Ab U l)))
  ·rw[Ap h2] at ho;cases ho
theorem sorted_strs (h:(x::l).length<64):Of .sorted [AB (x::l)]=some (AB (Iv (x::l))):=by
 show(if((x::l).map PV.str).length<64 then((Fi ((x::l).map PV.str)).map λ k=>PV.list ((Wq k).map .int)).or ((DN ((x::l).map PV.str)).map λ o=>.list ((Iv o).map .str)) else none)=_;rw[Ap (by rw[Ao];exact h),ET];have:Fi ((x::l).map PV.str)=none:=rfl;rw[this];rfl
def Sx (st:Int×List Int):PV:=.ay [.int st.1,AH st.2]
def FA (h:List Int)(p:List Nat)(i:Nat):Int×List Int:=((C7 h p).reverse.take i).foldl (OI (I9 h) (JA h)) (0,[])
def iB (h:List Int)(p:List Nat):AC:=[("best",.aa (IC h)),("end",.aa (Sx (FA h p 5)))]
theorem Sc:∀(l:List Nat)(st:Int×List Int),(l.foldl (OI a b) st).2.length=st.2.length+l.length
 |[],st=>rfl
  |i::l,st=>by
   rw[E0,Sc l];show(st.2++[_]).length+l.length=_;simp;omega
theorem KA (h:Ms a p=0):(C7 a p).Perm (List.range 5):=by
 have:=Ud (prs:=Di a) (line:=p) 5 31 ∅ h;rwa[show Bu 31=List.range 5 from by decide] at this
theorem jF (I:Hb w h)(T:DB b c mg mb h)(e:Ir)(L:LE w h A z N)(G:Ms a p=0)(J:QP w h A z N r (Ux a p)):QP w h A z N (Cx 27::r) (Ux a p):=.mk λ s Q E S M=>by
 have b1:=Gz;have R:Dh (W1 w h) (CL (Gb a)) 2 mg mb:=dZ (k:=0) I T e Hu;have g:=KA G;have U:(C7 a p).length=5:=by have:=g.length_eq;simpa using this
 have Y:Df=(List.range 5).map nm:={_}
 have sp:Iv ((C7 a p).map nm)=Iv Df:=by rw[Y];exact SJ (g.map nm)
 have C:mg "isinstance"=none/\mb "isinstance"=some (.builtin "isinstance"):=⟨(C9 I T _).trans ⋯,Mf T {_} ⋯⟩;have s1:Of .sorted [AB ((C7 a p).map nm)]=some (AB (Iv Df)):=by
  rw[<-sp];have i:((C7 a p).map nm).length=5:=by rw[Ao];exact U
  generalize (C7 a p).map nm=m at*
  match m,i with
  |x::r,i=>exact sorted_strs ∅
 have s2:Of .sorted [AB Df]=some (AB (Iv Df)):=sorted_strs {_};generalize a0:Iv Df=j at*;have ev:∀l n q t u v y B D H,Ys (CL (Gb a)) (Dq w 181).scope (Ux a p) .Or [.Compare (.Name "rows" l) [.NotEq] [.Name "left" n] q,.Compare (.Call (.Name "sorted" t) [.Name "merged" u] [] v) [.NotEq] [.Call (.Name "sorted" y) [.Name "names" B] [] D] H] (false||(false||false)):=λ l n q t u v y B D H=>
  .bv (.ar (a:=.list (BB (G7 a p))) (b:=.list (BB (G7 a p))) (.aa ⋯) (.aa ⋯) rfl rfl (by rw[QC,Um];rfl)) λ _=>.bv (.ar (a:=AB j) (b:=AB j) (.bx (b:=.sorted) ⋯ ⋯ (.cons (.aa (d:=AB ((C7 a p).map nm)) ⋯) .nil rfl) (_) s1) (.bx (b:=.sorted) ⋯ ⋯ (.cons (.aa (d:=AB Df) ⋯) .nil rfl) (_) s2) rfl rfl (by rw[QC,MS];rfl)) λ _=>.nil
 conv in Cx 27=>whnf
 obtain⟨m,hm⟩:=ev _ _ _ _ _ _ _ _ _ _;refine Al (cB R (L.hA.ag ∅) L.B S C (x:="merged") (xs:=((C7 a p).map nm).map .str) ⋯ ⋯ ⋯ (m:=m) (hm m (Am _)) λ O k V kd W=>?_);exact J.go #[s,O,k] Q E V λ Z o f d=>M Z o f (Ab W d)
theorem iP (d:GW w h C k mg mb)(e:Cg k A)(B:Ip w h 181 z N)(Z:Ms a p=0):MB w h A z N (exec (Cx 28) z) (Ux a p) (.next (Ux a p)):=by
 have m:=Gz;have b:=KA Z;have s:∀x∈C7 a p,x<5:=λ x f=>AD.mp ((b.mem_iff).mp f);have V:∀i<5,i∈C7 a p:=λ i E=>(b.mem_iff).mpr (AD.mpr E);have g:=(@Hu a).pl;have c:∀i<5,Iy .cw (AB ((C7 a p).map nm)) [.str (nm i)]=some (.int ((C7 a p).idxOf i:Nat)):=λ i E=>by
  show(DN (((C7 a p).map nm).map PV.str)).bind _=_;rw[ET];show(if((C7 a p).map nm).contains (nm i)=true then some (PV.int (((C7 a p).map nm).idxOf (nm i):Nat)) else none)=_;rw[Mn s E,Ap (by rw[Hr];exact V i E),Xs E s]
 have j:∀q∈Di a,decide (((C7 a p).idxOf q.1:Nat)<(((C7 a p).idxOf q.2:Nat):Int))=false:=λ q o=>by
  obtain⟨O,Q⟩:=Lj q o;have H:∀i<5,i∈Bu 31:={_}
  have:=RU (prs:=Di a) (line:=p) (a:=q.1) (b:=q.2) o 5 31 ∅ Z (H _ O) (H _ Q);have:(C7 a p).idxOf q.2<(C7 a p).idxOf q.1:=this;rw[decide_eq_false_iff_not];omega
 have em:(Di a).filter (λ q=>decide (((C7 a p).idxOf q.1:Nat)<(((C7 a p).idxOf q.2:Nat):Int)))=[]:=by
  rw[MD];intro q o;rw[j q o];simp
 have W:= @Lj a;have l:(Di a).length<=100:=g
 conv in Cx 28=>whnf
 refine Ey d e B (c:=false) (.ar (a:=.list (((Di a).filter λ q=>decide (((C7 a p).idxOf q.1:Nat)<(((C7 a p).idxOf q.2:Nat):Int))).map λ q=>.int (q.1:Nat))) (b:=.list []) ?_ (.list .nil (by show 0<=Bi;omega)) rfl rfl (by rw[em];rfl)) (by rw[Ak (_)];exact EA);refine .dj (l:=Di a) (g:=WP) _ _ (.ev (d:=EU (Di a)) (.aa ⋯) ⋯ rfl rfl) ⋯ ⋯ (λ q o=>?_) ∅;obtain⟨O,Q⟩:=W q o;refine⟨[("b",.aa (.int (q.2:Nat))),("a",.aa (.int (q.1:Nat))),("names",.aa (AB Df)),("merged",.aa (AB ((C7 a p).map nm)))],⋯,.bt (.ar (a:=.int ((C7 a p).idxOf q.1:Nat)) (b:=.int ((C7 a p).idxOf q.2:Nat)) (.cg (mf:=.cw) (b:=AB ((C7 a p).map nm)) (ds:=[.str (nm q.1)]) ⋯ ⋯ ⋯ (.aa ⋯) (.cons (.aj (b:=AB Df) (.aa ⋯) (.aa (d:=.int (q.1:Nat)) ⋯) rfl (IW O)) .nil rfl) (_) (c _ O)) (.cg (mf:=.cw) (b:=AB ((C7 a p).map nm)) (ds:=[.str (nm q.2)]) ⋯ ⋯ ⋯ (.aa ⋯) (.cons (.aj (b:=AB Df) (.aa ⋯) (.aa (d:=.int (q.2:Nat)) ⋯) rfl (IW Q)) .nil rfl) (_) (c _ Q)) rfl rfl (aE _ _)),λ _=>.aa ⋯⟩
theorem US (a b:PV):DS (.ay [a,b]) (.int 0)=some a:=⋯
theorem OW (a b:PV):DS (.ay [a,b]) (.int 1)=some b:=⋯
theorem Xg:Ym GJ.1 GJ.2.1 GJ.2.2.1 ["state","name"]:=by
 refine⟨⋯,⋯,⋯,?_,?_,{_},λ h k w z A o s=>?_⟩
 ·decide+kernel
 ·decide+kernel
 ·obtain⟨a,b,rfl⟩:=Vi s
  conv in GJ.1=>whnf
  rfl
def Rl (h:List Int):AC:=[("dues",.aa (.dict (EW (EJ h)))),("hours",.aa (.dict (EW (Fk h))))]
theorem cY (st:Int×List Int)(w:st.2.length<=100)(o:j<5):CJ C GJ.2.2.1 ((["state","name"]:List Str).zip [BL.aa (Sx st),.aa (.str (nm j))]++Rl a) GJ.2.1 (Sx (OI (I9 a) (JA a) st j)):=by
 have c:=Gz;obtain⟨t,l⟩:=st;have w:l.length<=100:=w;unfold OI;rw[Xt o,Ti o]
 conv in GJ.2.1=>whnf
 have Z:DS (.dict (EW (Fk a))) (.str (nm j))=some (.int (OH (B3 a j))):=Wh _ o;have b:DS (.dict (EW (EJ a))) (.str (nm j))=some (.int (Je a j)):=Wh _ o;generalize OH (B3 a j)=h at*;generalize Je a j=k at*;have s:EY .Add (AH l) (.list [.int (t+h-k)])=some (AH (l++[t+h-k])):=by
  unfold AH;show(if(l.map PV.int).length+1<=Bi then some (PV.list (l.map PV.int++[.int (t+h-k)])) else none)=_;rw[Ap (by rw[Ao];omega),BV];rfl
 have z:∀A E H N O Q V W,CJ C GJ.2.2.1 ((["state","name"]:List Str).zip [BL.aa (Sx (t,l)),.aa (.str (nm j))]++Rl a) (.BinOp (.Subscript (.Name "state" A) (.Constant (.int 0) W E) H) .Add (.Subscript (.Name "hours" N) (.Name "name" O) Q) V) (.int (t+h)):=λ A E H N O Q V W=>
  .ai (a:=.int t) (b:=.int h) (.aj (b:=Sx (t,l)) (.aa ⋯) .int rfl (US _ _)) (.aj (b:=.dict (EW (Fk a))) (.aa ⋯) (.aa (d:=.str (nm j)) ⋯) rfl Z) (V0 _ _)
 exact .ay (.cons (z _ _ _ _ _ _ _ _) (.cons (.ai (a:=AH l) (b:=.list [.int (t+h-k)]) (.aj (b:=Sx (t,l)) (.aa ⋯) .int rfl (OW _ _)) (.list (.cons (.ai (a:=.int (t+h)) (b:=.int k) (z _ _ _ _ _ _ _ _) (.aj (b:=.dict (EW (EJ a))) (.aa ⋯) (.aa (d:=.str (nm j)) ⋯) rfl b) (Oy _ _)) .nil rfl) (by show 1<=Bi;omega)) s) .nil rfl) rfl) (by show 2<=Bi;omega)
theorem YM (I:Hb w h)(a:A8 (W1 w h) h H):OldK h H:=by
 have code:∀b,b∈[16,178]->isCodeTable h b:=λ b N=>by
  simp only[Ag,Ev,OE] at N;rcases N with rfl |rfl
  ·obtain⟨o,z,A,c,s,d,O,C,f,Q,V,W,Z,_⟩:=(codeHd_of_K (c:=20) (P:=16) I ⋯);exact⟨20,o,z,Q,V,W,Z⟩
  ·obtain⟨o,z,A,c,s,d,O,C,f,Q,V,W,Z,_⟩:=(codeHd_of_K (c:=180) (P:=178) I ⋯);exact⟨180,o,z,Q,V,W,Z⟩
 refine⟨λ b o e=>?_,λ b o e=>AP a ⟨o,e⟩⟩;rcases a.1 b o e with k |⟨n,_⟩ |⟨N,z,E,rfl,k⟩
 ·exact .inl k
 ·have g:h.get? b=none:=n;rw[g] at e;cases e
 ·exact .inr (.inl ⟨code b N,rfl,z,E,rfl,k⟩)
theorem bL (core:∀(w:World)(s:Shared)(k W:Str->Option Value)(h:List Str)(z:ExcName->Option Value),Hb w s.heap->(∀P∈[16,178],s.heap.get? P=some (tabObj #[]))->DB h z k W s.heap->
 ∀(t:List Int)(v:Value),Rp (W1 w s.heap) [] s.heap v (.list (t.map .int))->∀(Q:JD)(E:JD),(∀Z j,A8 (W1 w s.heap) s.heap Z->Q (.bool true) #[s,Z,j])->wpAny (W1 w s.heap).M callerA (call (.ref 181) [v]) Q E s):
 PySem.Challenge.rw_oy0180_01.Holds:=hd (by
 intro w l A k W G Y u o pm cd x dV kV ho y B hD b D args m as C N c d f;have I:=km_in_of Y;have J:=km_tabs_of Y;have T:=G.T;have e:k "law"=some (.ref 181):=(C9 I T _).trans ⋯;have n:k "law"=some (.ref u):=b;rw[e] at n;cases n
 wrow_args C N c d f
 rename_i L _ M _ p _ g _;have i:=M;cases i with
 |list q r=>
  obtain⟨o',O,R,n',V⟩:=L;rw[q] at O;cases O;cases V;refine core w A k W _ _ I J T _ _ (.list q (_) ?_ (RpL.cy p)) _ _ λ Z j H=>?_
  ·have:=p.length;have S:(63:Nat)<=Bi:={_}
   simp;omega
  ·exact⟨.inl ⟨.bool true,.bool true,[],rfl,λ _=>rfl,.bool true,⋯,λ _=>⟨.nil,λ a U=>nomatch U⟩⟩,YM I H,rfl,.of_eq D⟩)
theorem jE (I:Hb w h)(T:DB b c mg mb h)(D:Ir)(L:LE w h A z N)(hr:Ms a p=0)(a2:QP w h A z N r (iB a p)):QP w h A z N (Cx 29::r) (Ux a p):=.mk λ s Q E S hQ=>by
 have b1:=Gz;have Gk:Dh (W1 w h) (CL (Gb a)) 2 mg mb:=dZ (k:=0) I T D Hu;have pm:=KA hr;have hl:(C7 a p).length=5:=by have:=pm.length_eq;simpa using this
 have G:∀x∈C7 a p,x<5:=λ x o=>AD.mp ((pm.mem_iff).mp o);have lt:=Xg;have J:(GJ.2.2.1.names.map (·.1)).Nodup:={_}
 have fr:GJ.2.2.1.names.all (λ p=>!(p.2== .free)||(Dq w 181).scope.names.lookup p.1==some .cell)=true:=⋯
 have V:GJ.2.2.1.names.lookup ("dues":Str)=some .free/\GJ.2.2.1.names.lookup ("hours":Str)=some .free:=⟨⋯,⋯⟩;have hp:(GJ.2.2.2,("law.<locals>.<lambda>":Str))∈aF:=Ad _ Ac;have xe:∀i x,(((C7 a p).reverse.map nm).map PV.str)[i]? =some x->i<5/\∃j,j<5/\(C7 a p).reverse[i]? =some j/\x=.str (nm j):=λ i x e=>by
  rw[AE,AE] at e;cases q:(C7 a p).reverse[i]? with
  |none=>rw[q] at e;cases e
  |some j=>
   rw[q] at e;have e:some (PV.str (nm j))=some x:=e;cases e;have u:=(CU.mp q).1;rw[IN] at u;exact⟨∅,j,G j (by simpa using List.mem_of_getElem? q),rfl,rfl⟩
 obtain⟨m1,M⟩:=dW (P:=λ k(i:Nat)=>∀j,j<5->(By (CL (Gb a)) k).ev GJ.2.2.1 ((["state","name"]:List Str).zip [BL.aa (Sx (FA a p i)),.aa (.str (nm j))]++Rl a) GJ.2.1=some (Sx (OI (I9 a) (JA a) (FA a p i) j))) (xs:=List.range 5) λ i u=>by
  have hz:(FA a p i).2.length<=100:=by
   unfold FA;rw[Sc,FO,IN];show 0+_<=100;omega
  obtain⟨n,J⟩:=dW (P:=λ k(j:Nat)=>(By (CL (Gb a)) k).ev GJ.2.2.1 ((["state","name"]:List Str).zip [BL.aa (Sx (FA a p i)),.aa (.str (nm j))]++Rl a) GJ.2.1=some (Sx (OI (I9 a) (JA a) (FA a p i) j))) (xs:=List.range 5) λ j W=>cY _ hz (AD.mp W);exact⟨n,λ k hk j W=>J k hk j (AD.mpr W)⟩
 have R:∀m,m1<=m->∀i x,(((C7 a p).reverse.map nm).map PV.str)[i]? =some x->(By (CL (Gb a)) m).ev GJ.2.2.1 ((["state","name"]:List Str).zip [BL.aa (Sx (FA a p i)),.aa x]++Rl a) GJ.2.1=some (Sx (FA a p (i+1))):=λ m hm i x e=>by
  obtain⟨u,j,W,q,rfl⟩:=xe i x e;rw[M m hm i (AD.mpr u) j W];congr 2;unfold FA;rw[List.take_succ,q,List.foldl_append];rfl
 have es:CA (AB ((C7 a p).map nm)) none none (some (-1))=some (.list (((C7 a p).reverse.map nm).map PV.str)):=by
  unfold AB;rw[O4 (by rw[Ao,Ao];omega),<-LD,<-LD]
 have sq:∀q1 v q3 q4 q5 Z,CJ (CL (Gb a)) (Dq w 181).scope (Ux a p) (.Subscript (.Name "merged" q1) (.Slice none none (some (.UnaryOp .USub (.Constant (.int 1) Z v) q3)) q4) q5) (.list (((C7 a p).reverse.map nm).map PV.str)):=λ q1 v q3 q4 q5 Z=>
  .slice (b:=AB ((C7 a p).map nm)) (.aa ⋯) .no .no (.int (.kk 4 λ m=>⋯)) es
 have x5:(((C7 a p).reverse.map nm).map PV.str).length=5:=by simp[hl]
 have a1:∀y d,(Ux a p).lookup y≠some (.own d):=Jt ⋯;have z0:∀q Z,CJ (CL (Gb a)) (Dq w 181).scope (Ux a p) (.Constant (.int 0) Z q) (.int 0):=λ q Z=>.int;have zl:∀q,CJ (CL (Gb a)) (Dq w 181).scope (Ux a p) (.List [] q) (.list []):=λ q=>.list .nil (BT _);have ph:∀x B,(Rl a).lookup x=some B->GJ.2.2.1.names.lookup x=some .free/\CC x=true/\(Ux a p).lookup x=some B/\∃d,B=.aa d:=λ x B o=>by
  unfold Rl at o;by_cases q:x="dues"
  ·subst q;rw[An] at o;cases o;exact⟨V.1,{_},⋯,_,rfl⟩
  ·rw[Aj q,GH] at o;split at o
   ·rename_i v;subst v;cases o;exact⟨V.2,{_},⋯,_,rfl⟩
   ·cases o
 have U:Sx (FA a p 0)=.ay [.int 0,.list []]:=rfl;have Y:iB a p=Ci ["best","end"] (AM (Ux a p) "end" (.aa (Sx (FA a p 5)))):=⋯
 have a3:GJ=GJ:=rfl
 conv in Cx 29=>whnf
 obtain⟨n1,h1⟩:=sq _ _ _ _ _ _;obtain⟨n2,h2⟩:=z0 _ _;obtain⟨n3,h3⟩:=zl _;refine Al (Wz Gk (L.hA.ag ∅) L.B L.O S (eN I T) ((C9 I T _).trans ⋯) T.nolimit (Xd I T L (ps:=["state","name"]) (φ:=Rl a) hp (λ _=>rfl) lt J fr ph) rfl (m:=m1+n1+n2+n3) (h1 _ ∅) rfl rfl rfl (h2 _ ∅) (h3 _ ∅) (st:=λ i=>Sx (FA a p i)) U (R _ ∅) ⋯ ⋯ λ f H C kd g=>?_);rw[x5] at C;exact a2.go #[s,f,H] Q E (C.ap (by rw[Y];exact Dg)) λ l O a0 t=>hQ l O a0 (Ab g t)
theorem jD (s:GW w h C k mg mb)(E:Cg k A)(B:Ip w h 181 z N)(H:Gm 5 (W2 a) p)(o:Ms a p=0):MB w h A z N (exec (Cx 30) z) (iB a p) (.ret (.bool true)):=by
 have O:=KA o;have e:(C7 a p).length=5:=by have:=O.length_eq;simpa using this
 rcases W7 H with⟨_,Q⟩ |⟨v,V,_,W⟩
 ·exact absurd o Q
 ·have Z:(FA a p 5).2=((C7 a p).reverse.foldl (OI (I9 a) (JA a)) (0,[])).2:=by
   unfold FA;rw[Cq (by rw[IN];omega)]
  have b:Of .max [AH (FA a p 5).2]=some (.int v):=by
   rw[Z];show(Fi _).bind (λ c=>(Mu c).map PV.int)=_;rw[J6,AX,W];rfl
  have d:IC a=.int v:=by unfold IC;rw[V];rfl
  conv in Cx 30=>whnf
  refine FC s E B (.ev (.gr (.ar (a:=.int v) (b:=.int v) (.bx (b:=.max) (ds:=[AH (FA a p 5).2]) ⋯ ⋯ (.cons (.aj (b:=Sx (FA a p 5)) (.aa ⋯) .int rfl (OW _ _)) .nil rfl) (_) b) (by rw[<-d];exact .aa ⋯) rfl rfl ?_)) rfl);rw[R7];simp
theorem Xb:MQ=[Cx 0,Cx 1,Cx 2,Cx 3,Cx 4,Cx 5,Cx 6,Cx 7,Cx 8,Cx 9,Cx 10,Cx 11,Cx 12,Cx 13,Cx 14,Cx 15,Cx 16,Cx 17,Cx 18,Cx 19,Cx 20,Cx 21,Cx 22,Cx 23,Cx 24,Cx 25,Cx 26,Cx 27,Cx 28,Cx 29,Cx 30]:=⋯
theorem gV:Ir:=⋯
theorem Xc (I:Hb w h)(T:DB a c mg mb h)(L:LE w h A z N)(H:b.length<=Bi):QP w h A z N MQ (Y0 b):=by
 have k:=gV;have O:Dh (W1 w h) C0 2 mg mb:=aK I T k;rw[Xb];refine t0 O L ∅ H ?_;generalize Mc (b.take 60)=Q;have o:Dh (W1 w h) (CL (Gb Q)) 2 mg mb:=dZ (k:=0) I T k Hu;have s:Cg 2 A:=L.hA.ag ∅;have B:=L.B;refine t1 I T k L (E1 (iY o s B) (E1 (iX o s B) (E1 (iW o s B) (E1 (iV o s B) (E1 (iU o s B) (E1 (iT o s B) (iS I T k L λ p E=>t3 I T k L E λ C=>jF I T k L C (E1 (iP o s B C) (jE I T k L C (bA (jD o s B E C)))))))))))
theorem Oa:Cg 9 callerA:=⟨rfl,by show 1+claimMargin+10*9<900;decide+kernel,by show 4+100*9<9000;decide⟩
theorem holds1:PySem.Challenge.rw_oy0180_01.Holds:=bL λ w s g i N W I a T b v r Q E c=>by
 have d:b.length<=Bi:=by
  cases r with
  |list e n z l=>
   have:=l.length;simp at this;omega
 have O:=cJ I T;have f:=O.names;refine Vm (k:=8) O ⋯ Oa (.refl _) (UO I a) r λ h A k H B S=>?_;have L:LE w s.heap (callerA.deeper h) h s.heap:=⟨B,Oa.down h,⟨rfl,by rw[H];show(Dq w 181).scope.kind≠_;rw[O.kind];simp,by rw[H];rfl,trivial,rfl⟩,by rw[H];exact XF f _ _,⟨_,H⟩⟩;exact(Xc I T L d).go #[s,A,k] _ _ S λ C o V Z=>c C o V
end Mine
theorem PySem.Challenge.cw_oy0180_01_holds : PySem.Challenge.rw_oy0180_01.Holds :=
 Mine.holds1
