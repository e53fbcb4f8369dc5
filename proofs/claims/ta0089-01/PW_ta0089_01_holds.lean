import PyProof.Rows.All
import Wide.All
import OpenK.AllK
import Wide.FinOn
import Open.Line
import Lean
import PySem.Challenge.RW_ta0089_01
open And renaming intro→UF
open Array renaming length_toList→Ax,getElem?_toList→A8,getElem?_eq_getElem→IA,size_replicate→KY,getD→Zr
open Bool renaming true→Ab,false→Ai,not_eq_true'→BG,and_eq_true→Co,false_eq_true→Ii,or_eq_false_iff→K7,not_eq_true→OA,or_eq_true→qL,and_true→xY
open Iff renaming rfl→VY
open Int renaming natCast_nonneg→AZ,fmod_nonneg_of_pos→BN,toNat_natCast→Cd,fmod_lt_of_pos→Cn,eq_ofNat_of_zero_le→Eu,natCast_mul→HO,natCast_add→HQ,toNat_of_nonneg→H1,fdiv_eq_ediv_of_nonneg→ID,fmod_eq_emod_of_nonneg→IE,natAbs_add_le→Jf,not_lt_of_ge→JM,mul_comm→Kr,mul_add→LM,pow_zero→Ox,pow_succ→Oy,natAbs_pow→RP,mul_assoc→Tw,one_mul→Zu
open List renaming length_map→Ag,all_eq_true→Al,casesOn→Aq,getElem?_eq_getElem→Ar,length_append→AB,replicate→AD,getD_eq_getElem?_getD→AK,mem_cons→AL,append_assoc→A0,getElem?_map→Ba,mem_of_getElem?→Bi,length_cons→Bl,range→Bp,map_map→BF,length_drop→BS,getElem?_append_right→BY,range'→BZ,getElem?_eq_none→Cf,size_toArray→Cw,toList_toArray→Cy,lookup_cons→CP,length_range→C3,map_append→C5,length_reverse→Da,take_of_length_le→Dn,length_take→Dv,append_nil→DT,map_cons→D3,filterMap_cons_none→D4,filterMap_cons_some→D5,length_filter_le→ET,range'_succ→Fm,length_set→FX,lookup_append→F0,reverse_cons→Gq,length_replicate→GV,lookup→Hk,nodup_cons→HI,map_congr_left→HN,drop_drop→Ij,getElem_mem→Jq,getElem?_set_self→Kb,drop_of_length_le→Kc,all_map→Kd,nil_append→Ko,getElem?_reverse→KD,drop_zero→K9,forIn_nil→La,mem_map_of_mem→LQ,reverse→Nj,map_reverse→OC,take_length→OD,length→OY,forIn_cons→PH,rec→QC,filterMap→QD,all_cons→RZ,map_drop→R0,map_take→R1,map_nil→UH,any_cons→yA
open Nat renaming le_trans→Ak,eq_of_beq_eq_true→Av,beq→AG,le_of_ble_eq_true→AN,lt_of_lt_of_le→AY,le_refl→A1,two_pow_pos→A3,casesOn→A5,lt_of_le_of_lt→Bc,mul_le_mul_left→Bf,mul_comm→Bg,zero_le→Bj,pow_le_pow_right→Bu,div_lt_of_lt_mul→BJ,mul_le_mul_right→BK,div_add_mod→BR,le_of_lt→B9,lt_irrefl→Ch,ne_of_lt→Ci,le_add_right→Cr,le_mul_of_pos_left→Cz,pow_add→CF,lt_or_ge→CV,zero_add→CW,pow_succ→CX,add_le_add_left→Di,le_succ→Dw,succ_ne_self→Dx,mod_lt→DH,le_add_left→DU,add_assoc→D8,le_mul_of_pos_right→Ev,le_antisymm→EP,min_eq_left→EQ,mul_lt_mul_of_pos_right→E0,mul_add→Fh,ne_of_gt→Fw,sub_self→Fy,blt→Fz,lt_of_lt_of_eq→F6,eq_zero_or_pos→F7,lt_trans→Gz,lt_succ_of_lt→GC,mul_succ→GE,succ_mul→GF,ble_eq_true_of_le→G7,lt_succ_self→G9,le_of_not_lt→Ha,mul_assoc→Hl,not_lt_zero→HP,ble→Ie,le_of_succ_le→Je,succ_ne_zero→JO,mul_zero→Km,le_of_eq→Kn,pow_zero→Kp,add_comm→Kq,le_div_iff_mul_le→K4,mul_le_mul→LL,one_le_two_pow→M1,succ_pos→Ow,succ_le_succ→OV,min_le_right→OW,mod_eq_of_lt→O0,one_mul→PJ,mul_one→PK,mul_add_mod→Qy,mul_add_div→Qz,beq_refl→VV,add_zero→VW
open Nat.le renaming intro→RV
open Nat.succ renaming inj→C4
open Option renaming some→Aa,none→Ae,map_some→JN
open Option.some renaming inj→AE
open Prod renaming fst→Wf
set_option Elab.async false
set_option linter.unusedVariables false
set_option maxRecDepth 100000
set_option genSizeOf false
set_option bootstrap.genMatcherCode false
set_option linter.all false
namespace Internal
noncomputable section
set_option backward.match.sparseCases false
open PySem PySem.Calls PyProof.Rows PySem.W
open PyProof.Rows renaming seqObj→B1,isTrue_and→DR,subscriptTail→E8,IfExp_→GA,isTrue_and_nil→GH,isTrue_or→Ih,listUpdate_at→OE,oneType'→Qw,get?_update_seq→Tv,IntsAre→UG,evalArgs_kw2→fK,ksk_end→fO,Subscript_→xU,kwAll_cons→xV,size_push'→xX
open PyProof.Rows.SortSt renaming mk'→Wb
open PySem renaming Expr→Ac,Value→Ad,Shared→Af,wpAny_bind→Ah,Addr→Aj,model→An,wpAny→As,wpAny_pure→At,wpAny_execs_cons→Ay,eval→AM,Heap→AV,wpAny_mono→A2,letOwnedTupleGo→Bh,Stmt→Bm,NameKind→Bq,Around→Br,wpAny_items_cons→BA,foldedSetIterable→BB,cellsFrom→BU,callEnvC→BX,World→B2,execs→B4,Comprehension→Cm,wpAny_Assign_Name→CG,recursionLimit→CH,seg_execs_cons→CI,wpAny_execs_nil→CO,Stmt→CU,call→C2,mainGlobals→C8,wpAny_Return_some→Dk,Fin→Ds,wpAny_holding→DI,wpAny_standAt→DJ,exec→DP,swapsWith→DQ,pyNext→D7,wpAny_items_nil→Ec,keeperOf→Ek,builtinsNs→Es,assignEach→Et,assign→EH,sizeLine_eq→ER,seqIndex?→E7,wpAny_assign_Name→Fk,sizeLine→Gg,starEach→Gh,wpAny_assignInOrder_more→Gi,Flow→Gj,compTurn→Gk,FuncData→Gl,wpAny_Call_Name_kw→GD,compareOp→GG,wpAny_callSpecial?_slot→GJ,wpAny_newObj_type→Hb,bindArgs→Hc,wpAny_isTrue_Compare1→HH,Arguments→HM,standAt→HZ,assignInOrder→H0,Operator→Ic,seg_wrap→Ig,theTreesLotGoes→IB,noteFrame→Jc,pushCells→Jd,wpAny_Name→Jm,wpAny_Compare1→Jn,wpAny_Expr_any→Jo,Keyword→Ka,wpAny_If→KZ,wpAny_call_entry→K1,setFlight→K2,DictEntry→K3,UnaryOp→LI,bootBuiltins→LJ,call_meets→LK,rawInt→MW,backTo→MX,truthy→MY,pyIter→MZ,firstArgMember→M0,swappedStores→OB,wpAny_rule→OZ,clipAt→O3,cLine→Qt,codeAny→Qv,wpAny_truthy_bool→Qx,storeName→RM,wpAny_isInstance→RN,wpAny_Try_except→RO,CmpOp→RS,wpAny_BinOp→RU,wpAny_throw→RW,wpAny_field→RX,holding→UE,evalPart→VX,closureFor→VZ,frameCount→V3,isSubtype_type→V4,FuncBody→V5,eval_ListComp→Zq,wpAny_attempt→Zs,wpAny_handled→Zt,isSubtype→Zz,Call_method1→fJ,fitsIndex_of→fL,assignStores→fM,BindsTo→fN,sliceBounds→qJ,wpAny_Tuple→qK,wpAny_of_eq→qM,interactive→qN,GenState→qO,Protocol→qP,sliceRange→xR,typeIs_str→xS,typeIs_int→xT,wpAny_call→xW,clipAt_nat→xZ,spliced→yV
open PySem.Around renaming frames_deeper→BH
open PySem.Builtin renaming divisionGoesByPylong→A7,bitXor→Dq,bitAnd→HL,bitOr→K5,bitNot→OX
open PySem.Builtin.Range renaming rangeSize→CK
open PySem.Builtin.Str renaming strSliceIndices→Bx
open PySem.Calls renaming evalArgs_plain→EG
open PySem.Data renaming casesOn→Nk,fields→Wa
open PySem.ExcName renaming means→IC
open PySem.Expr renaming casesOn→Hj
open PySem.F renaming plainAttrs_list→GU,plainAttrs_str→Qu
open PySem.Heap renaming get?_push_of_some→AS,lt_size→AT,get?_push_size→AW,SameBut→B8,get?_update_self→ES,size_push→K8
open PySem.Heap.SameBut renaming update→BI
open PySem.IsRange renaming new→Tu
open PySem.Keeper renaming boundFrame→Bt,machine→BO,frame→B3
open PySem.NameKind renaming cell→Cb
open PySem.Obj renaming mapSeq→Bn
open PySem.PyData renaming eqv→V9
open PySem.Sem renaming bind_eq_wrap'→D2,wrap_wrap→FY
open PySem.SeqAt renaming shaped→Ts
open PySem.Str renaming ofString→Fv,join→Zp
open PySem.Value renaming none→E6,casesOn→LR,ref→RY
open PySem.Value.ref renaming inj→KE
open PySem.W renaming callWith_of→C9,Looks→LP,kas_item→V0,looseW→V6,hideAll_get→qQ
set_option backward.match.sparseCases true
theorem A9{p q g:Prop}(h:p/\q)(k:(p->q->g)):g:=k h.1 h.2
theorem Db{p q r g:Prop}(h:p/\q/\r)(k:(p->q->r->g)):g:=k h.1 h.2.1 h.2.2
theorem CA{p q r s g:Prop}(h:p/\q/\r/\s)(k:(p->q->r->s->g)):g:=k h.1 h.2.1 h.2.2.1 h.2.2.2
theorem R4{p q r s t g:Prop}(h:p/\q/\r/\s/\t)(k:(p->q->r->s->t->g)):g:=k h.1 h.2.1 h.2.2.1 h.2.2.2.1 h.2.2.2.2
theorem rI{p q r s t u g:Prop}(h:p/\q/\r/\s/\t/\u)(k:(p->q->r->s->t->u->g)):g:=k h.1 h.2.1 h.2.2.1 h.2.2.2.1 h.2.2.2.2.1 h.2.2.2.2.2
theorem rH{p q r s t u v w g:Prop}(h:p/\q/\r/\s/\t/\u/\v/\w)(k:(p->q->r->s->t->u->v->w->g)):g:=k h.1 h.2.1 h.2.2.1 h.2.2.2.1 h.2.2.2.2.1 h.2.2.2.2.2.1 h.2.2.2.2.2.2.1 h.2.2.2.2.2.2.2
theorem Aw{α0:Sort _}{p:α0->Prop}{g:Prop}(h:∃a,p a)(k:(∀a,p a->g)):g:=h.elim λ a h=>k a h
theorem AF{α0:Sort _}{p q:α0->Prop}{g:Prop}(h:∃a,p a/\q a)(k:(∀a,p a->q a->g)):g:=h.elim λ a h=>k a h.1 h.2
theorem E3{α0:Sort _}{p q r:α0->Prop}{g:Prop}(h:∃a,p a/\q a/\r a)(k:(∀a,p a->q a->r a->g)):g:=h.elim λ a h=>k a h.1 h.2.1 h.2.2
theorem ZF{α0:Sort _}{p q r s:α0->Prop}{g:Prop}(h:∃a,p a/\q a/\r a/\s a)(k:(∀a,p a->q a->r a->s a->g)):g:=h.elim λ a h=>k a h.1 h.2.1 h.2.2.1 h.2.2.2
theorem x1a5{α0:Sort _}{p q r s t:α0->Prop}{g:Prop}(h:∃a,p a/\q a/\r a/\s a/\t a)(k:(∀a,p a->q a->r a->s a->t a->g)):g:=h.elim λ a h=>k a h.1 h.2.1 h.2.2.1 h.2.2.2.1 h.2.2.2.2
theorem x1a6{α0:Sort _}{p q r s t u:α0->Prop}{g:Prop}(h:∃a,p a/\q a/\r a/\s a/\t a/\u a)(k:(∀a,p a->q a->r a->s a->t a->u a->g)):g:=h.elim λ a h=>k a h.1 h.2.1 h.2.2.1 h.2.2.2.1 h.2.2.2.2.1 h.2.2.2.2.2
theorem F1{α0 α1:Sort _}{p:α0->α1->Prop}{g:Prop}(h:∃a b,p a b)(k:(∀a b,p a b->g)):g:=h.elim λ a h=>h.elim λ b h=>k a b h
theorem E1{α0 α1:Sort _}{p q:α0->α1->Prop}{g:Prop}(h:∃a b,p a b/\q a b)(k:(∀a b,p a b->q a b->g)):g:=h.elim λ a h=>h.elim λ b h=>k a b h.1 h.2
theorem El{α0 α1:Sort _}{p q r:α0->α1->Prop}{g:Prop}(h:∃a b,p a b/\q a b/\r a b)(k:(∀a b,p a b->q a b->r a b->g)):g:=h.elim λ a h=>h.elim λ b h=>k a b h.1 h.2.1 h.2.2
theorem Hm{α0 α1:Sort _}{p q r s:α0->α1->Prop}{g:Prop}(h:∃a b,p a b/\q a b/\r a b/\s a b)(k:(∀a b,p a b->q a b->r a b->s a b->g)):g:=h.elim λ a h=>h.elim λ b h=>k a b h.1 h.2.1 h.2.2.1 h.2.2.2
theorem yZ{α0 α1:Sort _}{p q r s t:α0->α1->Prop}{g:Prop}(h:∃a b,p a b/\q a b/\r a b/\s a b/\t a b)(k:(∀a b,p a b->q a b->r a b->s a b->t a b->g)):g:=h.elim λ a h=>h.elim λ b h=>k a b h.1 h.2.1 h.2.2.1 h.2.2.2.1 h.2.2.2.2
theorem yY{α0 α1:Sort _}{p q r s t u:α0->α1->Prop}{g:Prop}(h:∃a b,p a b/\q a b/\r a b/\s a b/\t a b/\u a b)(k:(∀a b,p a b->q a b->r a b->s a b->t a b->u a b->g)):g:=h.elim λ a h=>h.elim λ b h=>k a b h.1 h.2.1 h.2.2.1 h.2.2.2.1 h.2.2.2.2.1 h.2.2.2.2.2
theorem yX{α0 α1 α2:Sort _}{p:α0->α1->α2->Prop}{g:Prop}(h:∃a b c,p a b c)(k:(∀a b c,p a b c->g)):g:=h.elim λ a h=>h.elim λ b h=>h.elim λ c h=>k a b c h
theorem Lc{α0 α1 α2:Sort _}{p q:α0->α1->α2->Prop}{g:Prop}(h:∃a b c,p a b c/\q a b c)(k:(∀a b c,p a b c->q a b c->g)):g:=h.elim λ a h=>h.elim λ b h=>h.elim λ c h=>k a b c h.1 h.2
theorem Lb{α0 α1 α2:Sort _}{p q r:α0->α1->α2->Prop}{g:Prop}(h:∃a b c,p a b c/\q a b c/\r a b c)(k:(∀a b c,p a b c->q a b c->r a b c->g)):g:=h.elim λ a h=>h.elim λ b h=>h.elim λ c h=>k a b c h.1 h.2.1 h.2.2
theorem yW{α0 α1 α2:Sort _}{p q r s:α0->α1->α2->Prop}{g:Prop}(h:∃a b c,p a b c/\q a b c/\r a b c/\s a b c)(k:(∀a b c,p a b c->q a b c->r a b c->s a b c->g)):g:=h.elim λ a h=>h.elim λ b h=>h.elim λ c h=>k a b c h.1 h.2.1 h.2.2.1 h.2.2.2
theorem UJ{α0 α1 α2:Sort _}{p q r s t:α0->α1->α2->Prop}{g:Prop}(h:∃a b c,p a b c/\q a b c/\r a b c/\s a b c/\t a b c)(k:(∀a b c,p a b c->q a b c->r a b c->s a b c->t a b c->g)):g:=h.elim λ a h=>h.elim λ b h=>h.elim λ c h=>k a b c h.1 h.2.1 h.2.2.1 h.2.2.2.1 h.2.2.2.2
theorem x4a1{α0 α1 α2 α3:Sort _}{p:α0->α1->α2->α3->Prop}{g:Prop}(h:∃a b c d,p a b c d)(k:(∀a b c d,p a b c d->g)):g:=h.elim λ a h=>h.elim λ b h=>h.elim λ c h=>h.elim λ d h=>k a b c d h
theorem iJ{α0 α1 α2 α3:Sort _}{p q:α0->α1->α2->α3->Prop}{g:Prop}(h:∃a b c d,p a b c d/\q a b c d)(k:(∀a b c d,p a b c d->q a b c d->g)):g:=h.elim λ a h=>h.elim λ b h=>h.elim λ c h=>h.elim λ d h=>k a b c d h.1 h.2
theorem ZE{α0 α1 α2 α3:Sort _}{p q r:α0->α1->α2->α3->Prop}{g:Prop}(h:∃a b c d,p a b c d/\q a b c d/\r a b c d)(k:(∀a b c d,p a b c d->q a b c d->r a b c d->g)):g:=h.elim λ a h=>h.elim λ b h=>h.elim λ c h=>h.elim λ d h=>k a b c d h.1 h.2.1 h.2.2
theorem ZD{α0 α1 α2 α3:Sort _}{p q r s:α0->α1->α2->α3->Prop}{g:Prop}(h:∃a b c d,p a b c d/\q a b c d/\r a b c d/\s a b c d)(k:(∀a b c d,p a b c d->q a b c d->r a b c d->s a b c d->g)):g:=h.elim λ a h=>h.elim λ b h=>h.elim λ c h=>h.elim λ d h=>k a b c d h.1 h.2.1 h.2.2.1 h.2.2.2
theorem iP{Z:Sort _}{c:Prop}[Decidable c]{a b:Z}{P:Z->Prop}(h1:c->P a)(h2:¬c->P b):P (if c then a else b):=if h:c then(if_pos h).symm▸h1 h else(if_neg h).symm▸h2 h
theorem nn{Z:Type _}{a:Z}{g:Prop}(h:Ae=Aa a):g:=(by cases h)
theorem sj{Z:Type _}{a b:Z}(h:Aa a=Aa b):a=b:=AE h
theorem nf{P:Prop}(h:Ai=Ab):P:=(by cases h)
set_option backward.match.sparseCases false
set_option genInjectivity false
inductive V where
 |none
 |bool (b:Bool)
 |int (i:Int)
 |str (s:List Nat)
 |list (xs:List V)
 |tup (xs:List V)
 |fn (a:Nat)
inductive LV where
 |u
 |w (v:V)
 |x (xs:List V)
set_option genCtorIdx false
mutual
inductive O1 where
 |neg|inv|len|sum|bitlen|upper|lower|chr|isBool
inductive O2 where
 |a|sub|mul|fdiv|mod|pow|shl|shr|band|bor|bxor
 |eq|ne|lt|le|gt|is_|isnot|in_|notin
 |min|max|divmod|index|join|i
end
inductive Tg where
 |one (i:Nat)
 |m (is:List Nat)
noncomputable def Tg.vars:Tg->List Nat
 |.one i=>[i]
 |.m is=>is
mutual
inductive Ex where
 |c (v:V)
 |v (i:Nat)
 |gv (k:Nat)
 |a
 |o1 (o:O1) (a:Ex)
 |o2 (o:O2) (a b:Ex)
 |sl (a lo hi st:Ex)
 |not (a:Ex)
 |bool (and:Bool) (es:Fu)
 |f (t a b:Ex)
 |tup (es:Fu)
 |l (es:Fu)
 |call (f:Nat) (es:Fu) (key:Option Nat)
 |callv (i:Nat) (es:Fu)
 |callo (f:Nat) (i:Nat) (es:Fu)
 |idxo (i:Nat) (e:Ex)
 |isown (i j:Nat)
 |neo (i:Nat) (e:Ex)
 |comp (vs:List Nat) (t:Tg) (it:It) (cond:Fu) (elt:Ex)
 |comp2 (vs:List Nat) (t1:Tg) (it1:It) (t2:Tg) (it2:It) (cond:Fu) (elt:Ex)
 |lof (it:It)
 |sort (g:Nat) (e:Ex)
inductive It where
 |ex (e:Ex)
 |r (a:Ex)
 |rng2 (a b:Ex)
 |rng3 (a b c:Ex)
 |zip (a b:Ex)
 |rev (a:Ex)
inductive Fu where
 |nil
 |cons (e:Ex) (es:Fu)
end
mutual
inductive St where
 |asg (i:Nat) (e:Ex)
 |asgL (is:List Nat) (e:Ex)
 |asgT (is:List Nat) (e:Ex)
 |t (is:List Nat) (own:List Bool) (es:Fu)
 |asgO (i:Nat) (e:Ex)
 |asgOc (i:Nat) (f:Nat) (es:Fu)
 |aug (i:Nat) (o:O2) (e:Ex)
 |append (i:Nat) (e:Ex)
 |reverse (i:Nat)
 |setidx (i:Nat) (e v:Ex)
 |n (f:Nat) (i:Nat) (e:Ex) (key:Option Nat)
 |pops (i:Nat) (j:Nat) (vs:List Nat) (k:Nat)
 |frz (i:Nat)
 |f (t:Ex) (a b:E5)
 |y (t:Ex) (b:E5)
 |for_ (t:Tg) (it:It) (b:E5)
 |g (t:Tg) (f:Nat) (e:Ex) (b:E5)
 |ret (e:Ex)
 |reto (i:Nat)
 |bad
inductive E5 where
 |nil
 |cons (s:St) (r:E5)
end
noncomputable def CN:Nat:=16777216
noncomputable def BV(x:Int):Nat:=if x==0 then 0 else x.natAbs.log2+1
noncomputable def truthy:V->Option Bool
 |.none=>Aa Ai
 |.bool b=>Aa b
 |.int i=>Aa (i !=0)
 |.str s=>Aa (!s.isEmpty)
 |.list xs=>Aa (!xs.isEmpty)
 |.tup _=>.none
 |.fn _=>.none
mutual
noncomputable def V.beq:V->V->Bool
 |.none,.none=>Ab
 |.int a,.int b=>a==b
 |.str a,.str b=>a==b
 |.list a,.list b=>V.beqs a b
 |.tup a,.tup b=>V.beqs a b
 |_,_=>Ai
noncomputable def V.beqs:List V->List V->Bool
 |[],[]=>Ab
 |a::as,b::bs=>V.beq a b&&V.beqs as bs
 |_,_=>Ai
end
noncomputable def okW(f:V->Bool):V->Bool
 |.none=>Ab
 |.int _=>Ab
 |.str x=>x.all (·<55296)
 |.list ds=>ds.all f
 |.tup ds=>ds.all f
 |_=>Ai
noncomputable def V.ok:Nat->V->Bool
 |0,_=>Ai
 |n+1,x=>okW (V.ok n) x
noncomputable def Xs(x y:List Nat):Bool:=decide (x<y)
noncomputable def SG(c:Nat):Nat:=if 65<=c&&c<=90 then c+32 else c
noncomputable def qS(c:Nat):Nat:=if 97<=c&&c<=122 then c - 32 else c
noncomputable def aN{Z:Type}(n:Nat)(c:Nat->Nat->Bool):PySem.W.KasT Z->Option Z
 |.ret a=>Aa a
 |.ask i j k=>if i<n/\j<n then aN n c (k (c i j)) else Ae
def Nr(ks:List Int)(xs:List V):Option (List V):=
 if xs.length<2 then Aa xs else(aN xs.length (λ i j=>decide (ks.getD i 0<ks.getD j 0)) (PySem.W.kas_sort xs.length)).bind λ p=>if p.toList.all λ i=>decide (i<xs.length) then Aa (p.toList.map λ i=>xs.getD i .none) else Ae
noncomputable def Nt(i:Int):Bool:=decide (-1000000000000<=i)&&decide (i<=1000000000000)
def JD{Z:Type}(xs:List Z)(i:Int):Option Z:=if Nt i then(E7 i xs.length).bind λ j=>xs[j]? else Ae
noncomputable def KA:V->Nat
 |.int _=>1
 |.str _=>2
 |_=>0
def XW(v:V)(xs:List V):Option Nat:=if xs.findIdx (λ x=>V.beq x v)<xs.length then Aa (xs.findIdx λ x=>V.beq x v) else Ae
noncomputable def Bb:V->Option Int
 |.int i=>Aa i
 |_=>Ae
noncomputable def Jb:V->Option (List Nat)
 |.str s=>Aa s
 |_=>Ae
noncomputable def BD:V->Option (List V)
 |.list xs=>Aa xs
 |_=>Ae
noncomputable def On:V->Option (List V)
 |.list xs=>Aa xs
 |.tup xs=>Aa xs
 |_=>Ae
noncomputable def fB:V->Option Nat
 |.fn f=>Aa f
 |_=>Ae
def Ca{Z:Type}(c:Bool)(a b:Option Z):Option Z:=@Bool.rec (λ z=>Option Z) b a c
noncomputable def Pk:List V->Option (List Nat)
 |[]=>Aa []
 |x::r=>(Jb x).bind λ s=>(Pk r).map λ y=>s++y
noncomputable def PM:List V->Option Int
 |[]=>Aa 0
 |x::r=>(Bb x).bind λ i=>(PM r).map (i+·)
noncomputable def lenV:V->Option V
 |.str s=>Aa (.int s.length)
 |.list s=>Aa (.int s.length)
 |.tup s=>Aa (.int s.length)
 |_=>Ae
noncomputable def cW:V->Option V
 |.bool _=>Aa (.bool Ab)
 |.int _=>Aa (.bool Ai)
 |_=>Ae
def QA:O1->V->Option V:=λ o=>@O1.casesOn (λ z=>V->Option V) o
 (λ a=>(Bb a).map λ i=>.int (-i))
 (λ a=>(Bb a).map λ i=>.int (-i - 1))
 lenV
 (λ a=>(BD a).bind λ xs=>(PM xs).map .int)
 (λ a=>(Bb a).map λ i=>.int (BV i))
 (λ a=>(Jb a).bind λ s=>if s.all (·<128) then Aa (.str (s.map qS)) else Ae)
 (λ a=>(Jb a).bind λ s=>if s.all (·<128) then Aa (.str (s.map SG)) else Ae)
 (λ a=>(Bb a).bind λ i=>if 0<=i/\i<128 then Aa (.str [i.toNat]) else Ae)
 cW
def Jh(a b:V)(f:Int->Int->Option V):Option V:=(Bb a).bind λ i=>(Bb b).bind (f i)
noncomputable def Zd:V->Option Bool
 |.bool b=>Aa b
 |_=>Ae
noncomputable def xE:V->Option Nat
 |.str [c]=>Aa c
 |_=>Ae
noncomputable def isNone:V->Option Bool
 |.none=>Aa Ab
 |.int _=>Aa Ai
 |.fn _=>Aa Ai
 |_=>Ae
def okB(a b:V)(c:Bool):Option V:=if V.ok 8 a&&V.ok 8 b then Aa (.bool c) else Ae
def addV(a b:V):Option V:=match a with
 |.int i=>(Bb b).map λ j=>.int (i+j)
 |.str x=>(Jb b).bind λ y=>if x.length+y.length<=CN then Aa (.str (x++y)) else Ae
 |.list x=>(BD b).bind λ y=>if x.length+y.length<=CN then Aa (.list (x++y)) else Ae
 |_=>Ae
def ltV(a b:V):Option V:=match a with
 |.int i=>(Bb b).map λ j=>.bool (decide (i<j))
 |.str x=>(Jb b).map λ y=>.bool (Xs x y)
 |_=>Ae
def isV(a b:V):Option V:=match b with
 |.none=>(isNone a).map .bool
 |_=>Ae
def idxV(a b:V):Option V:=match a with
 |.list xs=>(Bb b).bind (JD xs)
 |.tup xs=>(Bb b).bind (JD xs)
 |.str xs=>(Bb b).bind λ i=>(JD xs i).map λ c=>.str [c]
 |_=>Ae
def mulV(a b:V):Option V:=Jh a b λ i j=>if BV i<=1048576/\BV j<=1048576 then Aa (.int (i*j)) else Ae
def vW(a b:V):Option V:=Jh a b λ i j=>if j≠0/\A7 i j=Ai then Aa (.int (i.fdiv j)) else Ae
def modV(a b:V):Option V:=Jh a b λ i j=>if j≠0/\A7 i j=Ai then Aa (.int (i.fmod j)) else Ae
def zR(a b:V):Option V:=Jh a b λ i j=>if 0<=j/\(BV i:Int)*j<=134217728 then Aa (.int (i^j.toNat)) else Ae
def zG(a b:V):Option V:=Jh a b λ i j=>if 0<=j/\(BV i:Int)+j<=134217728 then Aa (.int (i*2^j.toNat)) else Ae
def zF(a b:V):Option V:=Jh a b λ i j=>if 0<=j then Aa (.int (i.fdiv (2^j.toNat))) else Ae
def inV(a b:V):Option V:=(BD b).bind λ xs=>if V.ok 8 a&&xs.all (V.ok 8) then Aa (.bool (xs.any λ y=>V.beq y a)) else Ae
def dY(a b:V):Option V:=Jh a b λ i j=>if j≠0/\A7 i j=Ai then Aa (.tup [.int (i.fdiv j),.int (i.fmod j)]) else Ae
def mT(a b:V):Option V:=(BD a).bind λ xs=>if KA b !=0&&xs.all (λ y=>KA y==KA b) then(XW b xs).map λ (n:Nat)=>V.int (n:Int) else Ae
def uS(a b:V):Option V:=(Jb a).bind λ s=>Ca s.isEmpty ((BD b).bind λ xs=>(Pk xs).bind λ y=>if y.length<=CN then Aa (.str y) else Ae) Ae
def Cj:O2->V->V->Option V:=λ o=>@O2.casesOn (λ z=>V->V->Option V) o
 addV
 (λ a b=>Jh a b λ i j=>Aa (.int (i - j)))
 mulV vW modV zR zG zF
 (λ a b=>Jh a b λ i j=>Aa (.int (HL i j)))
 (λ a b=>Jh a b λ i j=>Aa (.int (K5 i j)))
 (λ a b=>Jh a b λ i j=>Aa (.int (Dq i j)))
 (λ a b=>okB a b (V.beq a b))
 (λ a b=>okB a b (!V.beq a b))
 ltV
 (λ a b=>Jh a b λ i j=>Aa (.bool (decide (i<=j))))
 (λ a b=>Jh a b λ i j=>Aa (.bool (decide (j<i))))
 isV
 (λ a b=>(Zd a).bind λ x=>(Zd b).map λ y=>.bool (x !=y))
 inV
 (λ a b=>(xE a).bind λ c=>(Jb b).map λ y=>.bool (!y.contains c))
 (λ a b=>Jh a b λ i j=>Aa (.int (if j<i then j else i)))
 (λ a b=>Jh a b λ i j=>Aa (.int (if j>i then j else i)))
 dY mT uS idxV
noncomputable def GX:V->Option (Option Int)
 |.none=>Aa Ae
 |.int i=>Aa (Aa i)
 |_=>Ae
noncomputable def EA{Z:Type}(xs:List Z)(lo hi st:Option Int):List Z:=(xR (qJ lo hi st xs.length).1 (qJ lo hi st xs.length).2.1 (qJ lo hi st xs.length).2.2).filterMap λ i=>xs[i]?
def aG(s:List Nat)(lo hi st:Option Int):Option V:=if st=Ae then Aa (.str (if(Bx lo hi 1 s.length).length==s.length then s else EA s lo hi Ae)) else Ae
def zE(xs:List V)(lo hi st:Option Int):Option V:=if st=Aa 0 then Ae else Aa (.list (EA xs lo hi st))
def P9(a lo hi st:V):Option V:=(GX lo).bind λ l=>(GX hi).bind λ h=>(GX st).bind λ k=>match a with
 |.str s=>aG s l h k
 |.list xs=>zE xs l h k
 |_=>Ae
noncomputable def Hq(a b c:Int):List V:=(Bp (CK a b c).toNat).map λ (k:Nat)=>.int (a+k*c)
def Dc(a b c:Int):Option (List V):=if(Builtin.Range.small a b c&&decide (0<=CK a b c))&&(decide (c≠0)&&!A7 (b - a) c) then Aa (Hq a b c) else Ae
noncomputable def Iq:List Int:=[4000,40,2,1]
abbrev AQ:=List LV
def rd(U:AQ)(i:Nat):LV:=@QC LV (λ z=>Nat->LV) (λ z=>.u) (λ x z ih i=>@Nat.rec (λ z=>LV) x (λ j z=>ih j) i) U i
def wr(U:AQ)(i:Nat)(x:LV):AQ:=@QC LV (λ z=>Nat->AQ) (λ z=>[]) (λ y r ih i=>@Nat.rec (λ z=>AQ) (x::r) (λ j z=>y::ih j) i) U i
theorem MF:∀(U:AQ) (i:Nat),rd U i=U.getD i .u
:=λ U=>by
 induction U with
 |nil=>exact λ _=>rfl
 |cons x r IH=>exact λ i=>A5 i rfl IH
theorem Ks:∀(U:AQ) (i:Nat) (x:LV),wr U i x=U.set i x
:=λ U=>by
 induction U with
 |nil=>exact λ _ _=>rfl
 |cons y r IH=>exact λ i x=>A5 i rfl λ i=>congrArg (y::·) (IH i x)
theorem GO{U:AQ}{i:Nat}{x:LV}:(wr U i x).length=U.length:=by rw[Ks];exact FX
noncomputable def KM:List Nat->List V->AQ->Option AQ
 |[],[],U=>Aa U
 |i::is,v::vs,U=>KM is vs (wr U i (.w v))
 |_,_,_=>Ae
def Ck:Tg->V->AQ->Option AQ
 |.one i,v,U=>Aa (wr U i (.w v))
 |.m is,.tup vs,U=>KM is vs U
 |_,_,_=>Ae
noncomputable def Du:List Nat->AQ->AQ
 |[],U=>U
 |v::vs,U=>Du vs (wr U v .u)
def noOwn(vs:List Nat)(U:AQ):Bool:=vs.all λ v=>match rd U v with
 |.x _=>Ai
 |_=>Ab
abbrev EZ:=Nat->List V->Option Nat->Option V
noncomputable def LS(as bs:List V):List V:=List.zipWith (λ a b=>.tup [a,b]) as bs
noncomputable def Eb(f:V->Option (List V)):List V->Option (List V)
 |[]=>Aa []
 |x::r=>(f x).bind λ ys=>(Eb f r).map λ zs=>ys++zs
noncomputable def Lq(G:EZ)(g:Nat):List V->Option (List (Int×V))
 |[]=>Aa []
 |x::r=>((G g [x] Ae).bind Bb).bind λ k=>(Lq G g r).map λ ks=>(k,x)::ks
noncomputable def ED(c:AQ->Option Bool)(e:AQ->Option V)(U:AQ):Option (List V):=(c U).bind λ b=>if b then(e U).map λ v=>[v] else Aa []
def JK(vs:List Nat)(t:Tg)(f:AQ->Option (List V))(U:AQ)(xs:List V):Option V:=
 if noOwn vs U then(Eb (λ x=>(Ck t x (Du vs U)).bind f) xs).bind λ ys=>if ys.length<=CN then Aa (.list ys) else Ae else Ae
noncomputable def Bv:LV->Option V
 |.w v=>Aa v
 |_=>Ae
noncomputable def EE:LV->Option (List V)
 |.x xs=>Aa xs
 |_=>Ae
structure Ou where
 v:AQ->Option (List V)
 t:AQ->Option Bool
 b:Bool->AQ->Option V
noncomputable def Yy:Ou:=⟨λ z=>Aa [],λ z=>Aa Ab,λ z z=>Ae⟩
def exB(es:Fu)(x:AQ->Option V)(y:Bool->AQ->Option V)(and:Bool)(U:AQ):Option V:=@Fu.casesOn (λ z=>Option V) es (x U) λ z z=>(x U).bind λ v=>(truthy v).bind λ b=>Ca (b==and) (y and U) (Aa v)
def SY(es:Fu)(x:AQ->Option V)(y:Ou):Ou:=
 ⟨λ U=>(x U).bind λ v=>(y.v U).map λ vs=>v::vs,λ U=>((x U).bind truthy).bind λ b=>Ca b (y.t U) (Aa Ai),exB es x y.b⟩
def k1(o:O1)(x:AQ->Option V)(U:AQ):Option V:=(x U).bind (QA o)
def k2(o:O2)(x y:AQ->Option V)(U:AQ):Option V:=(x U).bind λ u=>(y U).bind (Cj o u)
def kSl(a lo hi st:AQ->Option V)(U:AQ):Option V:=(a U).bind λ x=>(lo U).bind λ l=>(hi U).bind λ h=>(st U).bind (P9 x l h)
def kIf(t a b:AQ->Option V)(U:AQ):Option V:=((t U).bind truthy).bind λ c=>Ca c (a U) (b U)
def SK(G:EZ)(i:Nat)(es:Ou)(U:AQ):Option V:=((Bv (rd U i)).bind fB).bind λ f=>(es.v U).bind λ vs=>G f vs Ae
def SL(G:EZ)(f i:Nat)(es:Ou)(U:AQ):Option V:=(EE (rd U i)).bind λ xs=>(es.v U).bind λ vs=>((G f (.list xs::vs) Ae).bind Bb).map .int
def P4(i:Nat)(f:List V->AQ->Option V)(U:AQ):Option V:=(EE (rd U i)).bind λ xs=>f xs U
def XH(vs:List Nat)(t:Tg)(it:AQ->Option (List V))(cond:Ou)(elt:AQ->Option V)(U:AQ):Option V:=(it U).bind (JK vs t (ED cond.t elt) U)
def SJ(vs:List Nat)(t1:Tg)(it1:AQ->Option (List V))(t2:Tg)(it2:AQ->Option (List V))(cond:Ou)(elt:AQ->Option V)(U:AQ):Option V:=(it1 U).bind (JK vs t1 (λ U'1=>(it2 U'1).bind (Eb λ y=>(Ck t2 y U'1).bind (ED cond.t elt))) U)
def XG(G:EZ)(g:Nat)(x:AQ->Option V)(U:AQ):Option V:=((x U).bind BD).bind λ xs=>if xs.length<64 then((Lq G g xs).bind λ ks=>Nr (ks.map (·.1)) xs).map .list else Ae
def mM(a b c:AQ->Option V)(U:AQ):Option (List V):=((a U).bind Bb).bind λ m=>((b U).bind Bb).bind λ n=>((c U).bind Bb).bind λ d=>Dc m n d
def ev(G:EZ):Ex->AQ->Option V:=@Ex.rec (λ z=>AQ->Option V) (λ z=>AQ->Option (List V)) (λ z=>Ou)
 (λ v z=>Aa v) (λ i U=>Bv (rd U i)) (λ k z=>(Iq[k]?).map .int) (λ z=>Aa .none) (λ o z=>k1 o) (λ o z z=>k2 o) (λ z z z z=>kSl) (λ z x U=>((x U).bind truthy).map λ b=>.bool (!b)) (λ and z y=>y.b and) (λ z z z=>kIf)
 (λ z y U=>(y.v U).map .tup) (λ z y U=>(y.v U).map .list) (λ f z key y U=>(y.v U).bind λ vs=>G f vs key) (λ i z=>SK G i) (λ f i z=>SL G f i) (λ i z x=>P4 i λ xs U=>(x U).bind (Cj .i (.list xs))) (λ i j=>P4 i λ z U=>((Bv (rd U j)).bind BD).map λ z=>.bool Ai) (λ i z x=>P4 i λ xs U=>(x U).bind (Cj .ne (.list xs)))
 (λ vs t z z z=>XH vs t) (λ vs t1 z t2 z z z i1 i2=>SJ vs t1 i1 t2 i2) (λ z it U=>(it U).bind λ xs=>if xs.length<=CN then Aa (.list xs) else Ae) (λ g z=>XG G g)
 (λ z x U=>(x U).bind On) (λ z x U=>((x U).bind Bb).bind λ n=>Dc 0 n 1) (λ z z x y U=>((x U).bind Bb).bind λ m=>((y U).bind Bb).bind λ n=>Dc m n 1) (λ z z z=>mM) (λ z z x y U=>((x U).bind BD).bind λ xs=>((y U).bind BD).map λ ys=>LS xs ys) (λ z x U=>((x U).bind BD).map Nj)
 Yy (λ z es x y=>SY es x y)
def EU(G:EZ):It->AQ->Option (List V):=@It.rec (λ z=>AQ->Option V) (λ z=>AQ->Option (List V)) (λ z=>Ou)
 (λ v z=>Aa v) (λ i U=>Bv (rd U i)) (λ k z=>(Iq[k]?).map .int) (λ z=>Aa .none) (λ o z=>k1 o) (λ o z z=>k2 o) (λ z z z z=>kSl) (λ z x U=>((x U).bind truthy).map λ b=>.bool (!b)) (λ and z y=>y.b and) (λ z z z=>kIf)
 (λ z y U=>(y.v U).map .tup) (λ z y U=>(y.v U).map .list) (λ f z key y U=>(y.v U).bind λ vs=>G f vs key) (λ i z=>SK G i) (λ f i z=>SL G f i) (λ i z x=>P4 i λ xs U=>(x U).bind (Cj .i (.list xs))) (λ i j=>P4 i λ z U=>((Bv (rd U j)).bind BD).map λ z=>.bool Ai) (λ i z x=>P4 i λ xs U=>(x U).bind (Cj .ne (.list xs)))
 (λ vs t z z z=>XH vs t) (λ vs t1 z t2 z z z i1 i2=>SJ vs t1 i1 t2 i2) (λ z it U=>(it U).bind λ xs=>if xs.length<=CN then Aa (.list xs) else Ae) (λ g z=>XG G g)
 (λ z x U=>(x U).bind On) (λ z x U=>((x U).bind Bb).bind λ n=>Dc 0 n 1) (λ z z x y U=>((x U).bind Bb).bind λ m=>((y U).bind Bb).bind λ n=>Dc m n 1) (λ z z z=>mM) (λ z z x y U=>((x U).bind BD).bind λ xs=>((y U).bind BD).map λ ys=>LS xs ys) (λ z x U=>((x U).bind BD).map Nj)
 Yy (λ z es x y=>SY es x y)
def nV(G:EZ):Fu->Ou:=@Fu.rec (λ z=>AQ->Option V) (λ z=>AQ->Option (List V)) (λ z=>Ou)
 (λ v z=>Aa v) (λ i U=>Bv (rd U i)) (λ k z=>(Iq[k]?).map .int) (λ z=>Aa .none) (λ o z=>k1 o) (λ o z z=>k2 o) (λ z z z z=>kSl) (λ z x U=>((x U).bind truthy).map λ b=>.bool (!b)) (λ and z y=>y.b and) (λ z z z=>kIf)
 (λ z y U=>(y.v U).map .tup) (λ z y U=>(y.v U).map .list) (λ f z key y U=>(y.v U).bind λ vs=>G f vs key) (λ i z=>SK G i) (λ f i z=>SL G f i) (λ i z x=>P4 i λ xs U=>(x U).bind (Cj .i (.list xs))) (λ i j=>P4 i λ z U=>((Bv (rd U j)).bind BD).map λ z=>.bool Ai) (λ i z x=>P4 i λ xs U=>(x U).bind (Cj .ne (.list xs)))
 (λ vs t z z z=>XH vs t) (λ vs t1 z t2 z z z i1 i2=>SJ vs t1 i1 t2 i2) (λ z it U=>(it U).bind λ xs=>if xs.length<=CN then Aa (.list xs) else Ae) (λ g z=>XG G g)
 (λ z x U=>(x U).bind On) (λ z x U=>((x U).bind Bb).bind λ n=>Dc 0 n 1) (λ z z x y U=>((x U).bind Bb).bind λ m=>((y U).bind Bb).bind λ n=>Dc m n 1) (λ z z z=>mM) (λ z z x y U=>((x U).bind BD).bind λ xs=>((y U).bind BD).map λ ys=>LS xs ys) (λ z x U=>((x U).bind BD).map Nj)
 Yy (λ z es x y=>SY es x y)
def IS(G:EZ)(es:Fu):AQ->Option (List V):=(nV G es).v
def CC(G:EZ)(es:Fu):AQ->Option Bool:=(nV G es).t
def yK(G:EZ)(and:Bool)(es:Fu):AQ->Option V:=(nV G es).b and
def Gr(G:EZ)(e:Ex)(U:AQ):Option Bool:=(ev G e U).bind truthy
noncomputable def FU:List Nat->Nat->Bool->List V
 |[],p,esc=>if esc then[.tup [.int ((p:Int) - 1),.str [92]]] else[]
 |c::r,p,Ab=>.tup [.int p,.str [92,c]]::FU r (p+1) Ai
 |c::r,p,Ai=>if c=92 then FU r (p+1) Ab else .tup [.int p,.str [c]]::FU r (p+1) Ai
def HK(l:List Nat)(p:Nat):List V:=FU l p Ai
noncomputable def JC(xs:List V)(k:Nat)(x:V):List V:=xs.take k++x::xs.drop k
def IP(G:EZ)(f:Nat)(key:Option Nat)(xs:List V)(x:V):Option (List V):=
 (match key with|none=>Aa x|some g=>G g [x] Ae).bind λ kx=>
  ((Ca (f==111) (G 120 [.list xs,kx,.int 0,.none] key) (Ca (f==93) (G 102 [.list xs,kx,.int 0,.none] key) Ae)).bind Bb).bind λ p=>if 0<=p/\p.toNat<=xs.length/\xs.length<CN then Aa (JC xs p.toNat x) else Ae
set_option genCtorIdx true
inductive Fl where
 |next
 |ret (v:V)
 |reto (xs:List V)
noncomputable def E9(x:Fl×AQ)(r:AQ->Option (Fl×AQ)):Option (Fl×AQ):=match x.1 with
 |.next=>r x.2
 |f=>Aa (f,x.2)
noncomputable def G2(n:Nat)(t:AQ->Option Bool)(b:AQ->Option (Fl×AQ))(U:AQ):Option (Fl×AQ):=match n with
 |0=>Ae
 |n+1=>(t U).bind λ c=>Ca c ((b U).bind λ r=>E9 r (G2 n t b)) (Aa (.next,U))
noncomputable def B7(t:Tg)(b:AQ->Option (Fl×AQ)):List V->AQ->Option (Fl×AQ)
 |[],U=>Aa (.next,U)
 |x::xs,U=>(Ck t x U).bind λ U'=>(b U').bind λ r=>E9 r (B7 t b xs)
noncomputable def L2:List V->List V->Option (List V×List V)
 |[],left=>Aa ([],left)
 |x::ks,left=>(Bb x).bind λ k=>if 0<=k then(left[k.toNat]?).bind λ v=>(L2 ks (left.eraseIdx k.toNat)).map λ r=>(v::r.1,r.2) else Ae
noncomputable def Kv:List Nat->List Bool->List V->AQ->Option AQ
 |[],[],[],U=>Aa U
 |i::is,Ai::fs,v::vs,U=>Kv is fs vs (wr U i (.w v))
 |i::is,Ab::fs,.list xs::vs,U=>Kv is fs vs (wr U i (.x xs))
 |_,_,_,_=>Ae
noncomputable def M7:V->Bool
 |.list _=>Ab
 |_=>Ai
def tA(i:Nat)(o:O2)(y:AQ->Option V)(U:AQ):Option (Fl×AQ):=(Bv (rd U i)).bind λ x=>Ca (M7 x) Ae ((y U).bind λ y=>(Cj o x y).map λ v=>(.next,wr U i (.w v)))
def tC(i:Nat)(y:AQ->Option V)(U:AQ):Option (Fl×AQ):=(EE (rd U i)).bind λ xs=>(y U).bind λ v=>if xs.length<CN then Aa (.next,wr U i (.x (xs++[v]))) else Ae
def sY(i:Nat)(e v:AQ->Option V)(U:AQ):Option (Fl×AQ):=(EE (rd U i)).bind λ xs=>(v U).bind λ y=>((e U).bind Bb).bind λ k=>if 0<=k/\k.toNat<xs.length then Aa (.next,wr U i (.x (xs.set k.toNat y))) else Ae
def sZ(G:EZ)(f i:Nat)(e:AQ->Option V)(key:Option Nat)(U:AQ):Option (Fl×AQ):=(EE (rd U i)).bind λ xs=>(e U).bind λ v=>(IP G f key xs v).map λ ys=>(.next,wr U i (.x ys))
def gA(i j:Nat)(vs:List Nat)(k:Nat)(U:AQ):Option (Fl×AQ):=Ca (noOwn vs U&&vs.all λ v=>decide (v<U.length)) ((EE (rd U j)).bind λ left=>((Bv (rd U k)).bind BD).bind λ ks=>(L2 ks left).map λ r=>(.next,wr (wr U j (.x r.2)) i (.w (.list r.1)))) Ae
def CD(G:EZ)(F:Nat):St->AQ->Option (Fl×AQ):=@St.rec (λ z=>AQ->Option (Fl×AQ)) (λ z=>AQ->Option (Fl×AQ))
 (λ i e U=>(ev G e U).map λ v=>(.next,wr U i (.w v)))
 (λ is e U=>(ev G e U).map λ v=>(.next,is.foldl (λ U i=>wr U i (.w v)) U))
 (λ is e U=>(ev G e U).bind λ v=>(Ck (.m is) v U).map λ U'=>(.next,U'))
 (λ is fs es U=>(IS G es U).bind λ vs=>(Kv is fs vs U).map λ U'=>(.next,U'))
 (λ i e U=>((ev G e U).bind BD).map λ xs=>(.next,wr U i (.x xs)))
 (λ i f es U=>((IS G es U).bind λ vs=>(G f vs Ae).bind BD).map λ xs=>(.next,wr U i (.x xs)))
 (λ i o e=>tA i o (ev G e)) (λ i e=>tC i (ev G e))
 (λ i U=>(EE (rd U i)).map λ xs=>(.next,wr U i (.x xs.reverse)))
 (λ i e v=>sY i (ev G e) (ev G v)) (λ f i e key=>sZ G f i (ev G e) key) gA
 (λ i U=>(EE (rd U i)).map λ xs=>(.next,wr U i (.w (.list xs))))
 (λ t z z a b U=>(Gr G t U).bind λ c=>Ca c (a U) (b U))
 (λ t z b U=>G2 F (Gr G t) b U)
 (λ t it z b U=>(EU G it U).bind λ xs=>B7 t b xs U)
 (λ t f e z b U=>((ev G e U).bind Jb).bind λ s=>Ca (f==21&&s.all λ c=>decide (c<128)) (B7 t b (HK s 0) U) Ae)
 (λ e U=>(ev G e U).map λ v=>(.ret v,U))
 (λ i U=>(EE (rd U i)).map λ xs=>(.reto xs,U))
 (λ z=>Ae)
 (λ U=>Aa (.next,U)) (λ z z s r U=>(s U).bind λ x=>E9 x r)
def Bw(G:EZ)(F:Nat):E5->AQ->Option (Fl×AQ):=@E5.rec (λ z=>AQ->Option (Fl×AQ)) (λ z=>AQ->Option (Fl×AQ))
 (λ i e U=>(ev G e U).map λ v=>(.next,wr U i (.w v)))
 (λ is e U=>(ev G e U).map λ v=>(.next,is.foldl (λ U i=>wr U i (.w v)) U))
 (λ is e U=>(ev G e U).bind λ v=>(Ck (.m is) v U).map λ U'=>(.next,U'))
 (λ is fs es U=>(IS G es U).bind λ vs=>(Kv is fs vs U).map λ U'=>(.next,U'))
 (λ i e U=>((ev G e U).bind BD).map λ xs=>(.next,wr U i (.x xs)))
 (λ i f es U=>((IS G es U).bind λ vs=>(G f vs Ae).bind BD).map λ xs=>(.next,wr U i (.x xs)))
 (λ i o e=>tA i o (ev G e)) (λ i e=>tC i (ev G e))
 (λ i U=>(EE (rd U i)).map λ xs=>(.next,wr U i (.x xs.reverse)))
 (λ i e v=>sY i (ev G e) (ev G v)) (λ f i e key=>sZ G f i (ev G e) key) gA
 (λ i U=>(EE (rd U i)).map λ xs=>(.next,wr U i (.w (.list xs))))
 (λ t z z a b U=>(Gr G t U).bind λ c=>Ca c (a U) (b U))
 (λ t z b U=>G2 F (Gr G t) b U)
 (λ t it z b U=>(EU G it U).bind λ xs=>B7 t b xs U)
 (λ t f e z b U=>((ev G e U).bind Jb).bind λ s=>Ca (f==21&&s.all λ c=>decide (c<128)) (B7 t b (HK s 0) U) Ae)
 (λ e U=>(ev G e U).map λ v=>(.ret v,U))
 (λ i U=>(EE (rd U i)).map λ xs=>(.reto xs,U))
 (λ z=>Ae)
 (λ U=>Aa (.next,U)) (λ z z s r U=>(s U).bind λ x=>E9 x r)
set_option genInjectivity false
noncomputable def vY:List Nat->List Nat->Bool
 |[],[]=>Ab
 |a::as,b::bs=>AG a b&&vY as bs
 |_,_=>Ai
theorem Uo:∀{a b:List Nat},vY a b=Ab->a=b
:=@λ a=>by
 induction a with
 |nil=>
  intro b h
  induction b using Aq with
  |nil=>rfl
  |cons b bs=>exact nf h
 |cons a as IH=>
  intro b h
  induction b using Aq with
  |nil=>exact nf h
  |cons b bs=>have h:=Bool.and_eq_true_iff.mp h;rw[Av h.1,IH h.2]
def Mi(a b:Str):Bool:=vY a.cps.toList b.cps.toList
theorem Dj{a b:Str}(h:Mi a b=Ab):a=b:=by
 have:=Uo h
 induction a;induction b
 exact congrArg Str.mk (Array.toList_inj.mp this)
noncomputable def lk{Z:Type}(x:Str):List (Str×Z)->Option Z
 |[]=>Ae
 |p::r=>if Mi x p.1 then Aa p.2 else lk x r
structure Kx where
 sc:List (Str×Bq)
 acc:List (Str×Nat)
def isG(K:Kx)(x:Str):Bool:=decide (lk x K.sc=Aa .globalImplicit)
def TX(x:Str):Bool:=!Mi x "__debug__"&&!Mi x "__classdict__"
def HJ(K:Kx)(x y:Str):Bool:=TX x&&(Mi x y&&isG K x)
def EI(K:Kx)(x:Str)(i:Nat):Bool:=TX x&&decide (lk x K.acc=Aa i)
def isOwn(K:Kx)(x:Str):Bool:=decide (lk x K.sc=Aa .local\/lk x K.sc=Aa .cell)
def F8(K:Kx)(x:Str)(i:Nat):Bool:=EI K x i&&isOwn K x
noncomputable def Mb:List Str:=["_DIV_LIMIT","_MAX_STRING_SIZE","_MOVE_COST","_CASE_COST"]
noncomputable def gY:List (Nat×Str):=[(21,"_iter_escaped_chars"),(28,"_strip_quoted_realnames"),(35,"_check_parenthesis"),(42,"_pre_parse_validation"),(49,"_div2n1n"),(56,"_div3n2n"),
 (63,"_int2digits"),(70,"_digits2int"),(77,"_divmod_pos"),(84,"int_divmod"),(93,"insort_right"),(102,"bisect_right"),(111,"insort_left"),(120,"bisect_left"),
 (127,"_substitution_cost"),(134,"_levenshtein_distance"),(141,"_law_exchanged"),(148,"_law_led"),(153,"_law_ways"),(158,"_law_text"),(165,"_law_off"),(170,"_law_number"),
 (177,"_law_lesser_behind"),(184,"_law_weight"),(191,"_law_refused"),(198,"_law_worth"),(203,"law")]
theorem Ul{Z:Type}{P:Z->Prop}{b:Z}(h:P b):∃bd,b=bd/\P bd:=⟨b,rfl,h⟩
noncomputable def gx{Z:Type}{P:Z->Prop}(i k:Nat)(f:i=k->Subtype P):Option Z:=if h:i=k then Aa (f h).1 else Ae
theorem DL{Z:Type}{P:Z->Prop}{i k:Nat}{f:i=k->Subtype P}{a:Z}(h:gx i k f=Aa a):P a:=
 if q:i=k then sj ((dif_pos q).symm.trans h)▸(f q).2 else nn ((dif_neg q).symm.trans h)
def Ea(e:Ac):Option Str:=gx (P:=λ x=>∃p,e=.Name x p) _ 23 λ h=>Expr.Name.elim e h λ x p=>⟨x,p,rfl⟩
theorem BL{e:Ac}{x:Str}(h:Ea e=Aa x):∃p,e=.Name x p:=(DL h:)
@[elab_as_elim] theorem nE{e:Ac}{x:Str}{C:Ac->Prop}(h:Ea e=Aa x)(k:∀p,C (.Name x p)):C e:=Aw (BL h) λ p e=>e▸k p
def SS(e:Ac):Option (List Ac):=gx (P:=λ x=>∃k p,e=.Tuple x k p) _ 25 λ h=>Expr.Tuple.elim e h λ x k p=>⟨x,k,p,rfl⟩
theorem JE{e:Ac}{x:List Ac}(h:SS e=Aa x):∃k p,e=.Tuple x k p:=(DL h:)
noncomputable def AP{Z:Type}(o:Option Z)(f:Z->Bool):Bool:=match o with
 |some a=>f a
 |none=>Ai
theorem Zg{Z:Type}{o:Option Z}{f:Z->Bool}(h:AP o f=Ab):∃a,o=Aa a/\f a=Ab:=by
 induction o with
 |none=>exact nf h
 |some a=>exact⟨a,rfl,h⟩
theorem aK{Z:Type}{o:Option Z}{f:Z->Bool}{C:Prop}(h:AP o f=Ab)(k:∀a,o=Aa a->f a=Ab->C):C:=AF (Zg h) k
def EC(K:Kx)(a:Nat)(x:Str):Bool:=AP (gY.find? λ p=>AG a p.1) λ p=>HJ K x p.2
theorem B6{a b:Bool}(h:(a&&b)=Ab):a=Ab/\b=Ab:=Bool.and_eq_true_iff.mp h
section
variable{a b c d e f g i:Bool}{C:Prop}
theorem CJ(h:(a&&b)=Ab)(k:a=Ab->b=Ab->C):C:=k (B6 h).1 (B6 h).2
theorem Ms(h:(a&&b&&c)=Ab)(k:a=Ab->b=Ab->c=Ab->C):C:=CJ h λ h=>CJ h k
theorem Zh(h:(a&&b&&c&&d)=Ab)(k:a=Ab->b=Ab->c=Ab->d=Ab->C):C:=CJ h λ h=>Ms h k
theorem an5(h:(a&&b&&c&&d&&e)=Ab)(k:a=Ab->b=Ab->c=Ab->d=Ab->e=Ab->C):C:=CJ h λ h=>Zh h k
theorem an6(h:(a&&b&&c&&d&&e&&f)=Ab)(k:a=Ab->b=Ab->c=Ab->d=Ab->e=Ab->f=Ab->C):C:=CJ h λ h=>an5 h k
theorem an7(h:(a&&b&&c&&d&&e&&f&&g)=Ab)(k:a=Ab->b=Ab->c=Ab->d=Ab->e=Ab->f=Ab->g=Ab->C):C:=CJ h λ h=>an6 h k
theorem an8(h:(a&&b&&c&&d&&e&&f&&g&&i)=Ab)(k:a=Ab->b=Ab->c=Ab->d=Ab->e=Ab->f=Ab->g=Ab->i=Ab->C):C:=CJ h λ h=>an7 h k
end
noncomputable def F9(K:Kx):List Nat->List Ac->Bool
 |[],[]=>Ab
 |i::is,e::es=>AP (Ea e) (λ x=>F8 K x i)&&F9 K is es
 |_,_=>Ai
@[elab_as_elim] theorem KV{K:Kx}{i:Nat}{is:List Nat}{e:Ac}{es:List Ac}(h:F9 K (i::is) (e::es)=Ab){gC:Ac->Prop}(gk:∀x p,F8 K x i=Ab->F9 K is es=Ab->gC (.Name x p)):gC e:=by refine CJ h λ h1 h2=>aK h1 λ x h3 h4=>?_;refine Aw (BL h3) λ p H2=>?_;subst H2;exact gk x p h4 h2
theorem Mm{K:Kx}{P:List Nat->List Ac->Prop}(h0:P [] [])(h1:∀x p i is es,F8 K x i=Ab->F9 K is es=Ab->P is es->P (i::is) (.Name x p::es)):∀{is es},F9 K is es=Ab->P is es
:=@λ is=>by
 induction is with
 |nil=>
  intro es h
  induction es using Aq with
  |nil=>exact h0
  |cons e es=>exact nf h
 |cons i is IH=>
  intro es h
  induction es using Aq with
  |nil=>exact nf h
  |cons e es=>exact KV h λ x p h2 h3=>h1 x p i is es h2 h3 (IH h3)
def F5(K:Kx):Tg->Ac->Bool
 |.one i,e=>AP (Ea e) λ x=>F8 K x i
 |.m is,e=>AP (SS e) (F9 K is)
noncomputable def Op(K:Kx):List (Str×Bq)->List Nat->Option (List (Str×Nat))
 |[],[]=>Aa []
 |[],_::_=>Ae
 |(n,.local)::r,vs=>if Mi n ".0" then Op K r vs else match vs with
  |v::vs=>(Op K r vs).map λ a=>(n,v)::a
  |[]=>Ae
 |(n,.cell)::r,vs=>match vs with
  |v::vs=>(Op K r vs).map λ a=>(n,v)::a
  |[]=>Ae
 |(n,.free)::r,vs=>match lk n K.acc,lk n K.sc with
  |some i,Aa .cell=>(Op K r vs).map λ a=>(n,i)::a
  |some i,Aa .free=>(Op K r vs).map λ a=>(n,i)::a
  |_,_=>Ae
 |(_,.globalImplicit)::r,vs=>Op K r vs
 |(_,.globalExplicit)::_,_=>Ae
def L5(l:List (Str×Bq)):Bool:=l.all λ p=>decide (lk p.1 l=Aa p.2)
noncomputable def SF(x:Nat)(l:List Nat):Bool:=decide (x∈l)
noncomputable def KQ(l:List Nat):Bool:=decide l.Nodup
noncomputable def Ua(k:ScopeKind):Bool:=decide (k=.function)
theorem L9{k:ScopeKind}(h:Ua k=Ab):k=.function:=of_decide_eq_true h
def uW(sc:List (Str×Bq))(n:Str):Bool:=decide (lk n sc=Aa .local\/lk n sc=Aa .cell)
def Yp(K:Kx)(n:Str):Bool:=decide (lk n K.sc=Aa .cell\/lk n K.sc=Aa .free)
def uH(K:Kx)(sc:List (Str×Bq))(vs:List Nat)(p:Str×Nat):Bool:=(uW sc p.1&&SF p.2 vs)||(decide (lk p.1 sc=Aa .free)&&(decide (lk p.1 K.acc=Aa p.2)&&Yp K p.1))
def Td(sc:List (Str×Bq))(acc:List (Str×Nat)):List (Str×Nat):=acc.filter λ p=>uW sc p.1
def Zj(K:Kx)(sc:List (Str×Bq))(vs:List Nat)(acc:List (Str×Nat)):Bool:=
 acc.all (λ p=>uH K sc vs p&&decide (lk p.1 acc=Aa p.2))&&(KQ ((Td sc acc).map (·.2))&&sc.all λ p=>!(p.2==NameKind.free)||((lk p.1 K.acc).isSome&&Yp K p.1))
def IM(K:Kx)(sc:Scope)(vs:List Nat):Option Kx:=if Ua sc.kind&&(L5 sc.names&&K.acc.all (λ p=>!SF p.2 vs)) then(Op K sc.names vs).bind λ a=>if Zj K sc.names vs a then Aa ⟨sc.names,a⟩ else Ae else Ae
def R8(t:Tg)(vs:List Nat):Bool:=t.vars.all λ i=>SF i vs
noncomputable def Pz:O2->Option Ic
 |.a=>Aa .Add|.sub=>Aa .Sub|.mul=>Aa .Mult|.fdiv=>Aa .FloorDiv|.mod=>Aa .Mod|.pow=>Aa .Pow
 |.shl=>Aa .LShift|.shr=>Aa .RShift|.band=>Aa .BitAnd|.bor=>Aa .BitOr|.bxor=>Aa .BitXor|_=>Ae
noncomputable def Rq:O2->Option RS
 |.eq=>Aa .Eq|.ne=>Aa .NotEq|.lt=>Aa .Lt|.le=>Aa .LtE|.gt=>Aa .Gt|.is_=>Aa .Is|.isnot=>Aa .IsNot|.in_=>Aa .In|.notin=>Aa .NotIn|_=>Ae
noncomputable def Ql:O2->Option Str
 |.min=>Aa "min"|.max=>Aa "max"|.divmod=>Aa "divmod"|_=>Ae
noncomputable def zA:O1->Option LI
 |.neg=>Aa .USub|.inv=>Aa .Invert|_=>Ae
noncomputable def Uu:O1->Option Str
 |.len=>Aa "len"|.sum=>Aa "sum"|.chr=>Aa "chr"|_=>Ae
noncomputable def gN:O1->Option Str
 |.bitlen=>Aa "bit_length"|.upper=>Aa "upper"|.lower=>Aa "lower"|_=>Ae
noncomputable def gM:O2->Option Str
 |.index=>Aa "index"|.join=>Aa "join"|_=>Ae
noncomputable def lB:Ic->Ic->Bool:=λ a b=>decide (a=b)
noncomputable def Ut:RS->RS->Bool:=λ a b=>decide (a=b)
noncomputable def iR:LI->LI->Bool:=λ a b=>decide (a=b)
noncomputable def Df{Z:Type}:List Z->Bool
 |[]=>Ab
 |_=>Ai
theorem BC{Z:Type}{l:List Z}(h:Df l=Ab):l=[]:=by
 induction l using Aq with
 |nil=>rfl
 |cons=>exact nf h
def l1{Z:Type}:List Z->Option Z
 |x::r=>if Df r then Aa x else Ae
 |[]=>Ae
theorem Cv{Z:Type}{l:List Z}{x:Z}(h:l1 l=Aa x):l=[x]:=by
 induction l using Aq with
 |nil=>exact nn h
 |cons y r=>induction r using Aq with
  |nil=>obtain rfl:=sj h;rfl
  |cons=>exact nn h
noncomputable def l2{Z:Type}:List Z->Option (Z×List Z)
 |x::r=>Aa (x,r)
 |[]=>Ae
theorem Fp{Z:Type}{l:List Z}{x:Z×List Z}(h:l2 l=Aa x):l=x.1::x.2:=by
 induction l using Aq with
 |nil=>exact nn h
 |cons y r=>obtain rfl:=sj h;rfl
section
variable{e:Ac}
def Yi(e:Ac):Option Const:=gx (P:=λ c=>∃k p,e=.Constant c k p) _ 19 λ h=>Expr.Constant.elim e h λ x k p=>⟨x,k,p,rfl⟩
theorem NT{c}(h:Yi e=Aa c):∃k p,e=.Constant c k p:=(DL h:)
def gUn(e:Ac):Option (LI×Ac):=gx (P:=λ c=>∃p,e=.UnaryOp c.1 c.2 p) _ 3 λ h=>Expr.UnaryOp.elim e h λ o x p=>⟨(o,x),p,rfl⟩
theorem Uh{c}(h:gUn e=Aa c):∃p,e=.UnaryOp c.1 c.2 p:=(DL h:)
def vR(e:Ac):Option (Ac×Ic×Ac):=gx (P:=λ c=>∃p,e=.BinOp c.1 c.2.1 c.2.2 p) _ 2 λ h=>Expr.BinOp.elim e h λ x o y p=>⟨(x,o,y),p,rfl⟩
theorem Yl{c}(h:vR e=Aa c):∃p,e=.BinOp c.1 c.2.1 c.2.2 p:=(DL h:)
def Yk(e:Ac):Option (Ac×List Ac×List Ka×Pos):=gx (P:=λ c=>e=.Call c.1 c.2.1 c.2.2.1 c.2.2.2) _ 16 λ h=>Expr.Call.elim e h λ f a k p=>⟨(f,a,k,p),rfl⟩
theorem Pp{c}(h:Yk e=Aa c):e=.Call c.1 c.2.1 c.2.2.1 c.2.2.2:=(DL h:)
def gX(e:Ac):Option (Ac×Str×Pos):=gx (P:=λ c=>e=.Attribute c.1 c.2.1 c.2.2) _ 20 λ h=>Expr.Attribute.elim e h λ x m p=>⟨(x,m,p),rfl⟩
theorem Vq{c}(h:gX e=Aa c):e=.Attribute c.1 c.2.1 c.2.2:=(DL h:)
def Yj(e:Ac):Option (Ac×List RS×List Ac):=gx (P:=λ c=>∃p,e=.Compare c.1 c.2.1 c.2.2 p) _ 15 λ h=>Expr.Compare.elim e h λ x o y p=>⟨(x,o,y),p,rfl⟩
theorem Lu{c}(h:Yj e=Aa c):∃p,e=.Compare c.1 c.2.1 c.2.2 p:=(DL h:)
def Yc(e:Ac):Option (Ac×Ac):=gx (P:=λ c=>∃p,e=.Subscript c.1 c.2 p) _ 21 λ h=>Expr.Subscript.elim e h λ x y p=>⟨(x,y),p,rfl⟩
theorem Ls{c}(h:Yc e=Aa c):∃p,e=.Subscript c.1 c.2 p:=(DL h:)
def Yd(e:Ac):Option (Option Ac×Option Ac×Option Ac):=gx (P:=λ c=>∃p,e=.Slice c.1 c.2.1 c.2.2 p) _ 26 λ h=>Expr.Slice.elim e h λ x y z p=>⟨(x,y,z),p,rfl⟩
theorem SU{c}(h:Yd e=Aa c):∃p,e=.Slice c.1 c.2.1 c.2.2 p:=(DL h:)
def gV(e:Ac):Option (BoolOp×List Ac):=gx (P:=λ c=>∃p,e=.BoolOp c.1 c.2 p) _ 0 λ h=>Expr.BoolOp.elim e h λ o x p=>⟨(o,x),p,rfl⟩
theorem Vp{c}(h:gV e=Aa c):∃p,e=.BoolOp c.1 c.2 p:=(DL h:)
def vQ(e:Ac):Option (Ac×Ac×Ac):=gx (P:=λ c=>∃p,e=.IfExp c.1 c.2.1 c.2.2 p) _ 5 λ h=>Expr.IfExp.elim e h λ x y z p=>⟨(x,y,z),p,rfl⟩
theorem Yg{c}(h:vQ e=Aa c):∃p,e=.IfExp c.1 c.2.1 c.2.2 p:=(DL h:)
def gU(e:Ac):Option (List Ac):=gx (P:=λ c=>∃p,e=.List c p) _ 24 λ h=>Expr.List.elim e h λ x p=>⟨x,p,rfl⟩
theorem Me{c}(h:gU e=Aa c):∃p,e=.List c p:=(DL h:)
def Ui(e:Ac):Option (Ac×List Cm×Scope):=gx (P:=λ c=>∃p,e=.ListComp c.1 c.2.1 c.2.2 p) _ 8 λ h=>Expr.ListComp.elim e h λ x g s p=>⟨(x,g,s),p,rfl⟩
theorem Mf{c}(h:Ui e=Aa c):∃p,e=.ListComp c.1 c.2.1 c.2.2 p:=(DL h:)
end
def cN(e:Ac):Option (Str×List Ac×List Ka):=(Yk e).bind λ c=>(Ea c.1).map λ x=>(x,c.2.1,c.2.2.1)
structure MC where
 x:Ac
 m:Str
 ap:Pos
 as:List Ac
 p:Pos
noncomputable def EB(p q:Pos):Bool:=AG p.endLine q.line
def cM(e:Ac):Option MC:=(Yk e).bind λ c=>(gX c.1).bind λ x=>if Df c.2.2.1&&EB x.2.2 c.2.2.2 then Aa ⟨x.1,x.2.1,x.2.2,c.2.1,c.2.2.2⟩ else Ae
theorem Hi{Z O:Type}{o:Option Z}{f:Z->Option O}{b:O}(h:o.bind f=Aa b):∃a,o=Aa a/\f a=Aa b:=by
 induction o with
 |none=>exact nn h
 |some a=>exact⟨a,rfl,h⟩
theorem bK{Z O:Type}{o:Option Z}{f:Z->Option O}{b:O}{C:Prop}(h:o.bind f=Aa b)(k:∀a,o=Aa a->f a=Aa b->C):C:=AF (Hi h) k
theorem map_some{Z O:Type}{o:Option Z}{f:Z->O}{b:O}(h:o.map f=Aa b):∃a,o=Aa a/\f a=b:=by
 induction o with
 |none=>exact nn h
 |some a=>exact⟨a,rfl,AE h⟩
theorem mK{Z O:Type}{o:Option Z}{f:Z->O}{b:O}{C:Prop}(h:o.map f=Aa b)(k:∀a,o=Aa a->f a=b->C):C:=AF (map_some h) k
@[elab_as_elim] theorem mE{Z O:Type}{o:Option Z}{f:Z->O}{b:O}{C:O->Prop}(h:o.map f=Aa b)(k:∀a,o=Aa a->C (f a)):C b:=mK h λ a h e=>e▸k a h
theorem Fd{Z:Type}{c:Prop}[Decidable c]{a:Option Z}{b:Z}(h:(if c then a else Ae)=Aa b):c/\a=Aa b:=by
 by_cases hc:c
 ·rw[if_pos hc] at h;exact⟨hc,h⟩
 ·rw[if_neg hc] at h;exact nn h
theorem iK{Z:Type}{c:Prop}[Decidable c]{a:Option Z}{b:Z}{C:Prop}(h:(if c then a else Ae)=Aa b)(k:c->a=Aa b->C):C:=A9 (Fd h) k
theorem Tk{v:V}{xs:List V}(h:On v=Aa xs):v=.list xs\/v=.tup xs:=by induction v using V.casesOn<;>first|exact nn h|exact .inl (congrArg V.list (AE h))|exact .inr (congrArg V.tup (AE h))
theorem B5{v:V}{i:Int}(h:Bb v=Aa i):v=.int i:=by induction v using V.casesOn<;>first|exact nn h|exact congrArg V.int (AE h)
theorem Cu{v:V}{i:List V}(h:BD v=Aa i):v=.list i:=by induction v using V.casesOn<;>first|exact nn h|exact congrArg V.list (AE h)
theorem Ft{v:V}{i:List Nat}(h:Jb v=Aa i):v=.str i:=by induction v using V.casesOn<;>first|exact nn h|exact congrArg V.str (AE h)
theorem VP{v:V}{i:Nat}(h:fB v=Aa i):v=.fn i:=by induction v using V.casesOn<;>first|exact nn h|exact congrArg V.fn (AE h)
theorem Hy{v:LV}{i:V}(h:Bv v=Aa i):v=.w i:=by induction v<;>first|exact nn h|exact congrArg LV.w (AE h)
theorem Hz{v:LV}{i:List V}(h:EE v=Aa i):v=.x i:=by induction v<;>first|exact nn h|exact congrArg LV.x (AE h)
theorem HY{O:Type}{o:Option V}{f:Int->Option O}{b:O}(h:((o.bind Bb).bind f)=Aa b){gC:Prop}(gk:∀i,o=Aa (.int i)->f i=Aa b->gC):gC:=bK h λ i h1 h2=>bK h1 λ v h3 h4=>gk i (B5 h4▸h3) h2
theorem Oj{O:Type}{o:Option V}{f:List V->Option O}{b:O}(h:((o.bind BD).bind f)=Aa b){gC:Prop}(gk:∀i,o=Aa (.list i)->f i=Aa b->gC):gC:=bK h λ i h1 h2=>bK h1 λ v h3 h4=>gk i (Cu h4▸h3) h2
theorem HX{O:Type}{o:LV}{f:List V->Option O}{b:O}(h:((EE o).bind f)=Aa b){gC:Prop}(gk:∀i,o=.x i->f i=Aa b->gC):gC:=bK h λ i h1 h2=>gk i (Hz h1) h2
theorem HU{Z:Type}{c:Bool}{a b:Option Z}{v:Z}(h:Ca c a b=Aa v):(c=Ab->a=Aa v)/\(c=Ai->b=Aa v):=by
 induction c
 ·exact⟨nf,λ z=>h⟩
 ·exact⟨λ z=>h,(λ h=>by cases h)⟩
theorem Hf{Z:Type}{c:Bool}{a:Option Z}{v:Z}(h:Ca c a Ae=Aa v):c=Ab/\a=Aa v:=by
 induction c
 ·exact nn h
 ·exact⟨rfl,h⟩
theorem U4{Z:Type}{c:Bool}{b:Option Z}{v:Z}(h:Ca c Ae b=Aa v):c=Ai/\b=Aa v:=by
 induction c
 ·exact⟨rfl,h⟩
 ·exact nn h
theorem Ip{a b r:V}{f:Int->Int->Option V}(h:Jh a b f=Aa r){gC:Prop}(gk:∀i j,a=.int i->b=.int j->f i j=Aa r->gC):gC:=bK h λ i h1 h2=>bK h2 λ j h3 h4=>gk i j (B5 h1) (B5 h3) h4
theorem Tc{e:Ac}{c}(h:cN e=Aa c):∃p q,e=.Call (.Name c.1 p) c.2.1 c.2.2 q:=by refine bK h λ d h1 h2=>?_;refine mK h2 λ x h3 H3=>?_;subst H3;exact Aw (BL h3) λ p h3=>⟨p,d.2.2.2,h3▸Pp h1⟩
@[elab_as_elim] theorem cE{e:Ac}{c}{C:Ac->Prop}(h:cN e=Aa c)(k:∀p q,C (.Call (.Name c.1 p) c.2.1 c.2.2 q)):C e:=F1 (Tc h) λ p q e=>e▸k p q
theorem Qm{e:Ac}{c}(h:cM e=Aa c):EB c.ap c.p=Ab/\e=.Call (.Attribute c.x c.m c.ap) c.as [] c.p:=by refine bK h λ d h1 h2=>bK h2 λ x h3 h4=>iK h4 λ h5 h6=>?_;obtain rfl:=sj h6;exact CJ h5 λ h6 h7=>⟨h7,BC h6▸Vq h3▸Pp h1⟩
def vP:Option Nat->List Ka->(Nat->Str->Bool)->Bool
 |none,ks,_=>Df ks
 |some a,ks,f=>AP (l1 ks) λ k=>AP k.arg (λ n=>Mi n "key")&&AP (Ea k.value) (f a)
def eO(K:Kx)(key:Option Nat)(ks:List Ka):Bool:=vP key ks (EC K)
noncomputable def L3:Ac->Bool
 |.Set ..=>Ai
 |.Starred ..=>Ai
 |.SetComp ..=>Ai
 |.DictComp ..=>Ai
 |_=>Ab
noncomputable def Hr:Ac->Bool
 |.Call (.Name _ _) [] [] _=>Ai
 |_=>Ab
noncomputable def uY:Ex->Bool
 |.a=>Ab
 |_=>Ai
def bG(f:Ac->Bool)(e:Ex):Option Ac->Bool
 |none=>uY e
 |some y=>f y
noncomputable def PL:It->Tg->Bool
 |.zip ..,.one _=>Ai
 |_,_=>Ab
def yS:V->Const->Bool
 |.int i,c=>match c with|.int j=>decide (i=j)|_=>Ai
 |.str s,c=>match c with|.str x=>vY s x.cps.toList&&Ie s.length 1000|_=>Ai
 |.none,c=>match c with|.none=>Ab|_=>Ai
 |.bool b,c=>match c with|.bool d=>b==d|_=>Ai
 |_,_=>Ai
noncomputable def gT:O2->Bool
 |.i=>Ab
 |_=>Ai
noncomputable def gS:O1->Bool
 |.isBool=>Ab
 |_=>Ai
noncomputable def aR:It->Bool
 |.rng3 ..=>Ab
 |_=>Ai
def g1(gs:List Cm):Option (Cm×List Cm):=(l2 gs).bind λ g=>if decide (g.1.is_async=0) then Aa g else Ae
mutual
noncomputable def chk(K:Kx)(e:Ex)(x:Ac):Bool:=L3 x&&match e with
 |.c v=>AP (Yi x) (yS v)
 |.v i=>AP (Ea x) λ n=>EI K n i
 |.gv k=>AP (Ea x) λ n=>AP Mb[k]? (HJ K n)
 |.a=>Ai
 |.o1 o a=>(AP (zA o) λ u=>AP (gUn x) λ q=>iR q.1 u&&chk K a q.2)
   ||(AP (cN x) λ q=>Df q.2.2&&((AP (Uu o) λ y=>HJ K q.1 y&&AP (l1 q.2.1) λ z=>chk K a z)
    ||(gS o&&HJ K q.1 "isinstance"&&AP (l2 q.2.1) λ r=>chk K a r.1&&AP (l1 r.2) λ z=>AP (Ea z) λ b=>HJ K b "bool")))
   ||(AP (gN o) λ y=>AP (cM x) λ q=>Mi q.m y&&Df q.as&&chk K a q.x&&Hr q.x)
 |.o2 o a b=>(AP (Pz o) λ u=>AP (vR x) λ q=>lB q.2.1 u&&chk K a q.1&&chk K b q.2.2)
   ||(AP (Rq o) λ u=>AP (Yj x) λ q=>AP (l1 q.2.1) λ c=>AP (l1 q.2.2) λ y=>Ut c u&&chk K a q.1&&chk K b y)
   ||(AP (Ql o) λ z=>AP (cN x) λ q=>HJ K q.1 z&&Df q.2.2&&AP (l2 q.2.1) λ r=>chk K a r.1&&AP (l1 r.2) λ y=>chk K b y)
   ||(AP (gM o) λ z=>AP (cM x) λ q=>Mi q.m z&&chk K a q.x&&Hr q.x&&AP (l1 q.as) λ y=>chk K b y)
   ||(gT o&&AP (Yc x) λ q=>chk K a q.1&&chk K b q.2)
 |.sl a lo hi st=>AP (Yc x) λ q=>chk K a q.1&&AP (Yd q.2) λ r=>bG (λ y=>chk K lo y) lo r.1&&bG (λ y=>chk K hi y) hi r.2.1&&bG (λ y=>chk K st y) st r.2.2
 |.not a=>AP (gUn x) λ q=>iR q.1 .Not&&chk K a q.2
 |.bool and es=>AP (gV x) λ q=>(match q.1 with|.And=>and|.Or=>!and)&&Gw K es q.2
 |.f t a b=>AP (vQ x) λ q=>chk K t q.1&&chk K a q.2.1&&chk K b q.2.2
 |.tup es=>AP (SS x) λ xs=>Ie xs.length 1000&&Gw K es xs
 |.l es=>AP (gU x) λ xs=>Ie xs.length 1000&&Gw K es xs
 |.call f es key=>AP (cN x) λ q=>EC K f q.1&&Gw K es q.2.1&&eO K key q.2.2&&!Df q.2.1
 |.callv i es=>AP (cN x) λ q=>Df q.2.2&&EI K q.1 i&&Gw K es q.2.1&&!Df q.2.1
 |.callo f i es=>AP (cN x) λ q=>Df q.2.2&&EC K f q.1&&AP (l2 q.2.1) λ r=>AP (Ea r.1) (λ y=>EI K y i)&&Gw K es r.2
 |.idxo i e=>AP (Yc x) λ q=>AP (Ea q.1) (λ y=>EI K y i)&&chk K e q.2
 |.isown i j=>AP (Yj x) λ q=>AP (l1 q.2.1) (Ut .Is)&&AP (l1 q.2.2) (λ z=>AP (Ea z) λ y=>EI K y j)&&AP (Ea q.1) λ y=>EI K y i
 |.neo i e=>AP (Yj x) λ q=>AP (l1 q.2.1) (Ut .NotEq)&&AP (Ea q.1) (λ y=>EI K y i)&&AP (l1 q.2.2) λ z=>chk K e z
 |.comp vs t it cond elt=>AP (Ui x) λ q=>AP (g1 q.2.1) λ g=>Df g.2&&PL it t&&Mn K it g.1.iter&&AP (IM K q.2.2 vs) λ K'=>R8 t vs&&F5 K' t g.1.target&&Gw K' cond g.1.ifs&&chk K' elt q.1
 |.comp2 vs t1 it1 t2 it2 cond elt=>AP (Ui x) λ q=>AP (g1 q.2.1) λ g=>Df g.1.ifs&&AP (g1 g.2) λ g'=>Df g'.2&&PL it1 t1&&PL it2 t2&&Mn K it1 g.1.iter&&AP (IM K q.2.2 vs) λ K'=>R8 t1 vs&&R8 t2 vs&&t2.vars.all (λ i=>!SF i t1.vars)&&F5 K' t1 g.1.target&&Mn K' it2 g'.1.iter&&F5 K' t2 g'.1.target&&Gw K' cond g'.1.ifs&&chk K' elt q.1
 |.sort g a=>AP (cN x) λ q=>HJ K q.1 "sorted"&&vP (Aa g) q.2.2 (EC K)&&AP (l1 q.2.1) λ z=>chk K a z
 |.lof it=>AP (cN x) λ q=>HJ K q.1 "list"&&Df q.2.2&&AP (l1 q.2.1) λ z=>aR it&&Mn K it z
termination_by structural e
noncomputable def Gw(K:Kx):Fu->List Ac->Bool
 |.nil,xs=>Df xs
 |.cons e es,xs=>AP (l2 xs) λ r=>chk K e r.1&&Gw K es r.2
termination_by structural e=>e
noncomputable def Mn(K:Kx)(it:It)(x:Ac):Bool:=L3 x&&match it with
 |.ex e=>chk K e x
 |.r a=>AP (cN x) λ q=>Df q.2.2&&HJ K q.1 "range"&&AP (l1 q.2.1) λ z=>chk K a z
 |.rng2 a b=>AP (cN x) λ q=>Df q.2.2&&HJ K q.1 "range"&&AP (l2 q.2.1) λ r=>chk K a r.1&&AP (l1 r.2) λ z=>chk K b z
 |.rng3 a b c=>AP (cN x) λ q=>Df q.2.2&&HJ K q.1 "range"&&AP (l2 q.2.1) λ r=>chk K a r.1&&AP (l2 r.2) λ r=>chk K b r.1&&AP (l1 r.2) λ z=>chk K c z
 |.zip a b=>AP (cN x) λ q=>Df q.2.2&&HJ K q.1 "zip"&&AP (l2 q.2.1) λ r=>chk K a r.1&&AP (l1 r.2) λ z=>chk K b z
 |.rev a=>AP (cN x) λ q=>Df q.2.2&&HJ K q.1 "reversed"&&AP (l1 q.2.1) λ z=>chk K a z
termination_by structural it
end
structure Ib where
 name:Str
 args:HM
 body:List CU
 scope:Scope
noncomputable def AA(i:Nat):Ib:=match PySem.Challenge.pw_ta0089_01.main.body[i]? with
 |some (.FunctionDef name args body _ _ _ scope _ _ _)=>⟨name,args,body,scope⟩
 |_=>⟨"",⟨[],[],Ae,[],[],Ae,[]⟩,[],⟨.function,[],Ai,Ai,[]⟩⟩
noncomputable def Mt:List (Str×Bq)->Nat->List (Str×Nat)
 |[],_=>[]
 |(n,.local)::r,i=>(n,i)::Mt r (i+1)
 |(n,.cell)::r,i=>(n,i)::Mt r (i+1)
 |_::r,i=>Mt r i
def C0(f:Ib):Kx:=⟨f.scope.names,Mt f.scope.names 0⟩
set_option genInjectivity false
noncomputable def P6:Ex->Bool
 |.l _=>Ab
 |.lof _=>Ab
 |_=>Ai
noncomputable def ND:List Bool->Fu->Bool
 |[],.nil=>Ab
 |b::bs,.cons e es=>(!b||P6 e)&&ND bs es
 |_,_=>Ai
noncomputable def Zc:O2->Bool
 |.a=>Ab|.sub=>Ab|.mul=>Ab|.shl=>Ab|.shr=>Ab|_=>Ai
noncomputable def Sz:Ac->Bool
 |.Tuple ..=>Ai
 |.List ..=>Ai
 |_=>Ab
noncomputable def Sc(vs:List Ac):Bool:=!(vs.all (constantsAlone 8))||vs.all (foldedForSure 8)
noncomputable def lC(fs:List Bool):Bool:=Ie (fs.filter id).length 1
def M8(K:Kx)(x:Str):Bool:=decide (lk x K.sc=Aa .cell)
section
variable{e:Bm}
def Vr(e:Bm):Option (List Ac×Ac):=gx (P:=λ c=>∃p,e=.Assign c.1 c.2 p) _ 5 λ h=>Stmt.Assign.elim e h λ x y p=>⟨(x,y),p,rfl⟩
theorem JF{c}(h:Vr e=Aa c):∃p,e=.Assign c.1 c.2 p:=(DL h:)
def vS(e:Bm):Option (Ac×Ic×Ac):=gx (P:=λ c=>∃p,e=.AugAssign c.1 c.2.1 c.2.2 p) _ 7 λ h=>Stmt.AugAssign.elim e h λ x o y p=>⟨(x,o,y),p,rfl⟩
theorem Ym{c}(h:vS e=Aa c):∃p,e=.AugAssign c.1 c.2.1 c.2.2 p:=(DL h:)
def Yh(e:Bm):Option Ac:=gx (P:=λ c=>∃p,e=.Expr c p) _ 24 λ h=>Stmt.Expr.elim e h λ x p=>⟨x,p,rfl⟩
theorem Po{c}(h:Yh e=Aa c):∃p,e=.Expr c p:=(DL h:)
def gIf(e:Bm):Option (Ac×List Bm×List Bm):=gx (P:=λ c=>∃p,e=.If c.1 c.2.1 c.2.2 p) _ 12 λ h=>Stmt.If.elim e h λ x y z p=>⟨(x,y,z),p,rfl⟩
theorem dM{c}(h:gIf e=Aa c):∃p,e=.If c.1 c.2.1 c.2.2 p:=(DL h:)
def vN(e:Bm):Option (Ac×List Bm×List Bm):=gx (P:=λ c=>∃p,e=.While c.1 c.2.1 c.2.2 p) _ 11 λ h=>Stmt.While.elim e h λ x y z p=>⟨(x,y,z),p,rfl⟩
theorem Yb{c}(h:vN e=Aa c):∃p,e=.While c.1 c.2.1 c.2.2 p:=(DL h:)
def gFo(e:Bm):Option (Ac×Ac×List Bm×List Bm):=gx (P:=λ c=>∃p,e=.For c.1 c.2.1 c.2.2.1 c.2.2.2 p) _ 9 λ h=>Stmt.For.elim e h λ t x y z p=>⟨(t,x,y,z),p,rfl⟩
theorem dN{c}(h:gFo e=Aa c):∃p,e=.For c.1 c.2.1 c.2.2.1 c.2.2.2 p:=(DL h:)
def gRe(e:Bm):Option (Option Ac):=gx (P:=λ c=>∃p,e=.Return c p) _ 3 λ h=>Stmt.Return.elim e h λ x p=>⟨x,p,rfl⟩
theorem dL{c}(h:gRe e=Aa c):∃p,e=.Return c p:=(DL h:)
def X9(e:Bm):Option (Ac×List Bm):=(vN e).bind λ c=>if Df c.2.2 then Aa (c.1,c.2.1) else Ae
theorem SR{c}(h:X9 e=Aa c):∃p,e=.While c.1 c.2 [] p:=by refine bK h λ d h1 h2=>iK h2 λ h4 h3=>?_;obtain rfl:=sj h3;exact BC h4▸Yb h1
def nQ(e:Bm):Option (Ac×Ac×List Bm):=(gFo e).bind λ c=>if Df c.2.2.2 then Aa (c.1,c.2.1,c.2.2.1) else Ae
theorem Ri{c}(h:nQ e=Aa c):∃p,e=.For c.1 c.2.1 c.2.2 [] p:=by refine bK h λ d h1 h2=>iK h2 λ h4 h3=>?_;obtain rfl:=sj h3;exact BC h4▸dN h1
def nO(e:Bm):Option Ac:=(gRe e).bind id
theorem Rh{c}(h:nO e=Aa c):∃p,e=.Return (Aa c) p:=bK h λ d h1 h2=>(show d=Aa c from h2)▸dL h1
end
def Rj(s:Bm):Option (Str×Ac):=(Vr s).bind λ q=>(l1 q.1).bind λ t=>(Ea t).map λ x=>(x,q.2)
theorem J1{s:Bm}{c}(h:Rj s=Aa c):∃p q,s=.Assign [.Name c.1 p] c.2 q:=by refine bK h λ d h1 h2=>bK h2 λ x h3 h4=>?_;refine mK h4 λ y h5 H3=>?_;subst H3;exact Aw (JF h1) λ q h1=>Aw (BL h5) λ p h5=>⟨p,q,h5▸Cv h3▸h1⟩
def Ye(s:Bm):Option (Str×MC):=(Yh s).bind λ x=>(cM x).bind λ m=>(Ea m.x).map λ y=>(y,m)
theorem Pn{s:Bm}{c}(h:Ye s=Aa c):EB c.2.ap c.2.p=Ab/\∃p q,s=.Expr (.Call (.Attribute (.Name c.1 p) c.2.m c.2.ap) c.2.as [] c.2.p) q:=by refine bK h λ d h1 h2=>bK h2 λ x h3 h4=>?_;refine mK h4 λ y h5 H3=>?_;subst H3;exact Aw (Po h1) λ q h1=>A9 (Qm h3) λ h6 h7=>Aw (BL h5) λ p h5=>⟨h6,p,q,h5▸h7▸h1⟩
noncomputable def vO:Tg->Option (List Nat)
 |.m is=>Aa is
 |_=>Ae
noncomputable def gFrz:St->Bool
 |.frz _=>Ab
 |_=>Ai
mutual
noncomputable def YW(K:Kx)(st:St)(s:Bm):Bool:=match st with
 |.asg i e=>AP (Rj s) λ q=>F8 K q.1 i&&chk K e q.2
 |.asgL is e=>AP (Vr s) λ q=>chk K e q.2&&(AP (l2 is) λ i=>AP (l1 i.2) λ j=>AP (l2 q.1) λ x=>AP (Ea x.1) (λ n=>F8 K n i.1)&&AP (l1 x.2) λ y=>AP (Ea y) λ n=>F8 K n j)
 |.asgT is e=>AP (Vr s) λ q=>AP (l1 q.1) (λ t=>AP (SS t) (F9 K is))&&chk K e q.2&&Sz q.2
 |.t is fs es=>AP (Vr s) λ q=>AP (l1 q.1) (λ t=>AP (SS t) (F9 K is))&&AP (SS q.2) λ vs=>Gw K es vs&&ND fs es&&KQ is&&Sc vs&&lC fs&&Ie vs.length 1000
 |.asgO i e=>AP (Rj s) λ q=>F8 K q.1 i&&chk K e q.2&&P6 e
 |.asgOc i f es=>AP (Rj s) λ q=>F8 K q.1 i&&chk K (.call f es Ae) q.2&&AG f 42
 |.aug i o e=>AP (vS s) λ q=>Zc o&&AP (Ea q.1) (λ x=>F8 K x i)&&AP (Pz o) (lB q.2.1)&&chk K e q.2.2
 |.append i e=>AP (Ye s) λ q=>EI K q.1 i&&Mi q.2.m "append"&&AP (l1 q.2.as) (chk K e)
 |.reverse i=>AP (Ye s) λ q=>EI K q.1 i&&Mi q.2.m "reverse"&&Df q.2.as
 |.setidx i e v=>AP (Vr s) λ q=>AP (l1 q.1) λ t=>AP (Yc t) λ r=>AP (Ea r.1) (λ x=>EI K x i)&&chk K e r.2&&chk K v q.2
 |.n f i e key=>AP (Yh s) λ x=>AP (cN x) λ q=>EC K f q.1&&eO K key q.2.2&&AP (l2 q.2.1) λ r=>AP (Ea r.1) (λ x=>EI K x i)&&AP (l1 r.2) (chk K e)
 |.pops i j vs k=>AP (Rj s) λ q=>F8 K q.1 i&&M8 K q.1&&AP (Ui q.2) λ c=>AP (g1 c.2.1) λ g=>Df g.2&&Df g.1.ifs&&AP (Ea g.1.iter) (λ z=>EI K z k)
   &&AP (cM c.1) λ m=>Mi m.m "pop"&&AP (IM K c.2.2 vs) λ K'=>AP (l1 vs) λ v=>AP (Ea m.x) (λ y=>EI K' y j)&&AP (l1 m.as) (λ a=>AP (Ea a) λ p=>EI K' p v)&&AP (Ea g.1.target) λ p=>F8 K' p v
 |.f t a b=>AP (gIf s) λ q=>chk K t q.1&&Ct K a q.2.1&&Ct K b q.2.2
 |.y t b=>AP (X9 s) λ q=>chk K t q.1&&Ct K b q.2
 |.for_ t it b=>AP (nQ s) λ q=>PL it t&&F5 K t q.1&&Mn K it q.2.1&&Ct K b q.2.2
 |.g t f e b=>AP (nQ s) λ q=>F5 K t q.1&&Ct K b q.2.2&&AG f 21&&(vO t).isSome&&AP (cN q.2.1) λ c=>EC K f c.1&&Df c.2.2&&AP (l1 c.2.1) (chk K e)
 |.ret e=>AP (nO s) (chk K e)
 |.reto i=>AP (nO s) λ x=>AP (Ea x) λ n=>EI K n i
 |.bad=>Ab
 |.frz _=>Ai
termination_by structural st
noncomputable def Ct(K:Kx):E5->List Bm->Bool
 |.nil,ys=>Df ys
 |.cons s r,ys=>(gFrz s&&Ct K r ys)||AP (l2 ys) λ y=>YW K s y.1&&Ct K r y.2
termination_by structural r=>r
end
set_option backward.match.sparseCases true
noncomputable def BM:E5:=
 (.cons (.f (.o2 .notin (.c (.str [34])) (.v 0)) (.cons (.ret (.v 0))
 .nil) .nil)
 (.cons (.asg 1 (.c (.int 0)))
 (.cons (.asg 2 (.c .none))
 (.cons (.asgO 3 (.l .nil))
 (.cons (.g (.m [4,5]) 21 (.v 0) (.cons (.f (.o2 .eq (.v 5) (.c (.str [34]))) (.cons (.f (.o2 .is_ (.v 2) (.c .none)) (.cons (.asg 2 (.v 4))
 .nil) (.cons (.f (.o2 .ne (.v 1) (.v 2)) (.cons (.append 3 (.sl (.v 0) (.v 1) (.v 2) .a))
 .nil) .nil)
 (.cons (.asg 1 (.o2 .a (.v 4) (.c (.int 1))))
 (.cons (.asg 2 (.c .none))
 .nil))))
 .nil) .nil)
 .nil))
 (.cons (.f (.o2 .lt (.v 1) (.o1 .len (.v 0))) (.cons (.append 3 (.sl (.v 0) (.v 1) .a .a))
 .nil) .nil)
 (.cons (.frz 3)
 (.cons (.ret (.o2 .join (.c (.str [])) (.v 3)))
 .nil))))))))
noncomputable def Fc:Nat:=6
noncomputable def Cs:E5:=
 (.cons (.asg 0 (.call 28 (.cons (.v 0) .nil) Ae))
 (.cons (.asg 1 (.c (.int 0)))
 (.cons (.g (.m [2,3]) 21 (.v 0) (.cons (.f (.o2 .eq (.v 3) (.c (.str [40]))) (.cons (.aug 1 .a (.c (.int 1)))
 .nil) (.cons (.f (.o2 .eq (.v 3) (.c (.str [41]))) (.cons (.aug 1 .sub (.c (.int 1)))
 (.cons (.f (.o2 .lt (.v 1) (.c (.int 0))) (.cons (.ret (.c (.bool Ai)))
 .nil) .nil)
 .nil)) .nil)
 .nil))
 .nil))
 (.cons (.ret (.o2 .eq (.v 1) (.c (.int 0))))
 .nil))))
noncomputable def G1:Nat:=4
noncomputable def FV:E5:=
 (.cons (.asgO 1 (.l .nil))
 (.cons (.for_ (.one 2) (.ex (.v 0)) (.cons (.f (.not (.call 35 (.cons (.v 2) .nil) Ae)) (.cons (.asg 2 (.c (.str [40,39,39,44,32,39,39,41])))
 .nil) .nil)
 (.cons (.append 1 (.v 2))
 .nil)))
 (.cons (.reto 1)
 .nil)))
noncomputable def FP:Nat:=3
noncomputable def CR:E5:=
 (.cons (.f (.o2 .le (.o2 .sub (.o1 .bitlen (.v 0)) (.v 2)) (.gv 0)) (.cons (.ret (.o2 .divmod (.v 0) (.v 1)))
 .nil) .nil)
 (.cons (.asg 3 (.o2 .band (.v 2) (.c (.int 1))))
 (.cons (.f (.v 3) (.cons (.aug 0 .shl (.c (.int 1)))
 (.cons (.aug 1 .shl (.c (.int 1)))
 (.cons (.aug 2 .a (.c (.int 1)))
 .nil))) .nil)
 (.cons (.asg 4 (.o2 .shr (.v 2) (.c (.int 1))))
 (.cons (.asg 5 (.o2 .sub (.o2 .shl (.c (.int 1)) (.v 4)) (.c (.int 1))))
 (.cons (.t [6,7] [Ai,Ai] (.cons (.o2 .shr (.v 1) (.v 4)) (.cons (.o2 .band (.v 1) (.v 5)) .nil)))
 (.cons (.asgT [8,9] (.call 56 (.cons (.o2 .shr (.v 0) (.v 2)) (.cons (.o2 .band (.o2 .shr (.v 0) (.v 4)) (.v 5)) (.cons (.v 1) (.cons (.v 6) (.cons (.v 7) (.cons (.v 4) .nil)))))) Ae))
 (.cons (.asgT [10,9] (.call 56 (.cons (.v 9) (.cons (.o2 .band (.v 0) (.v 5)) (.cons (.v 1) (.cons (.v 6) (.cons (.v 7) (.cons (.v 4) .nil)))))) Ae))
 (.cons (.f (.v 3) (.cons (.aug 9 .shr (.c (.int 1)))
 .nil) .nil)
 (.cons (.ret (.tup (.cons (.o2 .bor (.o2 .shl (.v 8) (.v 4)) (.v 10)) (.cons (.v 9) .nil))))
 .nil))))))))))
noncomputable def Pg:Nat:=11
noncomputable def Iy:E5:=
 (.cons (.f (.o2 .eq (.o2 .shr (.v 0) (.v 5)) (.v 3)) (.cons (.t [6,7] [Ai,Ai] (.cons (.o2 .sub (.o2 .shl (.c (.int 1)) (.v 5)) (.c (.int 1))) (.cons (.o2 .a (.o2 .sub (.v 0) (.o2 .shl (.v 3) (.v 5))) (.v 3)) .nil)))
 .nil) (.cons (.asgT [6,7] (.call 49 (.cons (.v 0) (.cons (.v 3) (.cons (.v 5) .nil))) Ae))
 .nil))
 (.cons (.asg 7 (.o2 .sub (.o2 .bor (.o2 .shl (.v 7) (.v 5)) (.v 1)) (.o2 .mul (.v 6) (.v 4))))
 (.cons (.y (.o2 .lt (.v 7) (.c (.int 0))) (.cons (.aug 6 .sub (.c (.int 1)))
 (.cons (.aug 7 .a (.v 2))
 .nil)))
 (.cons (.ret (.tup (.cons (.v 6) (.cons (.v 7) .nil))))
 .nil))))
noncomputable def Pf:Nat:=8
noncomputable def DF:E5:=
 (.cons (.asg 2 (.o1 .bitlen (.v 1)))
 (.cons (.asg 3 (.call 63 (.cons (.v 0) (.cons (.v 2) .nil)) Ae))
 (.cons (.asg 4 (.c (.int 0)))
 (.cons (.asgO 5 (.l .nil))
 (.cons (.for_ (.one 6) (.rev (.v 3)) (.cons (.asgT [7,4] (.call 49 (.cons (.o2 .a (.o2 .shl (.v 4) (.v 2)) (.v 6)) (.cons (.v 1) (.cons (.v 2) .nil))) Ae))
 (.cons (.append 5 (.v 7))
 .nil)))
 (.cons (.reverse 5)
 (.cons (.frz 5)
 (.cons (.asg 8 (.call 70 (.cons (.v 5) (.cons (.v 2) .nil)) Ae))
 (.cons (.ret (.tup (.cons (.v 8) (.cons (.v 4) .nil))))
 .nil)))))))))
noncomputable def Ln:Nat:=9
noncomputable def IV:E5:=
 (.cons (.f (.o2 .eq (.v 1) (.c (.int 0))) (.cons (.bad)
 .nil) (.cons (.f (.o2 .lt (.v 1) (.c (.int 0))) (.cons (.asgT [2,3] (.call 84 (.cons (.o1 .neg (.v 0)) (.cons (.o1 .neg (.v 1)) .nil)) Ae))
 (.cons (.ret (.tup (.cons (.v 2) (.cons (.o1 .neg (.v 3)) .nil))))
 .nil)) (.cons (.f (.o2 .lt (.v 0) (.c (.int 0))) (.cons (.asgT [2,3] (.call 84 (.cons (.o1 .inv (.v 0)) (.cons (.v 1) .nil)) Ae))
 (.cons (.ret (.tup (.cons (.o1 .inv (.v 2)) (.cons (.o2 .a (.v 1) (.o1 .inv (.v 3))) .nil))))
 .nil)) (.cons (.ret (.call 77 (.cons (.v 0) (.cons (.v 1) .nil)) Ae))
 .nil))
 .nil))
 .nil))
 .nil)
noncomputable def Lm:Nat:=4
noncomputable def EN:E5:=
 (.cons (.f (.o2 .lt (.v 2) (.c (.int 0))) (.cons (.bad)
 .nil) .nil)
 (.cons (.f (.o2 .is_ (.v 3) (.c .none)) (.cons (.asg 3 (.o1 .len (.v 0)))
 .nil) .nil)
 (.cons (.f (.o2 .is_ (.v 4) (.c .none)) (.cons (.y (.o2 .lt (.v 2) (.v 3)) (.cons (.asg 5 (.o2 .fdiv (.o2 .a (.v 2) (.v 3)) (.c (.int 2))))
 (.cons (.f (.o2 .lt (.v 1) (.o2 .i (.v 0) (.v 5))) (.cons (.asg 3 (.v 5))
 .nil) (.cons (.asg 2 (.o2 .a (.v 5) (.c (.int 1))))
 .nil))
 .nil)))
 .nil) (.cons (.y (.o2 .lt (.v 2) (.v 3)) (.cons (.asg 5 (.o2 .fdiv (.o2 .a (.v 2) (.v 3)) (.c (.int 2))))
 (.cons (.f (.o2 .lt (.v 1) (.callv 4 (.cons (.o2 .i (.v 0) (.v 5)) .nil))) (.cons (.asg 3 (.v 5))
 .nil) (.cons (.asg 2 (.o2 .a (.v 5) (.c (.int 1))))
 .nil))
 .nil)))
 .nil))
 (.cons (.ret (.v 2))
 .nil))))
noncomputable def JA:Nat:=6
noncomputable def Fg:E5:=
 (.cons (.f (.o2 .lt (.v 2) (.c (.int 0))) (.cons (.bad)
 .nil) .nil)
 (.cons (.f (.o2 .is_ (.v 3) (.c .none)) (.cons (.asg 3 (.o1 .len (.v 0)))
 .nil) .nil)
 (.cons (.f (.o2 .is_ (.v 4) (.c .none)) (.cons (.y (.o2 .lt (.v 2) (.v 3)) (.cons (.asg 5 (.o2 .fdiv (.o2 .a (.v 2) (.v 3)) (.c (.int 2))))
 (.cons (.f (.o2 .lt (.o2 .i (.v 0) (.v 5)) (.v 1)) (.cons (.asg 2 (.o2 .a (.v 5) (.c (.int 1))))
 .nil) (.cons (.asg 3 (.v 5))
 .nil))
 .nil)))
 .nil) (.cons (.y (.o2 .lt (.v 2) (.v 3)) (.cons (.asg 5 (.o2 .fdiv (.o2 .a (.v 2) (.v 3)) (.c (.int 2))))
 (.cons (.f (.o2 .lt (.callv 4 (.cons (.o2 .i (.v 0) (.v 5)) .nil)) (.v 1)) (.cons (.asg 2 (.o2 .a (.v 5) (.c (.int 1))))
 .nil) (.cons (.asg 3 (.v 5))
 .nil))
 .nil)))
 .nil))
 (.cons (.ret (.v 2))
 .nil))))
noncomputable def Kz:Nat:=6
noncomputable def G3:E5:=
 (.cons (.f (.o2 .eq (.v 0) (.v 1)) (.cons (.ret (.c (.int 0)))
 .nil) .nil)
 (.cons (.f (.o2 .eq (.o1 .lower (.v 0)) (.o1 .lower (.v 1))) (.cons (.ret (.gv 3))
 .nil) .nil)
 (.cons (.ret (.gv 2))
 .nil)))
noncomputable def GY:Nat:=2
noncomputable def Az:E5:=
 (.cons (.f (.o2 .eq (.v 0) (.v 1)) (.cons (.ret (.c (.int 0)))
 .nil) .nil)
 (.cons (.asg 3 (.c (.int 0)))
 (.cons (.y (.bool Ab (.cons (.sl (.v 0) (.v 3) .a .a) (.cons (.sl (.v 1) (.v 3) .a .a) (.cons (.o2 .eq (.o2 .i (.v 0) (.v 3)) (.o2 .i (.v 1) (.v 3))) .nil)))) (.cons (.aug 3 .a (.c (.int 1)))
 .nil))
 (.cons (.asg 0 (.sl (.v 0) (.v 3) .a .a))
 (.cons (.asg 1 (.sl (.v 1) (.v 3) .a .a))
 (.cons (.asg 4 (.c (.int 0)))
 (.cons (.y (.bool Ab (.cons (.sl (.v 0) .a (.bool Ai (.cons (.v 4) (.cons (.c .none) .nil))) .a) (.cons (.sl (.v 1) .a (.bool Ai (.cons (.v 4) (.cons (.c .none) .nil))) .a) (.cons (.o2 .eq (.o2 .i (.v 0) (.o2 .sub (.v 4) (.c (.int 1)))) (.o2 .i (.v 1) (.o2 .sub (.v 4) (.c (.int 1))))) .nil)))) (.cons (.aug 4 .sub (.c (.int 1)))
 .nil))
 (.cons (.asg 0 (.sl (.v 0) .a (.bool Ai (.cons (.v 4) (.cons (.c .none) .nil))) .a))
 (.cons (.asg 1 (.sl (.v 1) .a (.bool Ai (.cons (.v 4) (.cons (.c .none) .nil))) .a))
 (.cons (.f (.bool Ai (.cons (.not (.v 0)) (.cons (.not (.v 1)) .nil))) (.cons (.ret (.o2 .mul (.gv 2) (.o2 .a (.o1 .len (.v 0)) (.o1 .len (.v 1)))))
 .nil) .nil)
 (.cons (.f (.bool Ai (.cons (.o2 .gt (.o1 .len (.v 0)) (.gv 1)) (.cons (.o2 .gt (.o1 .len (.v 1)) (.gv 1)) .nil))) (.cons (.ret (.o2 .a (.v 2) (.c (.int 1))))
 .nil) .nil)
 (.cons (.f (.o2 .lt (.o1 .len (.v 1)) (.o1 .len (.v 0))) (.cons (.t [0,1] [Ai,Ai] (.cons (.v 1) (.cons (.v 0) .nil)))
 .nil) .nil)
 (.cons (.f (.o2 .gt (.o2 .mul (.o2 .sub (.o1 .len (.v 1)) (.o1 .len (.v 0))) (.gv 2)) (.v 2)) (.cons (.ret (.o2 .a (.v 2) (.c (.int 1))))
 .nil) .nil)
 (.cons (.asgO 5 (.lof (.rng3 (.gv 2) (.o2 .mul (.gv 2) (.o2 .a (.o1 .len (.v 0)) (.c (.int 1)))) (.gv 2))))
 (.cons (.asg 6 (.c (.int 0)))
 (.cons (.for_ (.one 7) (.r (.o1 .len (.v 1))) (.cons (.asg 8 (.o2 .i (.v 1) (.v 7)))
 (.cons (.asgL [9,6] (.o2 .mul (.v 7) (.gv 2)))
 (.cons (.asg 10 (.c (.int 9223372036854775807)))
 (.cons (.for_ (.one 11) (.r (.o1 .len (.v 0))) (.cons (.asg 12 (.o2 .a (.v 9) (.call 127 (.cons (.v 8) (.cons (.o2 .i (.v 0) (.v 11)) .nil)) Ae)))
 (.cons (.asg 9 (.idxo 5 (.v 11)))
 (.cons (.asg 13 (.o2 .a (.o2 .min (.v 6) (.v 9)) (.gv 2)))
 (.cons (.asg 6 (.o2 .min (.v 13) (.v 12)))
 (.cons (.setidx 5 (.v 11) (.v 6))
 (.cons (.f (.o2 .lt (.v 6) (.v 10)) (.cons (.asg 10 (.v 6))
 .nil) .nil)
 .nil)))))))
 (.cons (.f (.o2 .gt (.v 10) (.v 2)) (.cons (.ret (.o2 .a (.v 2) (.c (.int 1))))
 .nil) .nil)
 .nil))))))
 (.cons (.ret (.v 6))
 .nil)))))))))))))))))
noncomputable def FQ:Nat:=14
noncomputable def Ja:E5:=
 (.cons (.ret (.o2 .a (.o2 .a (.sl (.v 0) .a (.v 1) .a) (.l (.cons (.o2 .i (.v 0) (.o2 .a (.v 1) (.c (.int 1)))) (.cons (.o2 .i (.v 0) (.v 1)) .nil)))) (.sl (.v 0) (.o2 .a (.v 1) (.c (.int 2))) .a .a)))
 .nil)
noncomputable def I8:Nat:=2
noncomputable def PB:E5:=
 (.cons (.asg 1 (.l (.cons (.c (.int 1)) (.cons (.c (.int 2)) (.cons (.c (.int 3)) (.cons (.c (.int 4)) .nil))))))
 (.cons (.for_ (.one 2) (.ex (.v 0)) (.cons (.asg 1 (.f (.o2 .lt (.o2 .i (.v 1) (.v 2)) (.o2 .i (.v 1) (.o2 .a (.v 2) (.c (.int 1))))) (.call 141 (.cons (.v 1) (.cons (.v 2) .nil)) Ae) (.v 1)))
 .nil))
 (.cons (.ret (.v 1))
 .nil)))
noncomputable def Pe:Nat:=3
noncomputable def Ol:E5:=
 (.cons (.asg 3 (.l (.cons (.tup (.cons (.c (.str [])) (.cons (.v 0) .nil))) .nil)))
 (.cons (.for_ (.one 4) (.r (.v 1)) (.cons (.asg 3 (.comp2 [5,6,7] (.m [5,6]) (.ex (.v 3)) (.one 7) (.r (.c (.int 3))) (.cons (.o2 .gt (.o2 .i (.v 6) (.v 7)) (.o2 .i (.v 6) (.o2 .a (.v 7) (.c (.int 1))))) .nil) (.tup (.cons (.o2 .a (.o2 .i (.v 2) (.v 7)) (.v 5)) (.cons (.call 141 (.cons (.v 6) (.cons (.v 7) .nil)) Ae) .nil)))))
 .nil))
 (.cons (.ret (.comp [8,9] (.m [8,9]) (.ex (.v 3)) .nil (.v 8)))
 .nil)))
noncomputable def NM:Nat:=10
noncomputable def IU:E5:=
 (.cons (.asgT [3,4] (.o2 .i (.l (.cons (.tup (.cons (.c (.str [34])) (.cons (.c (.str [92,40])) .nil))) (.cons (.tup (.cons (.c (.str [34,40,34])) (.cons (.c (.str [34])) .nil))) (.cons (.tup (.cons (.c (.str [92,41])) (.cons (.c (.str [92])) .nil))) (.cons (.tup (.cons (.c (.str [97,34,41,34])) (.cons (.c (.str [34,40,34])) .nil))) (.cons (.tup (.cons (.c (.str [92,34])) (.cons (.c (.str [34])) .nil))) (.cons (.tup (.cons (.c (.str [34,92,34,41,34])) (.cons (.c (.str [34,40,41])) .nil))) (.cons (.tup (.cons (.c (.str [92,92,34,40,34])) (.cons (.c (.str [92,92,40,41])) .nil))) .nil)))))))) (.o2 .mod (.o2 .fdiv (.v 2) (.c (.int 2))) (.c (.int 7)))))
 (.cons (.for_ (.one 5) (.ex (.comp [7] (.one 7) (.rng2 (.c (.int 1)) (.c (.int 4))) (.cons (.f (.o2 .eq (.o2 .mod (.o2 .fdiv (.v 2) (.c (.int 2))) (.c (.int 2))) (.c (.int 0))) (.o2 .lt (.o2 .i (.v 1) (.o2 .sub (.v 7) (.c (.int 1)))) (.o2 .i (.v 1) (.v 7))) (.o2 .gt (.o2 .i (.v 0) (.o2 .sub (.v 7) (.c (.int 1)))) (.o2 .i (.v 0) (.v 7)))) .nil) (.v 7))) (.cons (.for_ (.one 6) (.rng2 (.c (.int 1)) (.c (.int 5))) (.cons (.aug 3 .a (.o2 .a (.f (.o2 .in_ (.v 6) (.sl (.v 0) .a (.v 5) .a)) (.c (.str [40])) (.c (.str []))) (.f (.o2 .in_ (.v 6) (.sl (.v 1) .a (.v 5) .a)) (.c (.str [41])) (.c (.str [])))))
 .nil))
 .nil))
 (.cons (.ret (.o2 .a (.v 3) (.v 4)))
 .nil)))
noncomputable def NN:Nat:=8
noncomputable def PA:E5:=
 (.cons (.for_ (.m [4,5]) (.zip (.v 0) (.v 2)) (.cons (.asgT [6,7] (.f (.o2 .eq (.o2 .mod (.v 3) (.c (.int 2))) (.c (.int 0))) (.tup (.cons (.o1 .upper (.v 1)) (.cons (.o2 .sub (.o2 .mul (.c (.int 2)) (.o1 .len (.v 1))) (.o1 .len (.v 4))) .nil))) (.tup (.cons (.v 1) (.cons (.o2 .sub (.o2 .mul (.c (.int 2)) (.o1 .len (.v 1))) (.o2 .mul (.c (.int 2)) (.o1 .len (.v 4)))) .nil)))))
 (.cons (.asg 8 (.f (.o2 .lt (.o2 .mod (.v 3) (.c (.int 4))) (.c (.int 2))) (.call 134 (.cons (.v 4) (.cons (.v 6) (.cons (.v 7) .nil))) Ae) (.call 134 (.cons (.v 6) (.cons (.v 4) (.cons (.v 7) .nil))) Ae)))
 (.cons (.f (.bool Ai (.cons (.o1 .isBool (.v 8)) (.cons (.o2 .lt (.v 8) (.v 7)) (.cons (.o2 .isnot (.o2 .eq (.v 8) (.v 7)) (.v 5)) .nil)))) (.cons (.ret (.c (.bool Ab)))
 .nil) .nil)
 .nil))))
 (.cons (.ret (.c (.bool Ai)))
 .nil))
noncomputable def Pd:Nat:=9
noncomputable def G4:E5:=
 (.cons (.t [1,2] [Ab,Ai] (.cons (.l .nil) (.cons (.l .nil) .nil)))
 (.cons (.for_ (.one 3) (.ex (.sl (.v 0) .a .a (.o1 .neg (.c (.int 1))))) (.cons (.asg 2 (.o2 .a (.l (.cons (.callo 120 1 (.cons (.v 3) .nil)) .nil)) (.v 2)))
 (.cons (.n 111 1 (.v 3) Ae)
 .nil)))
 (.cons (.ret (.sl (.v 2) .a (.c (.int 3)) .a))
 .nil)))
noncomputable def GZ:Nat:=4
noncomputable def LA:E5:=
 (.cons (.ret (.o2 .i (.v 0) (.c (.int 1))))
 .nil)
noncomputable def Ll:Nat:=1
noncomputable def MR:E5:=
 (.cons (.asg 4 (.c (.int 1)))
 (.cons (.for_ (.one 5) (.r (.o1 .len (.v 0))) (.cons (.aug 4 .mul (.o2 .mul (.o2 .i (.v 2) (.o2 .index (.v 1) (.o2 .i (.v 0) (.v 5)))) (.f (.o2 .lt (.sl (.v 0) (.v 5) (.o2 .a (.v 5) (.c (.int 1))) .a) (.sl (.v 0) (.o2 .a (.v 5) (.c (.int 1))) (.o2 .a (.v 5) (.c (.int 2))) .a)) (.o2 .pow (.v 3) (.o2 .a (.v 5) (.c (.int 1)))) (.c (.int 1)))))
 .nil))
 (.cons (.ret (.v 4))
 .nil)))
noncomputable def MJ:Nat:=6
noncomputable def A4:E5:=
 (.cons (.t [1,2] [Ai,Ai] (.cons (.comp [39] (.one 39) (.ex (.sl (.v 0) .a (.c (.int 60)) .a)) .nil (.o2 .mod (.v 39) (.c (.int 5040)))) (.cons (.l (.cons (.c (.int 9)) (.cons (.c (.int 23)) (.cons (.c (.int 0)) (.cons (.c (.int 5)) .nil))))) .nil)))
 (.cons (.asg 3 (.comp [40] (.one 40) (.r (.c (.int 4))) .nil (.o2 .a (.o2 .i (.v 2) (.v 40)) (.o1 .sum (.sl (.v 1) (.v 40) .a (.c (.int 4)))))))
 (.cons (.t [4,5] [Ai,Ab] (.cons (.l (.cons (.o2 .mod (.o2 .i (.v 3) (.c (.int 0))) (.c (.int 4))) (.cons (.o2 .mod (.o2 .fdiv (.o2 .i (.v 3) (.c (.int 0))) (.c (.int 4))) (.c (.int 3))) (.cons (.o2 .mod (.o2 .fdiv (.o2 .i (.v 3) (.c (.int 0))) (.c (.int 12))) (.c (.int 2))) .nil)))) (.cons (.l (.cons (.c (.int 1)) (.cons (.c (.int 2)) (.cons (.c (.int 3)) (.cons (.c (.int 4)) .nil))))) .nil)))
 (.cons (.pops 6 5 [41] 4)
 (.cons (.frz 5)
 (.cons (.t [6,7] [Ai,Ai] (.cons (.o2 .a (.v 6) (.v 5)) (.cons (.o1 .sum (.v 4)) .nil)))
 (.cons (.asg 8 (.comp [42] (.one 42) (.r (.c (.int 3))) .nil (.o1 .chr (.o2 .a (.o2 .a (.c (.int 97)) (.o2 .mod (.o2 .i (.v 3) (.c (.int 3))) (.c (.int 24)))) (.v 42)))))
 (.cons (.asg 9 (.f (.o2 .eq (.o2 .mod (.o2 .i (.v 3) (.c (.int 1))) (.c (.int 41))) (.c (.int 19))) (.o1 .neg (.c (.int 21))) (.o2 .sub (.o2 .mod (.o2 .i (.v 3) (.c (.int 1))) (.c (.int 41))) (.c (.int 20)))))
 (.cons (.asg 9 (.f (.o2 .eq (.o2 .mod (.o2 .fdiv (.o2 .i (.v 3) (.c (.int 1))) (.c (.int 41))) (.c (.int 7))) (.c (.int 6))) (.o2 .mul (.v 9) (.o2 .pow (.c (.int 3)) (.o2 .a (.f (.o2 .lt (.v 7) (.c (.int 4))) (.c (.int 2600)) (.c (.int 200))) (.o2 .mod (.o2 .fdiv (.o2 .i (.v 3) (.c (.int 1))) (.c (.int 287))) (.c (.int 60)))))) (.v 9)))
 (.cons (.asg 11 (.comp [43] (.one 43) (.rng2 (.c (.int 1)) (.o2 .a (.o2 .max (.v 7) (.c (.int 3))) (.c (.int 1)))) .nil (.call 170 (.cons (.v 9) (.cons (.v 43) .nil)) Ae)))
 (.cons (.f (.o2 .in_ (.c .none) (.v 11)) (.cons (.ret (.c (.bool Ai)))
 .nil) .nil)
 (.cons (.t [12,13,14] [Ai,Ai,Ai] (.cons (.l (.cons (.c (.int 2)) (.cons (.c (.int 1)) (.cons (.c (.int 0)) (.cons (.c (.int 2)) (.cons (.c (.int 1)) (.cons (.c (.int 2)) .nil))))))) (.cons (.l (.cons (.c (.int 0)) (.cons (.c (.int 0)) (.cons (.c (.int 0)) (.cons (.c (.int 1)) (.cons (.c (.int 1)) (.cons (.c (.int 2)) .nil))))))) (.cons (.l (.cons (.l .nil) .nil)) .nil))))
 (.cons (.for_ (.one 15) (.r (.c (.int 6))) (.cons (.asg 14 (.o2 .a (.v 14) (.comp [44] (.one 44) (.ex (.v 14)) .nil (.o2 .a (.v 44) (.l (.cons (.v 15) .nil))))))
 .nil))
 (.cons (.asg 14 (.comp [45] (.one 45) (.ex (.v 14)) (.cons (.o2 .eq (.o1 .len (.v 45)) (.v 7)) .nil) (.v 45)))
 (.cons (.asg 16 (.comp [46] (.one 46) (.ex (.v 14)) .nil (.call 148 (.cons (.comp [47] (.one 47) (.ex (.v 46)) .nil (.o2 .i (.v 12) (.v 47))) .nil) Ae)))
 (.cons (.asg 18 (.comp [48] (.one 48) (.r (.o1 .len (.v 14))) (.cons (.o2 .eq (.o2 .mod (.o2 .a (.v 48) (.o2 .i (.v 3) (.c (.int 2)))) (.c (.int 2))) (.c (.int 1))) .nil) (.v 48)))
 (.cons (.t [19,20] [Ai,Ai] (.cons (.comp [49] (.one 49) (.ex (.v 18)) .nil (.call 158 (.cons (.v 6) (.cons (.o2 .i (.v 16) (.v 49)) (.cons (.o2 .a (.v 49) (.o2 .i (.v 3) (.c (.int 2)))) .nil))) Ae)) (.cons (.call 158 (.cons (.v 6) (.cons (.v 6) (.cons (.o2 .i (.v 3) (.c (.int 2))) .nil))) Ae) .nil)))
 (.cons (.asg 21 (.o2 .a (.v 19) (.l (.cons (.v 20) (.cons (.o2 .a (.c (.str [40])) (.v 20)) .nil)))))
 (.cons (.asgOc 22 42 (.cons (.v 21) .nil))
 (.cons (.f (.bool Ai (.cons (.neo 22 (.o2 .a (.comp [50,51] (.m [50,51]) (.zip (.v 18) (.v 19)) .nil (.f (.o2 .eq (.o2 .i (.v 16) (.v 50)) (.v 6)) (.v 51) (.c (.str [40,39,39,44,32,39,39,41])))) (.l (.cons (.v 20) (.cons (.c (.str [40,39,39,44,32,39,39,41])) .nil))))) (.cons (.o2 .ne (.v 21) (.o2 .a (.v 19) (.l (.cons (.v 20) (.cons (.o2 .a (.c (.str [40])) (.v 20)) .nil))))) (.cons (.isown 22 21) .nil)))) (.cons (.ret (.c (.bool Ai)))
 .nil) .nil)
 (.cons (.t [23,24,25] [Ai,Ai,Ab] (.cons (.call 153 (.cons (.v 6) (.cons (.v 7) (.cons (.v 8) .nil))) Ae) (.cons (.comp [52] (.one 52) (.ex (.v 14)) .nil (.o2 .join (.c (.str [])) (.comp [53] (.one 53) (.ex (.v 52)) .nil (.o2 .i (.v 8) (.o2 .i (.v 12) (.v 53)))))) (.cons (.l .nil) .nil))))
 (.cons (.asg 26 (.comp [54] (.one 54) (.ex (.comp [55] (.one 55) (.r (.o1 .len (.v 14))) .nil (.o2 .mod (.o2 .a (.o2 .mul (.c (.int 11)) (.v 55)) (.o2 .i (.v 3) (.c (.int 2)))) (.o1 .len (.v 14))))) .nil (.l (.cons (.v 54) (.cons (.o1 .sum (.comp [56] (.one 56) (.ex (.o2 .i (.v 14) (.v 54))) .nil (.o2 .i (.v 13) (.v 56)))) .nil)))))
 (.cons (.for_ (.one 17) (.r (.o1 .len (.v 14))) (.cons (.f (.bool Ab (.cons (.o2 .eq (.o2 .mod (.o2 .a (.v 17) (.o2 .i (.v 3) (.c (.int 2)))) (.c (.int 5))) (.c (.int 0))) (.cons (.o2 .lt (.v 7) (.c (.int 6))) (.cons (.call 165 (.cons (.v 23) (.cons (.o2 .i (.v 24) (.v 17)) (.cons (.comp [57] (.one 57) (.ex (.v 23)) .nil (.o2 .eq (.v 57) (.o2 .i (.v 24) (.v 17)))) (.cons (.o2 .a (.v 17) (.o2 .i (.v 3) (.c (.int 2)))) .nil)))) Ae) .nil)))) (.cons (.ret (.c (.bool Ai)))
 .nil) .nil)
 (.cons (.f (.o2 .eq (.o2 .mod (.o2 .i (.v 3) (.c (.int 3))) (.c (.int 2))) (.c (.int 0))) (.cons (.n 111 25 (.o2 .i (.v 26) (.v 17)) (Aa 184))
 .nil) (.cons (.n 93 25 (.o2 .i (.v 26) (.v 17)) (Aa 184))
 .nil))
 .nil)))
 (.cons (.frz 25)
 (.cons (.f (.bool Ai (.cons (.not (.bool Ab (.cons (.call 191 (.cons (.v 25) (.cons (.c (.bool Ab)) .nil)) Ae) (.cons (.call 191 (.cons (.v 25) (.cons (.c (.bool Ai)) .nil)) Ae) .nil)))) (.cons (.o2 .ne (.v 25) (.sort 184 (.f (.o2 .eq (.o2 .mod (.o2 .i (.v 3) (.c (.int 3))) (.c (.int 2))) (.c (.int 0))) (.sl (.v 26) .a .a (.o1 .neg (.c (.int 1)))) (.v 26)))) .nil))) (.cons (.ret (.c (.bool Ai)))
 .nil) .nil)
 (.cons (.t [27,28,29] [Ai,Ai,Ai] (.cons (.comp [59] (.one 59) (.ex (.v 25)) (.cons (.o2 .eq (.o2 .i (.v 16) (.o2 .i (.v 59) (.c (.int 0)))) (.v 6)) .nil) (.v 59)) (.cons (.o2 .join (.c (.str [])) (.comp [58] (.one 58) (.ex (.v 12)) .nil (.o2 .i (.v 8) (.v 58)))) (.cons (.f (.o2 .eq (.v 7) (.c (.int 6))) (.sl (.v 23) (.o2 .mod (.o2 .i (.v 3) (.c (.int 2))) (.c (.int 3))) .a (.c (.int 3))) (.v 23)) .nil))))
 (.cons (.f (.bool Ai (.cons (.call 165 (.cons (.v 29) (.cons (.v 28) (.cons (.comp [61] (.one 61) (.ex (.v 29)) .nil (.o2 .in_ (.v 61) (.comp [62] (.one 62) (.ex (.v 27)) .nil (.o2 .i (.v 24) (.o2 .i (.v 62) (.c (.int 0))))))) (.cons (.o2 .fdiv (.o2 .i (.v 3) (.c (.int 2))) (.c (.int 3))) .nil)))) Ae) (.cons (.o2 .ne (.comp [60] (.one 60) (.ex (.tup (.cons (.c (.int 6)) (.cons (.c (.int 3)) .nil)))) .nil (.call 134 (.cons (.c (.str [45,45,45])) (.cons (.sl (.v 28) .a (.c (.int 3)) .a) (.cons (.v 60) .nil))) Ae)) (.l (.cons (.c (.int 6)) (.cons (.c (.int 4)) .nil)))) .nil))) (.cons (.ret (.c (.bool Ai)))
 .nil) .nil)
 (.cons (.t [30,31] [Ai,Ai] (.cons (.o2 .i (.v 14) (.o2 .i (.o2 .i (.v 27) (.c (.int 0))) (.c (.int 0)))) (.cons (.o2 .i (.v 14) (.o2 .i (.o2 .i (.v 27) (.o1 .neg (.c (.int 1)))) (.c (.int 0)))) .nil)))
 (.cons (.asg 32 (.o2 .a (.comp [63] (.one 63) (.r (.c (.int 3))) .nil (.o1 .len (.comp [64] (.one 64) (.ex (.v 31)) (.cons (.o2 .eq (.o2 .i (.v 13) (.v 64)) (.v 63)) .nil) (.v 64)))) (.comp [65] (.one 65) (.r (.c (.int 3))) .nil (.o1 .len (.comp [66] (.one 66) (.ex (.v 30)) (.cons (.o2 .eq (.o2 .sub (.o2 .i (.v 12) (.v 66)) (.o2 .i (.v 13) (.v 66))) (.v 65)) .nil) (.v 66))))))
 (.cons (.f (.o2 .ne (.v 32) (.o2 .a (.call 177 (.cons (.v 6) .nil) Ae) (.call 177 (.cons (.comp [67] (.one 67) (.ex (.tup (.cons (.c (.int 1)) (.cons (.c (.int 2)) (.cons (.c (.int 3)) (.cons (.c (.int 4)) .nil)))))) .nil (.o2 .a (.o2 .index (.v 6) (.v 67)) (.c (.int 1)))) .nil) Ae))) (.cons (.ret (.c (.bool Ai)))
 .nil) .nil)
 (.cons (.asg 33 (.comp [68] (.one 68) (.r (.c (.int 6))) .nil (.call 120 (.cons (.v 27) (.cons (.v 68) .nil)) (Aa 184))))
 (.cons (.asg 34 (.comp [69] (.one 69) (.r (.c (.int 6))) .nil (.call 102 (.cons (.v 27) (.cons (.v 69) (.cons (.o2 .i (.v 33) (.v 69)) .nil))) (Aa 184))))
 (.cons (.asg 35 (.comp [70] (.one 70) (.r (.c (.int 6))) .nil (.l (.cons (.call 102 (.cons (.v 27) (.cons (.o1 .neg (.c (.int 1))) (.cons (.o2 .i (.v 33) (.v 70)) (.cons (.o2 .i (.v 34) (.v 70)) .nil)))) (Aa 184)) (.cons (.call 120 (.cons (.v 27) (.cons (.c (.int 9)) (.cons (.o2 .i (.v 33) (.v 70)) (.cons (.o2 .i (.v 34) (.v 70)) .nil)))) (Aa 184)) .nil)))))
 (.cons (.f (.o2 .ne (.v 35) (.comp [71] (.one 71) (.r (.c (.int 6))) .nil (.l (.cons (.o2 .i (.v 33) (.v 71)) (.cons (.o2 .i (.v 34) (.v 71)) .nil))))) (.cons (.ret (.c (.bool Ai)))
 .nil) .nil)
 (.cons (.t [36,37] [Ai,Ai] (.cons (.c (.int 1)) (.cons (.o1 .sum (.comp [72] (.one 72) (.r (.c (.int 6))) .nil (.o2 .mul (.o2 .sub (.o2 .i (.v 34) (.v 72)) (.o2 .i (.v 33) (.v 72))) (.o2 .pow (.v 9) (.v 72))))) .nil)))
 (.cons (.for_ (.one 10) (.r (.v 7)) (.cons (.aug 36 .mul (.o2 .i (.v 11) (.v 10)))
 .nil))
 (.cons (.asg 38 (.o1 .sum (.comp [73] (.one 73) (.ex (.v 23)) .nil (.call 198 (.cons (.v 73) (.cons (.v 8) (.cons (.v 11) (.cons (.v 9) .nil)))) Ae))))
 (.cons (.ret (.o2 .eq (.call 84 (.cons (.o2 .a (.v 38) (.o2 .mod (.o2 .i (.v 3) (.c (.int 3))) (.v 36))) (.cons (.v 36) .nil)) Ae) (.tup (.cons (.v 37) (.cons (.o2 .mod (.o2 .i (.v 3) (.c (.int 3))) (.v 36)) .nil)))))
 .nil))))))))))))))))))))))))))))))))))))))
theorem Hw:Ct (C0 (AA 2)) BM (AA 2).body=Ab:=by decide+kernel
theorem Jl:Ct (C0 (AA 3)) Cs (AA 3).body=Ab:=by decide+kernel
theorem H7:Ct (C0 (AA 4)) FV (AA 4).body=Ab:=by decide+kernel
theorem Rx:Ct (C0 (AA 7)) CR (AA 7).body=Ab:=by decide+kernel
theorem Rw:Ct (C0 (AA 8)) Iy (AA 8).body=Ab:=by decide+kernel
theorem N9:Ct (C0 (AA 11)) DF (AA 11).body=Ab:=by decide+kernel
theorem N8:Ct (C0 (AA 12)) IV (AA 12).body=Ab:=by decide+kernel
theorem Ml:Ct (C0 (AA 15)) EN (AA 15).body=Ab:=by decide+kernel
theorem MU:Ct (C0 (AA 17)) Fg (AA 17).body=Ab:=by decide+kernel
theorem Jj:Ct (C0 (AA 22)) G3 (AA 22).body=Ab:=by decide+kernel
theorem H8:Ct (C0 (AA 23)) Az (AA 23).body=Ab:=by decide+kernel
theorem Ly:Ct (C0 (AA 25)) Ja (AA 25).body=Ab:=by decide+kernel
theorem Rv:Ct (C0 (AA 26)) PB (AA 26).body=Ab:=by decide+kernel
theorem Qh:Ct (C0 (AA 27)) Ol (AA 27).body=Ab:=by decide+kernel
theorem Qi:Ct (C0 (AA 28)) IU (AA 28).body=Ab:=by decide+kernel
theorem Ru:Ct (C0 (AA 29)) PA (AA 29).body=Ab:=by decide+kernel
theorem Jk:Ct (C0 (AA 31)) G4 (AA 31).body=Ab:=by decide+kernel
theorem N7:Ct (C0 (AA 32)) LA (AA 32).body=Ab:=by decide+kernel
theorem OO:Ct (C0 (AA 34)) MR (AA 34).body=Ab:=by decide+kernel
set_option backward.match.sparseCases false
noncomputable abbrev FZ(s:List Nat):Str:=⟨s.toArray⟩
noncomputable abbrev pw:=PySem.Challenge.pw_ta0089_01
mutual
noncomputable def A6(h:AV)(Y:Aj->Prop):V->Ad->Prop
 |.none,v=>v=.none
 |.bool b,v=>v=.bool b
 |.int i,v=>∃t,v=.int i t
 |.str s,v=>s.length<=CN/\∃t,v=.str (FZ s) t
 |.list xs,v=>xs.length<=CN/\∃a vs,v=.ref a/\¬Y a/\h.PlainList a vs/\AI h Y xs vs.toList
 |.tup xs,v=>xs.length<=CN/\∃a vs,v=.ref a/\¬Y a/\IsTup h a vs/\AI h Y xs vs.toList
 |.fn a,v=>v=.ref a
noncomputable def AI(h:AV)(Y:Aj->Prop):List V->List Ad->Prop
 |[],vs=>vs=[]
 |x::xs,vs=>∃v vs',vs=v::vs'/\A6 h Y x v/\AI h Y xs vs'
end
section
variable{h:AV}{Y:Aj->Prop}{xs:List V}{v:Ad}{C:Ad->Prop}
@[elab_as_elim] theorem lE(r:A6 h Y (.list xs) v)(k:xs.length<=CN->∀a vs,¬Y a->h.PlainList a vs->AI h Y xs vs.toList->C (.ref a)):C v:=Hm r.2 λ a vs e h1 h2 h3=>e▸k r.1 a vs h1 h2 h3
@[elab_as_elim] theorem tE(r:A6 h Y (.tup xs) v)(k:xs.length<=CN->∀a vs,¬Y a->IsTup h a vs->AI h Y xs vs.toList->C (.ref a)):C v:=Hm r.2 λ a vs e h1 h2 h3=>e▸k r.1 a vs h1 h2 h3
@[elab_as_elim] theorem iE{i:Int}(r:A6 h Y (.int i) v)(k:∀t,C (.int i t)):C v:=Aw r λ t e=>e▸k t
@[elab_as_elim] theorem sE{l:List Nat}(r:A6 h Y (.str l) v)(k:l.length<=CN->∀t,C (.str (FZ l) t)):C v:=Aw r.2 λ t e=>e▸k r.1 t
end
def Tb:Aj->Prop:=λ b=>b=58\/b=65
def DS(h h':AV):Prop:=∀b o,¬Tb b->h.get? b=Aa o->h'.get? b=Aa o
theorem DS.refl(h:AV):DS h h:=λ z z z e=>e
theorem DS.trans{a b c:AV}(x:DS a b)(y:DS b c):DS a c:=λ k o n e=>y k o n (x k o n e)
theorem DS.push(h:AV)(o:Obj):DS h (h.push o):=λ z z z e=>AS _ e
theorem DS.of{h h':AV}(k:∀b o,h.get? b=Aa o->h'.get? b=Aa o):DS h h':=λ b o z e=>k b o e
theorem A6.monoY{h h':AV}{Y Y':Aj->Prop}(hk:∀b o,¬Tb b->¬Y b->h.get? b=Aa o->h'.get? b=Aa o)(hT:∀b o,Tb b->h.get? b=Aa o->o.cls=.none)(hY:∀b o,h.get? b=Aa o->Y' b->Y b):
  ∀{x:V} {v:Ad},A6 h Y x v->A6 h' Y' x v:=@λ x=>by
 induction x using V.rec (motive_2:=λ xs=>∀vs,AI h Y xs vs->AI h' Y' xs vs) with
 |list xs IH=>
  intro v r;refine A9 r λ hz H=>?_;refine Hm H λ a vs e hy ξ5 hr=>?_;obtain⟨n,ho⟩:=ξ5;refine⟨hz,a,vs,e,λ q=>hy (hY a _ ho q),⟨n,hk a _ (λ t=>?_) hy ho⟩,IH _ hr⟩
  cases hT a _ t ho
 |tup xs IH=>intro v r;refine A9 r λ hz H=>?_;refine Hm H λ a vs e hy hl hr=>?_;refine E3 hl λ o ho hc hd=>⟨hz,a,vs,e,λ q=>hy (hY a o ho q),⟨o,hk a o (λ t=>?_) hy ho,hc,hd⟩,IH _ hr⟩;rw[hT a o t ho] at hc;cases hc
 |nil vs r=>exact r
 |cons x xs IH1 IH2 vs r=>exact El r λ v vs' e h1 h2=>⟨v,vs',e,IH1 h1,IH2 _ h2⟩
 |_=>intro v r;exact r
theorem AI.monoY{h h':AV}{Y Y':Aj->Prop}(hk:∀b o,¬Tb b->¬Y b->h.get? b=Aa o->h'.get? b=Aa o)(hT:∀b o,Tb b->h.get? b=Aa o->o.cls=.none)(hY:∀b o,h.get? b=Aa o->Y' b->Y b):
  ∀{xs:List V} {vs:List Ad},AI h Y xs vs->AI h' Y' xs vs:=@λ xs=>by
 induction xs with
 |nil=>intro vs r;exact r
 |cons x xs IH=>intro vs r;exact El r λ v vs' e h1 h2=>⟨v,vs',e,A6.monoY hk hT hY h1,IH h2⟩
theorem A6.mono{h h':AV}{Y Y':Aj->Prop}(hk:DS h h')(hT:∀b o,Tb b->h.get? b=Aa o->o.cls=.none)(hY:∀b o,h.get? b=Aa o->Y' b->Y b){x:V}{v:Ad}(r:A6 h Y x v):A6 h' Y' x v:=
 r.monoY (λ b o n z e=>hk b o n e) hT hY
theorem AI.mono{h h':AV}{Y Y':Aj->Prop}(hk:DS h h')(hT:∀b o,Tb b->h.get? b=Aa o->o.cls=.none)(hY:∀b o,h.get? b=Aa o->Y' b->Y b){xs:List V}{vs:List Ad}(r:AI h Y xs vs):AI h' Y' xs vs:=
 r.monoY (λ b o n z e=>hk b o n e) hT hY
theorem AI.length{h:AV}{Y:Aj->Prop}{xs:List V}{vs:List Ad}(r:AI h Y xs vs):vs.length=xs.length:=by
 induction xs generalizing vs with
 |nil=>rw[r];rfl
 |cons x xs ih=>exact El r λ v vs' e h1 h2=>e▸congrArg (·+1) (ih h2)
theorem AI.get{h:AV}{Y:Aj->Prop}{xs:List V}{vs:List Ad}(r:AI h Y xs vs){i:Nat}{x:V}(q:xs[i]?=Aa x):∃v,vs[i]?=Aa v/\A6 h Y x v:=by
 induction xs generalizing vs i with
 |nil=>exact nn q
 |cons y xs ih=>
  refine El r λ v vs' e h1 h2=>?_;subst e
  induction i using A5 with
  |zero=>exact⟨v,rfl,sj q▸h1⟩
  |succ i=>exact ih h2 q
theorem AI.append{h:AV}{Y:Aj->Prop}{xs ys:List V}{vs us:List Ad}(r:AI h Y xs vs)(r':AI h Y ys us):AI h Y (xs++ys) (vs++us):=by
 induction xs generalizing vs with
 |nil=>rw[r];exact r'
 |cons x xs ih=>exact El r λ v vs' e h1 h2=>e▸⟨v,_,rfl,h1,ih h2⟩
theorem AI.snoc{h:AV}{Y:Aj->Prop}{xs:List V}{vs:List Ad}{x:V}{v:Ad}(r:AI h Y xs vs)(q:A6 h Y x v):AI h Y (xs++[x]) (vs++[v]):=
 r.append ⟨v,[],rfl,q,rfl⟩
theorem AI.of_get{h:AV}{Y:Aj->Prop}{xs:List V}{vs:List Ad}(hl:vs.length=xs.length)(hg:∀(i:Nat) x v,xs[i]?=Aa x->vs[i]?=Aa v->A6 h Y x v):AI h Y xs vs:=by
 induction xs generalizing vs with
 |nil=>exact List.length_eq_zero_iff.mp hl
 |cons x xs ih=>
  induction vs using Aq with
  |nil=>cases hl
  |cons v vs=>exact⟨v,vs,rfl,hg 0 x v rfl rfl,ih (C4 hl) λ i=>hg (i+1)⟩
theorem AI.nth{h:AV}{Y:Aj->Prop}{xs:List V}{vs:List Ad}(r:AI h Y xs vs){i:Nat}{x:V}{v:Ad}(e:xs[i]?=Aa x)(e':vs[i]?=Aa v):A6 h Y x v:=by refine AF (r.get e) λ u hu q=>?_;rw[hu] at e';obtain rfl:=sj e';exact q
inductive Mu(h:AV)(a:Aj)(nm qual:Str)(args:HM)(body:List CU)(sc:Scope)(cl:List (Str×Aj))(dV kV:Ad):Prop
 |mk (o:Obj) (doc pm:Ad) (c:Aj) (oc:Obj) (vs:Array Ad) (t:Tok) (ct:Ad) (ho:h.get? a=Aa o) (na:¬Tb a) (hd:o.data=.func (fnX nm qual args body sc cl dV kV doc pm Ae (.ref c) ct))
  (nc:¬Tb c) (hc:h.get? c=Aa oc) (hod:oc.data=.fields vs) (hq:vs[1]?=Aa (.str qual t))
structure fI(mg:Str->Option Ad)(h:AV)(a i:Nat)(dV kV:Ad):Prop where
 nm:mg (AA i).name=Aa (.ref a)
 ob:Mu h a (AA i).name (AA i).name (AA i).args (AA i).body (AA i).scope [] dV kV
noncomputable def Mq:List Str:=["len","sum","chr","isinstance","bool","sorted","min","max","divmod","list","range","zip","reversed","enumerate","str","ValueError","ZeroDivisionError"]
noncomputable def Fe:List (Nat×Nat):=[(21,1),(28,2),(35,3),(42,4),(49,7),(56,8),(63,9),(70,10),(77,11),(84,12),(93,14),(102,15),(111,16),(120,17),(127,22),(134,23),(141,25),(148,26),(153,27),(158,28),(165,29),(170,30),(177,31),(184,32),(191,33),(198,34),(203,35)]
noncomputable def RR:List Nat:=[93,102,111,120]
inductive UB(h:AV)(dV kV:Ad):Prop
 |mk (T D:Aj) (o od:Obj) (t t':Tok) (n m:Nat) (hs:Int) (e1:dV=.ref T) (n1:¬Tb T) (h1:h.get? T=Aa o) (d1:o.data=.seq #[.int 0 t,.none] n) (e2:kV=.ref D) (n2:¬Tb D) (h2:h.get? D=Aa od) (d2:od.data=.dict #[⟨hs,.str "key" t',.none⟩] m)
def MS(h:AV)(a:Nat)(dV kV:Ad):Prop:=(a∉RR->dV=.none/\kV=.none)/\(a∈RR->UB h dV kV)
def EO(h:AV)(b:Aj):Prop:=∀o vs q t,h.get? b=Aa o->o.data=.fields vs->vs[1]?≠Aa (.str q t)
noncomputable def KL(b:Aj):Int:=if b=58 then 82 else 97
noncomputable def LY(b:Aj):Str:=if b=58 then "_int2digits.<locals>.inner" else "_digits2int.<locals>.inner"
def xH(h:AV)(b:Aj)(vs:Array Ad):Prop:=vs=#[]\/∃c,vs=#[MW (KL b),MW 4,.ref c]/\¬Tb c/\h.CodeRec (.ref c) (LY b)
def IW(h:AV):Prop:=∀b,Tb b->∀vs,h.get? b=Aa {cls:=.none,data:=.fields vs}->xH h b vs
inductive My(h:AV)(f P:Aj):Prop
 |mk (c:Aj) (o:Obj) (fd:_) (e1:h.get? f=Aa o) (n1:¬Tb f) (d1:o.data=.func fd) (e2:fd.code=.ref c) (n2:¬Tb c) (C:CodeHd h c P):My h f P
inductive xO(mg:Str->Option Ad)(h:AV):Prop
 |mk (bm:Aj) (o:Obj) (e1:mg "__builtins__"=Aa (.ref bm)) (e2:bm≠Es) (e3:bm≠C8) (n:¬Tb bm) (e4:h.get? bm=Aa o) (q1:o.cls=.type "module") (q2:o.dict=Aa Es) (q3:o.data=.plain):xO mg h
structure Wd(mg mb:Str->Option Ad)(h:AV):Prop where
 g:h.Ns C8 mg
 b:h.Ns Es mb
 nolimit:h.NoLimit
 bi:∀x:Str,x≠"__name__"->mb x=LJ x
 gv:∀(k:Nat) x,Mb[k]?=Aa x->∃(i:Int) (t:Tok),Iq[k]?=Aa i/\mg x=Aa (.int i t)
 nb:∀x∈Mq,mg x=Ae
 fn:∀p∈Fe,∃dV kV,fI mg h p.1 p.2 dV kV/\MS h p.1 dV kV
 tb:∀b,Tb b->∃vs,h.get? b=Aa {cls:=.none,data:=.fields vs}
 ta:IW h
 co:∀p∈[(63,58),(70,65)],My h p.1 p.2
 bm:xO mg h
theorem EF{h h':AV}{a:Aj}{m:Str->Option Ad}(k:DS h h')(n:¬Tb a)(x:h.Ns a m):h'.Ns a m:=
 x.imp λ o=>.imp λ es=>.imp λ ep=>.imp_left (k _ _ n)
theorem Mu.keep{h h':AV}{a:Aj}{nm qual:Str}{args:HM}{body:List CU}{sc:Scope}{cl:List (Str×Aj)}{dV kV:Ad}(x:Mu h a nm qual args body sc cl dV kV)(k:DS h h'):Mu h' a nm qual args body sc cl dV kV:=by
 induction x with
 |mk o doc pm c oc vs t ct ho na hd nc hc hod hq=>exact .mk o doc pm c oc vs t ct (k _ _ na ho) na hd nc (k _ _ nc hc) hod hq
theorem fI.keeps{mg:Str->Option Ad}{h h':AV}{a i:Nat}{dV kV:Ad}(x:fI mg h a i dV kV)(k:DS h h'):fI mg h' a i dV kV:=⟨x.nm,x.ob.keep k⟩
theorem MS.keeps{h h':AV}{a:Nat}{dV kV:Ad}(x:MS h a dV kV)(k:DS h h'):MS h' a dV kV:=
 ⟨x.1,λ ha=>by induction x.2 ha with|mk T D o od t t' n m hs e1 n1 h1 d1 e2 n2 h2 d2=>exact .mk T D o od t t' n m hs e1 n1 (k _ _ n1 h1) d1 e2 n2 (k _ _ n2 h2) d2⟩
theorem Jy(a:Nat)(h:(AG a 58||AG a 65)=Ai:=by rfl):¬Tb a:=by
 rw[K7] at h
 rintro (q|q)
 ·subst q;cases h.1
 ·subst q;cases h.2
theorem RL{h h':AV}{c P:Aj}(x:CodeHd h c P)(k:DS h h')(n:¬Tb c):CodeHd h' c P:=
 x.imp λ o=>.imp λ vs=>.imp λ file=>.imp λ tf=>.imp λ flags=>.imp λ tg=>.imp λ inF=>.imp λ text=>.imp λ tt=>.imp_left (k _ _ n)
theorem IW.mv{h h':AV}{D:Aj->Prop}(x:IW h)(tb:∀b,Tb b->∃vs,h.get? b=Aa {cls:=.none,data:=.fields vs})(hk:∀b o,¬D b->h.get? b=Aa o->h'.get? b=Aa o)(hT:∀b,D b->¬Tb b)(hD:∀b,D b->EO h b):IW h':=λ b t vs e=>by
 refine Aw (tb b t) λ us e1=>?_;have e2:=hk b _ (λ q=>hT b q t) e1;rw[e] at e2;have e3:vs=us:=by injection e2 with e2;injection e2 with _ _ e2;injection e2
 subst e3;rcases x b t vs e1 with q|⟨c,q1,q2,c',o,ws,tk,e4,e5,e6,e7⟩
 ·exact .inl q
 ·cases e4
  exact .inr ⟨c,q1,q2,c,o,ws,tk,rfl,hk c o (λ q=>hD c q o ws _ tk e5 e6 e7) e5,e6,e7⟩
theorem IW.all{h h':AV}(x:IW h)(tb:∀b,Tb b->∃vs,h.get? b=Aa {cls:=.none,data:=.fields vs})(hk:∀b o,h.get? b=Aa o->h'.get? b=Aa o):IW h':=x.mv (D:=λ z=>False) tb (λ b o z e=>hk b o e) (λ _ h=>by cases h) (λ _ h=>by cases h)
theorem EO.plain{h:AV}{b:Aj}{vs:Array Ad}(x:h.PlainList b vs):EO h b:=λ o ws q t e d=>by refine Aw x λ n e1=>?_;rw[e1] at e;obtain rfl:=sj e;cases d
theorem EO.ns{h:AV}{b:Aj}{m:Str->Option Ad}(x:h.Ns b m):EO h b:=λ o ws q t e d=>by refine Lb x λ o' es ep e1 d1 z=>?_;rw[e1] at e;obtain rfl:=sj e;rw[d1] at d;cases d
theorem EO.cell{h:AV}{b:Aj}{v:Option Ad}(x:h.IsCell b v):EO h b:=λ o ws q t e d=>by refine AF x λ o' e1 d1=>?_;rw[e1] at e;obtain rfl:=sj e;rw[d1] at d;cases d
structure GI(mg mb:Str->Option Ad)(s:Af):Prop where
 wd:Wd mg mb s.heap
 bare:AllBare s.gens
structure C7(s s':Af):Prop where
 keep:DS s.heap s'.heap
 gens:∀(i:Nat) x,s.gens[i]?=Aa x->s'.gens[i]?=Aa x
 os:s'.os=s.os
theorem C7.refl(s:Af):C7 s s:=⟨.refl _,λ z z e=>e,rfl⟩
theorem C7.trans{a b c:Af}(x:C7 a b)(y:C7 b c):C7 a c:=⟨x.keep.trans y.keep,λ i g e=>y.gens i g (x.gens i g e),y.os.trans x.os⟩
theorem C7.toks{s:Af}(n:Nat):C7 s {s with toks:=n}:=⟨.refl _,λ z z e=>e,rfl⟩
theorem C7.push{s:Af}(o:Obj)(n:Nat):C7 s {s with heap:=s.heap.push o,toks:=n}:=⟨.push _ _,λ z z e=>e,rfl⟩
theorem GI.cls{mg mb:Str->Option Ad}{s:Af}(g:GI mg mb s):∀b o,Tb b->s.heap.get? b=Aa o->o.cls=.none:=λ b o t e=>by refine Aw (g.wd.tb b t) λ vs q=>?_;rw[e] at q;obtain rfl:=sj q;rfl
theorem Wd.keep{mg mb:Str->Option Ad}{h h':AV}(x:Wd mg mb h)(k:DS h h')(ht:∀b,Tb b->∃vs,h'.get? b=Aa {cls:=.none,data:=.fields vs})(ha:IW h'):Wd mg mb h' where
 ta:=ha
 co:=λ p hp=>by
  induction x.co p hp with
  |mk c o fd e1 n1 d1 e2 n2 C=>exact .mk c o fd (k _ _ n1 e1) n1 d1 e2 n2 (RL C k n2)
 bm:=by
  induction x.bm with
  |mk bm o e1 e2 e3 n e4 q1 q2 q3=>exact .mk bm o e1 e2 e3 n (k _ _ n e4) q1 q2 q3
 g:=EF k (Jy 3) x.g
 b:=EF k (Jy 0) x.b
 nolimit:=x.nolimit.imp λ mc=>.imp_left (EF k (Jy 2))
 bi:=x.bi
 gv:=x.gv
 nb:=x.nb
 fn:=λ p hp=>(x.fn p hp).imp λ d=>.imp λ e=>.imp (·.keeps k) (·.keeps k)
 tb:=ht
theorem GI.toks{mg mb:Str->Option Ad}{s:Af}(g:GI mg mb s)(n:Nat):GI mg mb {s with toks:=n}:=⟨g.wd,g.bare⟩
theorem GI.push{mg mb:Str->Option Ad}{s:Af}(g:GI mg mb s)(o:Obj)(n:Nat):GI mg mb {s with heap:=s.heap.push o,toks:=n}:=
 ⟨g.wd.keep (.push _ _) (λ b t=>(g.wd.tb b t).imp λ vs=>AS _) (g.wd.ta.all g.wd.tb λ z z e=>AS _ e),g.bare⟩
theorem GI.all{mg mb:Str->Option Ad}{s:Af}{h':AV}(g:GI mg mb s)(k:∀b o,s.heap.get? b=Aa o->h'.get? b=Aa o)(n:Nat):GI mg mb {s with heap:=h',toks:=n}:=
 ⟨g.wd.keep (.of k) (λ b t=>(g.wd.tb b t).imp λ vs=>k _ _) (g.wd.ta.all g.wd.tb k),g.bare⟩
theorem C7.all{s:Af}{h':AV}(k:∀b o,s.heap.get? b=Aa o->h'.get? b=Aa o)(n:Nat):C7 s {s with heap:=h',toks:=n}:=⟨.of k,λ z z e=>e,rfl⟩
theorem FC{mg mb:Str->Option Ad}{s s':Af}(g':GI mg mb s')(t:C7 s s'){b:Aj}(h:∃o,s.heap.get? b=Aa o):∃o,s'.heap.get? b=Aa o:=by
 by_cases q:Tb b
 ·refine Aw (g'.wd.tb b q) λ vs e=>?_;exact⟨_,e⟩
 ·refine Aw h λ o e=>?_;exact⟨o,t.keep b o q e⟩
theorem A6.step{mg mb:Str->Option Ad}{s s':Af}{Y:Aj->Prop}{x:V}{v:Ad}(r:A6 s.heap Y x v)(g:GI mg mb s)(t:C7 s s'):A6 s'.heap Y x v:=
 r.mono t.keep g.cls λ z z z y=>y
theorem AI.step{mg mb:Str->Option Ad}{s s':Af}{Y:Aj->Prop}{xs:List V}{vs:List Ad}(r:AI s.heap Y xs vs)(g:GI mg mb s)(t:C7 s s'):AI s'.heap Y xs vs:=
 AI.mono t.keep g.cls (λ z z z y=>y) r
structure BQ(n:Nat)(A:Br):Prop where
 hd:A.handled=Ae
 dp:A.depth+n<=850
 un:A.units+20*n<=9000
 fr:∃l,A.frames=Aa l
theorem BQ.less{n m:Nat}{A:Br}(g:BQ n A)(h:m<=n):BQ m A:=⟨g.hd,by have:=g.dp;omega,by have:=g.un;omega,g.fr⟩
def Ok{Z:Type}(mg mb:Str->Option Ad)(w:B2)(A:Br)(s:Af)(t:Sem Z)(R:Af->Z->Prop):Prop:=
 ∀(Q:Z->Af->Prop) (E:Ad->Af->Prop),(∀s' a,GI mg mb s'->C7 s s'->R s' a->Q a s')->As (An pw w) A t Q E s
section
variable{mg mb:Str->Option Ad}{w:B2}{A:Br}{s:Af}
theorem Ok.pure{Z:Type}{a:Z}{R:Af->Z->Prop}(g:GI mg mb s)(h:R s a):Ok mg mb w A s (pure a) R:=λ z z k=>At (k s a g (.refl s) h)
theorem Ok.mono{Z:Type}{t:Sem Z}{R R':Af->Z->Prop}(x:Ok mg mb w A s t R)(h:∀s' a,GI mg mb s'->C7 s s'->R s' a->R' s' a):Ok mg mb w A s t R':=λ Q E k=>x Q E λ s' a g t r=>k s' a g t (h s' a g t r)
end
section
variable{mg mb:Str->Option Ad}{w:B2}{A:Br}{s:Af}{Y:Aj->Prop}
theorem CS{t:Sem Ad}{R:Af->Ad->Prop}{v:Ad}(g:GI mg mb s)(n:Nat)(hR:R {s with toks:=n} v)
  (hw:∀(Q:Ad->Af->Prop) (E:Ad->Af->Prop),Q v {s with toks:=n}->As (An pw w) A t Q E s):Ok mg mb w A s t R:=
 λ Q E k=>hw Q E (k _ _ (g.toks n) (.toks n) hR)
theorem bJ{t:Sem Ad}{R:Af->Ad->Prop}{v:Ad}(g:GI mg mb s)(o:Obj)(n:Nat)(hR:R {s with heap:=s.heap.push o,toks:=n} v)
  (hw:∀(Q:Ad->Af->Prop) (E:Ad->Af->Prop),Q v {s with heap:=s.heap.push o,toks:=n}->As (An pw w) A t Q E s):Ok mg mb w A s t R:=
 λ Q E k=>hw Q E (k _ _ (g.push o n) (.push o n) hR)
theorem Fn:CN=Gg:=by rw[ER];rfl
theorem Jt{h:AV}{xs:List V}{vs:Array Ad}(hY:∀b,Y b->∃o,h.get? b=Aa o)(hT:∀b o,Tb b->h.get? b=Aa o->o.cls=.none)(hz:xs.length<=CN)(r:AI h Y xs vs.toList){n:Nat}:
  A6 (h.push {cls:=.type "list",data:=.seq vs n}) Y (.list xs) (.ref h.objs.size):=
 ⟨hz,h.objs.size,vs,rfl,λ y=>by refine Aw (hY _ y) λ o e=>?_;exact absurd (AT e) (Ch _),⟨n,AW _ rfl⟩,AI.mono (.push _ _) hT (λ z z z y=>y) r⟩
theorem Ny{h:AV}{xs:List V}{vs:Array Ad}(hY:∀b,Y b->∃o,h.get? b=Aa o)(hT:∀b o,Tb b->h.get? b=Aa o->o.cls=.none)(hz:xs.length<=CN)(r:AI h Y xs vs.toList){n:Nat}:
  A6 (h.push {cls:=.type "tuple",data:=.seq vs n}) Y (.tup xs) (.ref h.objs.size):=
 ⟨hz,h.objs.size,vs,rfl,λ y=>by refine Aw (hY _ y) λ o e=>?_;exact absurd (AT e) (Ch _),⟨_,AW _ rfl,rfl,n,rfl⟩,AI.mono (.push _ _) hT (λ z z z y=>y) r⟩
theorem gK{a b:Int}(h:BV a<=1048576/\BV b<=1048576):IntMulOk a b:=.of_bits h.1 h.2
theorem Ce(x:List Nat):(FZ x).length=x.length:=by simp[Str.length]
theorem IJ(x y:List Nat):FZ x++FZ y=FZ (x++y):=by show Str.append _ _=_;simp[Str.append,FZ]
theorem FS{op:Ad->Ad->Sem Ad}{f:Int->Int->Option V}{a b r:V}{va vb:Ad}(h:Jh a b f=Aa r)(ra:A6 s.heap Y a va)(rb:A6 s.heap Y b vb)(g:GI mg mb s)
  (hf:∀i j,f i j=Aa r->∃k,r=.int k/\∀t t' (Q:Ad->Af->Prop) (E:Ad->Af->Prop),Q (.int k s.toks) {s with toks:=s.toks+1}->As (An pw w) A (op (.int i t) (.int j t')) Q E s):Ok mg mb w A s (op va vb) λ s' v=>A6 s'.heap Y r v:=by
 refine Ip h λ i j H3 ξ4 h=>?_;subst H3;subst ξ4;refine iE ra λ t=>?_;refine iE rb λ t'=>?_;refine AF (hf i j h) λ k H2 hw=>?_;subst H2;exact CS g _ ⟨_,rfl⟩ λ Q E q=>hw t t' Q E q
theorem DA{r:V}{k:Int}(h:Aa (V.int k)=Aa r):r=.int k:=(AE h).symm
theorem Zi{x y:List Nat}{r:V}{va vb:Ad}(h:(if x.length+y.length<=CN then Aa (V.str (x++y)) else Ae)=Aa r)(ra:A6 s.heap Y (.str x) va)(rb:A6 s.heap Y (.str y) vb)(g:GI mg mb s):Ok mg mb w A s (binaryOp .Add va vb) λ s' v=>A6 s'.heap Y r v:=by refine sE ra λ z t=>?_;refine sE rb λ z t'=>?_;refine iK h λ hz h=>?_;obtain rfl:=sj h;refine λ Q E k=>PyProof.Rows.add_str (λ t'' tk=>k _ _ (g.toks tk) (.toks tk) ⟨by rw[AB];exact hz,t'',by rw[IJ]⟩) ?_;rw[Ce,Ce,<-Fn];exact hz
theorem VS{x y:List V}{r:V}{va vb:Ad}(h:(if x.length+y.length<=CN then Aa (V.list (x++y)) else Ae)=Aa r)(ra:A6 s.heap Y (.list x) va)(rb:A6 s.heap Y (.list y) vb)(g:GI mg mb s)(hY:∀b,Y b->∃o,s.heap.get? b=Aa o):
  Ok mg mb w A s (binaryOp .Add va vb) λ s' v=>A6 s'.heap Y r v:=by
 refine lE ra λ z a vs z hl rs=>?_;refine lE rb λ z b us z hl' rs'=>?_;refine iK h λ hz h=>?_;obtain rfl:=sj h;refine Aw hl λ n ho=>?_;refine Aw hl' λ n2 ho2=>?_;have hzz:vs.size+us.size<=Gg:=by rw[<-Ax,<-Ax,rs.length,rs'.length,<-Fn];exact hz
 have rr:AI s.heap Y (x++y) (vs++us).toList:=by rw[Array.toList_append];exact rs.append rs'
 exact bJ g {cls:=.type "list",data:=.seq (vs++us)} s.toks (Jt hY g.cls (by rw[AB];exact hz) rr) λ Q E k=>concat_meets ⟨_,ho,rfl⟩ ⟨_,ho2,rfl⟩ noFill_list_add seq_list_add PySem.F.slot_list_add PySem.F.entry_list_add (PySem.F.args_list_add_2 _ _) (list_addW a b vs us n n2 _ _ _ _ hzz) ⟨ho,ho2,k⟩
theorem Th{o:O2}{u:Ic}{a b r:V}{va vb:Ad}(hu:Pz o=Aa u)(h:Cj o a b=Aa r)(ra:A6 s.heap Y a va)(rb:A6 s.heap Y b vb)(g:GI mg mb s)
  (hY:∀b,Y b->∃o,s.heap.get? b=Aa o):Ok mg mb w A s (binaryOp u va vb) λ s' v=>A6 s'.heap Y r v:=by
 induction o using O2.casesOn<;>first|exact nn hu|obtain rfl:=sj hu
 case a=>
  induction a using V.casesOn<;>first|exact nn h|skip
  case int i=>refine mE h λ j h1=>?_;rw[B5 h1] at rb;refine iE ra λ t=>?_;exact iE rb λ t'=>CS g _ ⟨_,rfl⟩ λ Q E k=>PyProof.Rows.add_int k
  case str x=>refine bK h λ y h1 h2=>?_;rw[Ft h1] at rb;exact Zi h2 ra rb g
  case list x=>refine bK h λ y h1 h2=>?_;rw[Cu h1] at rb;exact VS h2 ra rb g hY
 case sub=>exact FS h ra rb g λ i j e=>⟨_,DA e,λ t t' Q E k=>PyProof.Rows.sub_int k⟩
 case mul=>exact FS h ra rb g λ i j e=>have e:=Fd e;⟨_,DA e.2,λ t t' Q E k=>PyProof.Rows.mul_int k (gK e.1)⟩
 case fdiv=>exact FS h ra rb g λ i j e=>have e:=Fd e;⟨_,DA e.2,λ t t' Q E k=>PyProof.Rows.floordiv_int e.1.1 k (.inl e.1.2)⟩
 case mod=>exact FS h ra rb g λ i j e=>have e:=Fd e;⟨_,DA e.2,λ t t' Q E k=>PyProof.Rows.mod_int' e.1.1 k⟩
 case pow=>exact FS h ra rb g λ i j e=>have e:=Fd e;⟨_,DA e.2,λ t t' Q E k=>PyProof.Rows.pow_int e.1.1 e.1.2 k⟩
 case shl=>exact FS h ra rb g λ i j e=>have e:=Fd e;⟨_,DA e.2,λ t t' Q E k=>PyProof.Rows.lshift_int e.1.1 e.1.2 k⟩
 case shr=>exact FS h ra rb g λ i j e=>have e:=Fd e;⟨_,DA e.2,λ t t' Q E k=>PyProof.Rows.rshift_int e.1 k⟩
 case band=>exact FS h ra rb g λ i j e=>⟨_,DA e,λ t t' Q E k=>PyProof.Rows.and_int k⟩
 case bor=>exact FS h ra rb g λ i j e=>⟨_,DA e,λ t t' Q E k=>PyProof.Rows.or_int k⟩
 case bxor=>exact FS h ra rb g λ i j e=>⟨_,DA e,λ t t' Q E k=>PyProof.Rows.xor_int k⟩
end
mutual
noncomputable def ZO:V->PyData
 |.none=>.none
 |.bool b=>.bool b
 |.int i=>.int i
 |.str s=>.str (FZ s)
 |.list xs=>.list (OG xs)
 |.tup xs=>.tuple (OG xs)
 |.fn _=>.none
noncomputable def OG:List V->List PyData
 |[]=>[]
 |x::xs=>ZO x::OG xs
end
theorem bX{x y:List Nat}(h:FZ x=FZ y):x=y:=congrArg (λ s:Str=>s.cps.toList) h
theorem bY{x y:List Nat}:(FZ x==FZ y)=(x==y):=by
 by_cases h:x=y
 ·rw[h,beq_self_eq_true,beq_self_eq_true]
 ·rw[beq_eq_false_iff_ne.mpr h,beq_eq_false_iff_ne.mpr λ e=>h (bX e)]
structure rD(n:Nat)(x:V):Prop where
 lay:(ZO x).canLay0=Ab
 dep:(ZO x).depth<=n
 eqv:∀k y,V.ok k y=Ab->V9 (ZO x) (ZO y)=V.beq x y
 reads:∀(h:AV) (Y:Aj->Prop) v,A6 h Y x v->∃as,Reads h v (ZO x) as
structure OkFs(n:Nat)(xs:List V):Prop where
 lay:PyData.canLayAll0 (OG xs)=Ab
 dep:PyData.depthAll (OG xs)<=n
 eqv:∀k ys,(∀y∈ys,V.ok k y=Ab)->PyData.eqvAll (OG xs) (OG ys)=V.beqs xs ys
 reads:∀(h:AV) (Y:Aj->Prop) vs,AI h Y xs vs->∃as,ReadsAll h vs (OG xs) as
theorem lG{n:Nat}:∀{xs:List V},(∀x∈xs,rD n x)->OkFs n xs:=@λ I0=>by
 induction I0 with
 |nil=>exact@λ _=>⟨rfl,Bj _,λ k ys u=>by induction ys using Aq<;>rfl,λ h Y vs r=>by rw[show vs=[] from r];exact⟨_,.nil⟩⟩
 |cons x xs IH=>
  exact@λ h=>
   have f:=h x (.head _);have r:=IH λ y hy=>h y (.tail _ hy)
   ⟨Bool.and_eq_true_iff.mpr ⟨f.lay,r.lay⟩,Nat.max_le.mpr ⟨f.dep,r.dep⟩,λ k ys hk=>by
    induction ys using Aq with
    |nil=>rfl
    |cons y ys=>exact congr (congrArg and (f.eqv k y (hk y (.head _)))) (r.eqv k ys λ z hz=>hk z (.tail _ hz)),λ h Y vs hr=>by
    refine El hr λ v us H3 r1 r2=>?_;subst H3;refine Aw (f.reads h Y v r1) λ as q=>Aw (r.reads h Y us r2) λ bs p=>?_;exact⟨_,.cons q p⟩⟩
theorem bN{x:List Nat}(h:x.all (·<55296)=Ab):PyData.strOk (FZ x)=Ab:=by rw[PyData.strOk,<-Array.all_toList];exact Al.mpr λ i hi=>decide_eq_true (Gz (of_decide_eq_true (Al.mp h i hi)) (by decide))
theorem TV{k:Nat}{ys:List V}(h:V.ok k (.list ys)=Ab\/V.ok k (.tup ys)=Ab){gC:Prop}(gk:∀n,k=n+1->(∀y∈ys,V.ok n y=Ab)->gC):gC:=by
 induction k using A5 with
 |zero=>exact h.elim nf nf
 |succ n=>exact gk n rfl (λ y hy=>Al.mp (h.elim id id) y hy)
theorem yH:∀(n:Nat) (x:V),V.ok n x=Ab->rD n x:=λ I0=>by
 induction I0 with
 |zero=>exact λ _ h=>nf h
 |succ n IH=>
  intro x h
  induction x using V.casesOn with
  |none=>exact⟨rfl,Bj _,λ k y hk=>by induction y using V.casesOn<;>first|rfl|(induction k using A5<;>exact nf hk),λ z z v r=>by rw[show v=.none from r];exact⟨_,.none⟩⟩
  |int i=>exact⟨rfl,Bj _,λ k y hk=>by induction y using V.casesOn<;>first|rfl|(induction k using A5<;>exact nf hk),λ z z v r=>by refine iE r λ t=>?_;exact⟨_,.int i t⟩⟩
  |str s=>exact⟨bN h,Bj _,λ k y hk=>by induction y using V.casesOn<;>first|rfl|exact bY|(cases k<;>exact nf hk),λ z z v r=>by refine sE r λ z t=>?_;exact⟨_,.str _ t⟩⟩
  |list xs=>
   have F:=lG (λ y hy=>IH y (Al.mp h y hy));refine⟨F.lay,OV F.dep,λ k y hk=>?_,λ z z v r=>?_⟩
   ·induction y using V.casesOn<;>first|rfl|(cases k<;>exact nf hk)|skip
    exact TV (.inl hk) λ m z h2=>F.eqv m _ h2
   ·refine lE r λ z a vs z hl hr=>?_;refine E3 hl.isList λ o ho hc H=>?_;exact Aw H λ m hd=>Aw (F.reads _ _ _ hr) λ as q=>⟨_,reads_list_at ho hc hd q⟩
  |tup xs=>
   have F:=lG (λ y hy=>IH y (Al.mp h y hy));refine⟨F.lay,OV F.dep,λ k y hk=>?_,λ z z v r=>?_⟩
   ·induction y using V.casesOn<;>first|rfl|(cases k<;>exact nf hk)|skip
    exact TV (.inr hk) λ m z h2=>F.eqv m _ h2
   ·refine A9 r λ z H=>?_;refine Hm H λ a vs H3 z ξ5 hr=>?_;subst H3;obtain⟨o,ho,hc,m,hd⟩:=ξ5;exact Aw (F.reads _ _ _ hr) λ as q=>⟨_,reads_tuple_at ho hc hd q⟩
  |_=>exact nf h
theorem rD.shaped{x:V}(F:rD 8 x):Ts (ZO x)=Ab:=Bool.and_eq_true_iff.mpr ⟨F.lay,decide_eq_true (Ak F.dep (by decide))⟩
theorem fE{d:V}(hd:V.ok 8 d=Ab):∀{xs:List V},(∀x∈xs,rD 8 x)->((OG xs).any λ y=>V9 y (ZO d))=xs.any λ y=>V.beq y d:=@λ I0=>by
 induction I0 with
 |nil=>exact@λ _=>rfl
 |cons x xs IH=>exact@λ h=>congr (congrArg or ((h x (.head _)).eqv 8 d hd)) (IH λ y hy=>h y (.tail _ hy))
section
variable{mg mb:Str->Option Ad}{w:B2}{A:Br}{s:Af}{Y:Aj->Prop}
theorem Us{u:RS}{f:Bool->Bool}{a b r:V}{va vb:Ad}(h:okB a b (f (V.beq a b))=Aa r)(ra:A6 s.heap Y a va)(rb:A6 s.heap Y b vb)(g:GI mg mb s)
  (hw:∀{da db:PyData} {as bs:List Aj} {Q:Ad->Af->Prop} {E:Ad->Af->Prop},Reads s.heap va da as->Reads s.heap vb db bs->Ts da=Ab->Ts db=Ab->Q (.bool (f (V9 da db))) s->As (An pw w) A (GG u va vb) Q E s):Ok mg mb w A s (GG u va vb) λ s' v=>A6 s'.heap Y r v:=by
 refine iK h λ hk h=>?_;obtain rfl:=sj h;have Fa:=yH 8 a (B6 hk).1;have Fb:=yH 8 b (B6 hk).2;exact Aw (Fa.reads _ _ _ ra) λ as qa=>Aw (Fb.reads _ _ _ rb) λ bs qb=>CS g s.toks rfl λ Q E k=>hw qa qb Fa.shaped Fb.shaped (by rw[Fa.eqv 8 b (B6 hk).2];exact k)
theorem Ub{u:RS}{f:Int->Int->Option V}{a b r:V}{va vb:Ad}(h:Jh a b f=Aa r)(ra:A6 s.heap Y a va)(rb:A6 s.heap Y b vb)(g:GI mg mb s)
  (hf:∀i j,f i j=Aa r->∃k,r=.bool k/\∀t t' (Q:Ad->Af->Prop) (E:Ad->Af->Prop),Q (.bool k) s->As (An pw w) A (GG u (.int i t) (.int j t')) Q E s):Ok mg mb w A s (GG u va vb) λ s' v=>A6 s'.heap Y r v:=by
 refine Ip h λ i j H3 ξ4 h=>?_;subst H3;subst ξ4;refine iE ra λ t=>?_;refine iE rb λ t'=>?_;refine AF (hf i j h) λ k H2 hw=>?_;subst H2;exact CS g s.toks rfl λ Q E q=>hw t t' Q E q
theorem Xg{a r:V}{va:Ad}(h:(isNone a).map V.bool=Aa r)(ra:A6 s.heap Y a va)(g:GI mg mb s):Ok mg mb w A s (GG .Is va .none) λ s' v=>A6 s'.heap Y r v:=by
 refine mE h λ c h=>?_;have e:(va==E6)=c:=by
  induction a using V.casesOn<;>first|exact nn h|cases h
  ·rw[show va=.none from ra];rfl
  ·refine iE ra λ t=>?_;rfl
  ·rw[show va=_ from ra];rfl
 exact CS g s.toks rfl λ Q E k=>is_none_gen (by rw[e];exact k)
theorem vA{a r:V}{xs:List V}{va vb:Ad}(h:(if(V.ok 8 a&&xs.all (V.ok 8))=Ab then Aa (V.bool (xs.any λ y=>V.beq y a)) else Ae)=Aa r)(ra:A6 s.heap Y a va)(rb:A6 s.heap Y (.list xs) vb)(g:GI mg mb s)(hA:A.units+64<Qt):Ok mg mb w A s (GG .In va vb) λ s' v=>A6 s'.heap Y r v:=by refine iK h λ hk h=>?_;obtain rfl:=sj h;have Fa:=yH 8 a (B6 hk).1;have Fx:∀x∈xs,rD 8 x:=λ x hx=>yH 8 x (Al.mp (B6 hk).2 x hx);have Fs:=lG Fx;refine Aw (Fa.reads _ _ _ ra) λ as qa=>lE rb λ z l vs z hl hr=>?_;refine E3 hl.isList λ ob ho hc H=>?_;refine Aw H λ m hd=>?_;exact Aw (Fs.reads _ _ _ hr) λ bs qb=>CS g s.toks rfl λ Q E k=>SeqAt.in_list_reads (reads_list_at ho hc hd qb) qa Fs.lay Fa.lay (by have:=OW (PyData.depthAll (OG xs)) (ZO a).depth;have:=Fa.dep;omega) (by rw[fE (B6 hk).1 Fx];exact k)
theorem VQ{a:V}{c:Nat}(h:xE a=Aa c):a=.str [c]:=by
 induction a using V.casesOn<;>first|exact nn h|skip
 rename_i l;rcases l with _|⟨d,_|⟨e,l⟩⟩
 ·exact nn h
 ·obtain rfl:=sj h;rfl
 ·exact nn h
theorem Xe{c:Nat}{y:List Nat}{va vb:Ad}(ra:A6 s.heap Y (.str [c]) va)(rb:A6 s.heap Y (.str y) vb)(g:GI mg mb s):Ok mg mb w A s (GG .NotIn va vb) λ s' v=>A6 s'.heap Y (.bool (!y.contains c)) v:=by refine sE ra λ z t=>?_;refine sE rb λ z t'=>?_;refine CS g s.toks rfl λ Q E k=>PyProof.Rows.notIn_str ?_;rw[StrLaws.found_one,show(FZ y).cps.toList=y from rfl];simpa[List.contains_iff_mem] using k
theorem Mk{o:O2}{u:RS}{a b r:V}{va vb:Ad}(hu:Rq o=Aa u)(h:Cj o a b=Aa r)(ra:A6 s.heap Y a va)(rb:A6 s.heap Y b vb)(g:GI mg mb s)
  (hA:A.units+64<Qt):Ok mg mb w A s (GG u va vb) λ s' v=>A6 s'.heap Y r v:=by
 induction o using O2.casesOn<;>first|exact nn hu|cases hu
 case eq=>exact Us (f:=id) h ra rb g λ qa qb ha hb k=>eq_dataH qa qb ha hb hA k
 case ne=>exact Us (f:=not) h ra rb g λ qa qb ha hb k=>ne_dataH qa qb ha hb hA k
 case lt=>
  cases a<;>first|exact nn h|skip
  case int i=>refine mE h λ j h1=>?_;rw[B5 h1] at rb;refine iE ra λ t=>?_;exact iE rb λ t'=>CS g s.toks rfl λ Q E k=>PyProof.Rows.lt_int k
  case str x=>refine mE h λ j h1=>?_;rw[Ft h1] at rb;refine sE ra λ z t=>?_;exact sE rb λ z t'=>CS g s.toks rfl λ Q E k=>PyProof.Rows.lt_str k
 case le=>exact Ub h ra rb g λ i j e=>⟨_,(AE e).symm,λ t t' Q E k=>PyProof.Rows.le_int k⟩
 case gt=>exact Ub h ra rb g λ i j e=>⟨_,(AE e).symm,λ t t' Q E k=>PyProof.Rows.gt_int k⟩
 case is_=>
  cases b<;>first|exact nn h|skip
  rw[show vb=.none from rb];exact Xg h ra g
 case isnot=>
  refine bK h λ x h1 h2=>?_;refine mE h2 λ y h3=>?_
  cases a<;>first|exact nn h1|cases h1
  cases b<;>first|exact nn h3|cases h3
  cases ra;cases rb
  refine CS g s.toks rfl λ Q E k=>wpAny_isNot_plain rfl ?_
  cases x<;>cases y<;>exact k
 case in_=>refine bK h λ xs h1 h2=>?_;rw[Cu h1] at rb;exact vA h2 ra rb g hA
 case notin=>refine bK h λ c h1 h2=>?_;refine mE h2 λ y h3=>?_;rw[VQ h1] at ra;rw[Ft h3] at rb;exact Xe ra rb g
end
inductive Qp where
 |no
 |dict (D:Aj) (x:Str)
 |cell (c:Aj)
structure Er where
 loc:Nat->Qp
 Y0:Aj->Prop
 base:AV
def Er.mine(C:Er)(b:Aj):Prop:=(∃i x,C.loc i=.dict b x)\/∃i,C.loc i=.cell b
def Am(C:Er)(J:Nat->Aj)(U:AQ)(b:Aj):Prop:=C.Y0 b\/C.mine b\/∃i xs,rd U i=.x xs/\J i=b
def Slot(h:AV)(Y:Aj->Prop)(a:Aj):LV->Option Ad->Prop
 |.u,_=>True
 |.w V,Aa v=>A6 h Y V v
 |.x _,Aa v=>v=.ref a
 |_,Ae=>False
structure AX(mg mb:Str->Option Ad)(C:Er)(J:Nat->Aj)(U:AQ)(s:Af):Prop where
 gi:GI mg mb s
 keep:DS C.base s.heap
 wd0:Wd mg mb C.base
 y0:∀b,C.Y0 b->∃o,s.heap.get? b=Aa o
 tb:∀b,Tb b->∃o,C.base.get? b=Aa o
 new:∀b,C.mine b->C.base.get? b=Ae
 inj:∀i j,C.loc i=C.loc j->C.loc i≠.no->i=j
 dicts:∀D,(∃i x,C.loc i=.dict D x)->∃m,s.heap.Ns D m/\∀i x,C.loc i=.dict D x->Slot s.heap (Am C J U) (J i) (rd U i) (m x)
 cells:∀i c,C.loc i=.cell c->∃v,s.heap.IsCell c v/\Slot s.heap (Am C J U) (J i) (rd U i) v
 owns:∀i xs,rd U i=.x xs->C.base.get? (J i)=Ae/\¬C.mine (J i)/\xs.length<=CN/\∃vs,s.heap.PlainList (J i) vs/\AI s.heap (Am C J U) xs vs.toList
 ownY:∀i xs,rd U i=.x xs->¬C.Y0 (J i)
 apart:∀i j xs ys,rd U i=.x xs->rd U j=.x ys->J i=J j->i=j
theorem Slot.mono{h h':AV}{Y Y':Aj->Prop}{a:Aj}{x:LV}{o:Option Ad}(r:Slot h Y a x o)(k:∀V v,A6 h Y V v->A6 h' Y' V v):Slot h' Y' a x o:=by
 induction x with
 |u=>trivial
 |w V=>induction o with
  |none=>exact r
  |some v=>exact k V v r
 |x xs=>induction o with
  |none=>exact r
  |some v=>exact r
section
variable{mg mb:Str->Option Ad}{w:B2}{A:Br}{s s':Af}{C:Er}{J:Nat->Aj}{U:AQ}
theorem GI.to{B h':AV}{D:Aj->Prop}{tk:Nat}(g:GI mg mb s)(wb:Wd mg mb B)(kb:DS B s.heap)(hk:∀b o,¬D b->s.heap.get? b=Aa o->h'.get? b=Aa o)(hB:∀b o,B.get? b=Aa o->¬D b)(hT:∀b,D b->¬Tb b)(hn:∀b,D b->EO s.heap b):GI mg mb {s with heap:=h',toks:=tk}:=
 ⟨wb.keep (λ b o n e=>hk b o (hB b o e) (kb b o n e)) (λ b t=>Aw (g.wd.tb b t) λ vs e=>⟨vs,hk b _ (λ q=>hT b q t) e⟩) (g.wd.ta.mv g.wd.tb hk hT hn),g.bare⟩
theorem GI.to1{B h':AV}{a:Aj}{tk:Nat}(g:GI mg mb s)(wb:Wd mg mb B)(kb:DS B s.heap)(hk:∀b o,b≠a->s.heap.get? b=Aa o->h'.get? b=Aa o)(hB:B.get? a=Ae)(hT:¬Tb a)(hn:EO s.heap a):GI mg mb {s with heap:=h',toks:=tk}:=
 g.to wb kb hk (λ b o e q=>by rw[q,hB] at e;exact nn e) (λ b q=>q▸hT) λ b q=>q▸hn
theorem AX.mine_there(I:AX mg mb C J U s){b:Aj}(h:C.mine b):∃o,s.heap.get? b=Aa o:=by
 rcases h with⟨i,x,e⟩|⟨i,e⟩
 ·refine AF (I.dicts b ⟨i,x,e⟩) λ m H2 z=>?_;refine Lc H2 λ o z z ho z=>?_;exact⟨o,ho⟩
 ·refine AF (I.cells i b e) λ v H2 z=>?_;refine AF H2 λ o ho z=>?_;exact⟨o,ho⟩
theorem AX.y0_there(I:AX mg mb C J U s){b:Aj}(h:C.Y0 b):∃o,s.heap.get? b=Aa o:=I.y0 b h
theorem AX.there(I:AX mg mb C J U s):∀b,Am C J U b->∃o,s.heap.get? b=Aa o:=by
 rintro b (h|h|⟨i,xs,e,rfl⟩)
 ·exact I.y0_there h
 ·exact I.mine_there h
 ·refine CA (I.owns i xs e) λ z z z H=>?_;refine AF H λ vs H2 z=>?_;obtain⟨n,ho⟩:=H2;exact⟨_,ho⟩
theorem AX.mineTb(I:AX mg mb C J U s){b:Aj}(h:C.mine b):¬Tb b:=λ q=>by refine Aw (I.tb b q) λ o e=>?_;rw[I.new b h] at e;exact nn e
theorem AX.ownTb(I:AX mg mb C J U s){i:Nat}{xs:List V}(h:rd U i=.x xs):¬Tb (J i):=λ q=>by refine Aw (I.tb _ q) λ o e=>?_;rw[(I.owns i xs h).1] at e;exact nn e
theorem AX.step(I:AX mg mb C J U s)(t:C7 s s')(g:GI mg mb s'):AX mg mb C J U s' where
 gi:=g
 keep:=I.keep.trans t.keep
 wd0:=I.wd0
 y0:=λ b h=>FC g t (I.y0 b h)
 tb:=I.tb
 new:=I.new
 inj:=I.inj
 dicts:=λ D hD=>by refine AF (I.dicts D hD) λ m n h=>F1 hD λ i x e=>⟨m,EF t.keep (I.mineTb (.inl ⟨i,x,e⟩)) n,λ j y e'=>(h j y e').mono λ V v r=>r.step I.gi t⟩
 cells:=λ i c e=>by refine AF (I.cells i c e) λ v H2 h=>?_;refine AF H2 λ o ho hd=>?_;exact⟨v,⟨o,t.keep _ _ (I.mineTb (.inr ⟨i,e⟩)) ho,hd⟩,h.mono λ V v r=>r.step I.gi t⟩
 owns:=λ i xs e=>by refine CA (I.owns i xs e) λ a1 a2 a3 H=>?_;refine AF H λ vs H2 h=>?_;obtain⟨n,ho⟩:=H2;exact⟨a1,a2,a3,vs,⟨n,t.keep _ _ (I.ownTb e) ho⟩,h.step I.gi t⟩
 ownY:=I.ownY
 apart:=I.apart
end
def rF(env:Env)(x:Str):Qp->Prop
 |.no=>False
 |.dict D y=>y=x/\env.kindOf x=Aa .local/\env.locals=D
 |.cell c=>(env.kindOf x=Aa .cell\/env.kindOf x=Aa .free)/\env.cells.lookup x=Aa c
structure AJ(K:Kx)(C:Er)(env:Env):Prop where
 kind:env.scope.kind=.function
 acc:∀x i,lk x K.acc=Aa i->rF env x (C.loc i)
 glob:∀x,lk x K.sc=Aa .globalImplicit->env.kindOf x=Aa .globalImplicit
 loc:∀x,lk x K.sc=Aa .local->env.kindOf x=Aa .local
 cell:∀x,lk x K.sc=Aa .cell->env.kindOf x=Aa .cell
 free:∀x,lk x K.sc=Aa .free->env.kindOf x=Aa .cell\/env.kindOf x=Aa .free
 gl:env.globals=C8
 bi:env.builtins=Es
def Cg(mg mb:Str->Option Ad)(w:B2)(C:Er)(A:Br)(U:AQ)(t:Sem Ad)(x:V):Prop:=
 ∀J s,AX mg mb C J U s->Ok mg mb w A s t λ s' v=>A6 s'.heap (Am C J U) x v
section
variable{mg mb:Str->Option Ad}{w:B2}{A:Br}{s s':Af}{C:Er}{J:Nat->Aj}{U:AQ}{K:Kx}{env:Env}
theorem YB(x:Str):Mi x x=Ab:=by
 unfold Mi;generalize x.cps.toList=l
 induction l with
 |nil=>rfl
 |cons a l ih=>exact Bool.and_eq_true_iff.mpr ⟨VV a,ih⟩
theorem Qo{x y:Str}(h:Mi x y=Ai):(x==y)=Ai:=by
 cases hb:(x==y) with
 |false=>rfl
 |true=>rw[eq_of_beq hb,YB] at h;cases h
theorem H6{x:Str}(h:TX x=Ab):(x==("__debug__":Str))=Ai/\(x==("__classdict__":Str))=Ai:=by have h:=B6 h;exact⟨Qo ((BG _).mp h.1),Qo ((BG _).mp h.2)⟩
theorem Gb{x:Str}{i:Nat}(h:EI K x i=Ab):lk x K.acc=Aa i/\TX x=Ab:=⟨of_decide_eq_true (B6 h).2,(B6 h).1⟩
theorem mR{x:Str}(h:isG K x=Ab):lk x K.sc=Aa .globalImplicit:=of_decide_eq_true h
theorem L6{x y:Str}(h:HJ K x y=Ab):x=y/\lk x K.sc=Aa .globalImplicit/\TX x=Ab:=by have h:=B6 h;have h2:=B6 h.2;exact⟨Dj h2.1,mR h2.2,h.1⟩
@[elab_as_elim] theorem U7{x y:Str}{C:Str->Prop}(h:HJ K x y=Ab)(k:lk y K.sc=Aa .globalImplicit->TX y=Ab->C y):C x:=Db (L6 h) λ e h1 h2=>by subst e;exact k h1 h2
theorem Hu(N:AJ K C env){x:Str}{i:Nat}(hx:lk x K.acc=Aa i)(hu:rd U i≠.u)(I:AX mg mb C J U s){Q:Ad->Af->Prop}{E:Ad->Af->Prop}
  (h:∀v,Slot s.heap (Am C J U) (J i) (rd U i) (Aa v)->Q v s) (hn:TX x=Ab):As (An pw w) A (loadName env x) Q E s:=by
 have a:=N.acc x i hx;have ex:∀o,Slot s.heap (Am C J U) (J i) (rd U i) o->∃v,o=Aa v:=λ o q=>by
  induction o with
  |some v=>exact⟨v,rfl⟩
  |none=>cases e:rd U i with
   |u=>exact absurd e hu
   |w V=>rw[e] at q;induction q
   |x xs=>rw[e] at q;induction q
 cases e:C.loc i with
 |no=>rw[e] at a;induction a
 |dict D y=>rw[e] at a;refine Db a λ ξ1 hk hl=>?_;subst ξ1;refine AF (I.dicts D ⟨i,y,e⟩) λ m n hm=>?_;have q:=hm i y e;refine Aw (ex _ q) λ v ev=>?_;rw[ev] at q;exact wpAny_loadName_local N.kind hk (hl▸n) ev (h v q)
 |cell c=>
  rw[e] at a;refine A9 a λ hk hl=>AF (I.cells i c e) λ o n q=>?_;refine Aw (ex _ q) λ v H2=>?_;subst H2;rcases hk with hk|hk
  ·exact wpAny_loadName_cell N.kind hk hl n (h v q)
  ·exact wpAny_loadName_free N.kind hk hl n (h v q) (H6 hn).2
end
set_option backward.match.sparseCases true
variable{mg mb:Str->Option Ad}{w:B2}{A:Br}{s s' s'' s'0 s'1 s'2:Af}{C:Er}{J J' J'':Nat->Aj}{U U' U'' U'0 U'2:AQ}{K K':Kx}{env:Env}{x y z tg:Ac}{a b r v:V}{Q E:Ad->Af->Prop}{G:EZ}{N n F j d:Nat}{e f Lf:Aj}{l:List Env}{B:AV}{qual:Str}{cl:List (Str×Aj)}{args:List Ad}{fl:Fl}{q:Int}

def DG(mg mb:Str->Option Ad)(w:B2)(C:Er)(A:Br)(U:AQ)(xs:List Ac)(env:Env)(us:List V):Prop:=
 ∀pos J s,AX mg mb C J U s->Ok mg mb w A s (yV (MX pos (Gh xs env))) λ s' vs=>AI s'.heap (Am C J U) us vs
def Bo(e:Ac):Prop:=∀rest env,Gh (e::rest) env=(Ai,AM e env)::Gh rest env
def Ni(mg mb:Str->Option Ad)(w:B2)(C:Er)(A:Br)(U:AQ)(t:Sem Bool)(b:Bool):Prop:=
 ∀J s,AX mg mb C J U s->Ok mg mb w A s t λ z c=>c=b
theorem zJ{t:Sem Ad}{f:Ad->Sem Ad}(I:AX mg mb C J U s)(hx:Cg mg mb w C A U t a)
  (hf:∀s va,AX mg mb C J U s->A6 s.heap (Am C J U) a va->Ok mg mb w A s (f va) λ s' v=>A6 s'.heap (Am C J U) r v)
  (k:∀s' v,GI mg mb s'->C7 s s'->A6 s'.heap (Am C J U) r v->Q v s'):
  As (An pw w) A t (λ va s'1=>As (An pw w) A (f va) Q E s'1) E s:=
 hx J s I _ _ λ s'1 va g'1 t'1 r'1=>hf s'1 va (I.step t'1 g'1) r'1 Q E λ s'2 v g'2 t'2 r'2=>k s'2 v g'2 (t'1.trans t'2) r'2
theorem aP{t u:Sem Ad}{f:Ad->Ad->Sem Ad}(I:AX mg mb C J U s)(hx:Cg mg mb w C A U t a)(hy:Cg mg mb w C A U u b)
  (hf:∀s va vb,AX mg mb C J U s->A6 s.heap (Am C J U) a va->A6 s.heap (Am C J U) b vb->Ok mg mb w A s (f va vb) λ s' v=>A6 s'.heap (Am C J U) r v)
  (k:∀s' v,GI mg mb s'->C7 s s'->A6 s'.heap (Am C J U) r v->Q v s'):
  As (An pw w) A t (λ va s'1=>As (An pw w) A u (λ vb s'2=>As (An pw w) A (f va vb) Q E s'2) E s'1) E s:=
 hx J s I _ _ λ s'1 va g'1 t'1 r'1=>hy J s'1 (I.step t'1 g'1) _ _ λ s'2 vb g'2 t'2 r'2=>hf s'2 va vb ((I.step t'1 g'1).step t'2 g'2) (r'1.step g'1 t'2) r'2 Q E λ s'3 v g'3 t'3 r'3=>k s'3 v g'3 ((t'1.trans t'2).trans t'3) r'3
theorem sS{i:Int}{k pos}:Cg mg mb w C A U (AM (.Constant (.int i) k pos) env) (.int i):=λ z z I=>CS I.gi _ ⟨_,rfl⟩ λ Q E k=>wpAny_Constant_int k
theorem Sq{k pos}:Cg mg mb w C A U (AM (.Constant .none k pos) env) .none:=λ z s I=>CS I.gi s.toks rfl λ Q E k=>wpAny_Constant_none k
theorem kK{c:Bool}{k pos}:Cg mg mb w C A U (AM (.Constant (.bool c) k pos) env) (.bool c):=λ z s I=>CS I.gi s.toks rfl λ Q E k=>wpAny_Constant_bool k
theorem sQ{l:List Nat}{z:Str}{k pos}(h:vY l z.cps.toList=Ab)(hl:l.length<=1000):Cg mg mb w C A U (AM (.Constant (.str z) k pos) env) (.str l):=λ y s I=>by
 have e:z=FZ l:=by rw[Uo h]
 subst e;exact CS I.gi _ ⟨Ak hl (by decide),_,rfl⟩ λ Q E k=>wpAny_Constant_str k
theorem FN(N:AJ K C env){z:Str}{i:Nat}{pos}(hx:EI K z i=Ab)(hv:rd U i=.w a):Cg mg mb w C A U (AM (.Name z pos) env) a:=λ J s I=>by refine A9 (Gb hx) λ h1 h2=>?_;intro Q E k;refine Jm (Hu N h1 (by rw[hv];nofun) I (λ v q=>?_) h2) (H6 h2).1;rw[hv] at q;exact k s v I.gi (.refl s) q
theorem CQ(N:AJ K C env){z:Str}{v:Ad}{pos}(hz:lk z K.sc=Aa .globalImplicit)(hn:TX z=Ab)(I:AX mg mb C J U s)(hv:mg z=Aa v)(h:Q v s):As (An pw w) A (AM (.Name z pos) env) Q E s:=
 Name_function_global N.kind (N.glob z hz) (loadGlobal_global (N.gl▸I.gi.wd.g) hv h) (H6 hn).1
theorem Ee(N:AJ K C env){z:Str}{v:Ad}{pos}(hz:lk z K.sc=Aa .globalImplicit)(hn:TX z=Ab)(I:AX mg mb C J U s)(hb:z∈Mq)(hv:LJ z=Aa v)(hne:z≠"__name__") (h:Q v s):
  As (An pw w) A (AM (.Name z pos) env) Q E s:=
 Name_function_global N.kind (N.glob z hz) (loadGlobal_builtin (N.gl▸I.gi.wd.g) (I.gi.wd.nb z hb) (N.bi▸I.gi.wd.b) ((I.gi.wd.bi z hne).trans hv) h) (H6 hn).1
theorem zP(N:AJ K C env){k:Nat}{z:Str}{i:Int}{pos}(hk:Mb[k]?=Aa z)(hz:lk z K.sc=Aa .globalImplicit)(hn:TX z=Ab)(hi:Iq[k]?=Aa i):Cg mg mb w C A U (AM (.Name z pos) env) (.int i):=λ J s I Q E kk=>by refine E1 (I.gi.wd.gv k z hk) λ j t h1 h2=>?_;rw[hi] at h1;obtain rfl:=sj h1;exact CQ N hz hn I h2 (kk s _ I.gi (.refl s) ⟨t,rfl⟩)
theorem sX{o:O2}{op:Ic}{pos}(hu:Pz o=Aa op)(he:Cj o a b=Aa r)(hx:Cg mg mb w C A U (AM x env) a)(hy:Cg mg mb w C A U (AM y env) b):
  Cg mg mb w C A U (AM (.BinOp x op y pos) env) r:=λ J s I Q E k=>
 RU (aP I hx hy (λ s va vb I ra rb=>Th hu he ra rb I.gi I.there) k)
theorem sW{o:O2}{op:RS}{pos}(hu:Rq o=Aa op)(he:Cj o a b=Aa r)(hx:Cg mg mb w C A U (AM x env) a)(hy:Cg mg mb w C A U (AM y env) b)(hA:A.units+64<Qt)
  (hs:∀o,behindInMarks o y=Ai):Cg mg mb w C A U (AM (.Compare x [op] [y] pos) env) r:=λ J s I Q E k=>
 Jn (aP I hx hy (λ s va vb I ra rb=>Mk hu he ra rb I.gi hA) k) (hs _)
theorem Ga{Y:Aj->Prop}{v:Ad}{c:Bool}(g:GI mg mb s)(ra:A6 s.heap Y a v)(h:truthy a=Aa c):Ok mg mb w A s (MY v) λ z d=>d=c:=by
 induction a using V.casesOn with
 |none=>obtain rfl:=sj h;subst ra;exact .pure g rfl
 |bool d=>obtain rfl:=sj h;subst ra;exact .pure g rfl
 |int i=>refine iE ra λ t=>?_;obtain rfl:=sj h;exact λ Q E k=>PyProof.Rows.truthy_int (k s _ g (.refl s) rfl)
 |str l=>
  refine sE ra λ hz t=>?_;obtain rfl:=sj h;refine λ Q E k=>PySem.P.truthy_str ?_ (k _ _ (g.toks _) (.toks _) ?_)
  ·rw[Ce];have:CN=16777216:=rfl;omega
  ·rw[Ce];induction l using Aq<;>simp<;>exact bi_ine.mp rfl
 |list l=>
  refine lE ra λ hz l' vs z hl hr=>?_;obtain rfl:=sj h;have hs:vs.size=l.length:=by rw[<-Ax];exact hr.length
  refine λ Q E k=>wpAny_truthy_list hl.isList ?_ (k _ _ (g.toks _) (.toks _) ?_)
  ·have:CN=16777216:=rfl;omega
  ·show(!vs.isEmpty)=!l.isEmpty;simp only [Array.isEmpty,hs];induction l using Aq<;>simp
 |tup l=>exact nn h
 |fn f=>exact nn h
theorem Ov:DG mg mb w C A U [] env []:=λ pos J s I Q E k=>Ec (k s [] I.gi (.refl s) rfl)
theorem Dz{xs:List Ac}{us:List V}(hx:Cg mg mb w C A U (AM x env) a)(hp:Bo x)(hr:DG mg mb w C A U xs env us):DG mg mb w C A U (x::xs) env (a::us):=λ pos J s I Q E k=>BA (hx J s I _ _ λ s'1 v g'1 t'1 r'1=>hr pos J s'1 (I.step t'1 g'1) _ _ λ s'2 vs g'2 t'2 r'2=>k s'2 _ g'2 (t'1.trans t'2) ⟨v,vs,rfl,r'1.step g'1 t'2,r'2⟩) (hp xs env)
theorem CM{f:Ad}(hf:∀a,f≠.ref a)(h:AV):∃k,(k=B3\/k=BO\/k=Bt)/\LP (An pw w) h (Ek f) k:=
 ⟨.machine,.inr (.inl rfl),Looks.of_pure (by
  unfold Ek
  induction f<;>first|rfl|exact absurd rfl (hf _))⟩
theorem Q6{a:Aj}(h:AV)(x:∃o fd,h.get? a=Aa o/\o.data=.func fd):∃k,(k=B3\/k=BO\/k=Bt)/\LP (An pw w) h (Ek (.ref a)) k:=by
 refine E1 x λ o fd e d=>⟨.frame,.inl rfl,?_⟩;have:Ek (.ref a)=(loadPart a Ae>>=λ o=>match o.data with
  |.func _=>pure B3
  |.cls _=>do return if(<-specialOf (.ref a) "__call__")==Aa (.builtin "type.__call__") then .machine else .caller
  |.fields vs=>do
   if o.cls !=.type "method" then
    return if o.cls==.type "builtin_function_or_method"||o.cls==.type "method-wrapper" then .machine else .caller
   let .ref g:=vs.getD 0 .none|return .machine
   return(match(<-load g).data with|.func _=>.boundFrame|_=>.caller)
  |_=>pure Keeper.caller):=rfl
 rw[this];refine(Looks.ld e).andThen ?_;rw[d];exact .now
theorem LC{xs:List Ac}{pos:Pos}(h:∀x∈xs,Bo x):(MX pos (Gh xs env)).any (·.1)=Ai:=by
 induction xs with
 |nil=>rfl
 |cons x xs ih=>rw[h x (.head _)];show(Ai||(MX pos (Gh xs env)).any (·.1))=Ai;rw[ih λ y hy=>h y (.tail _ hy)];rfl
set_option backward.match.sparseCases false
theorem VI(i:Int):OX i= -i - 1:=by unfold OX;omega
theorem zK{o:O1}{op:LI}{pos}(hu:zA o=Aa op)(he:QA o a=Aa r)(hx:Cg mg mb w C A U (AM x env) a):Cg mg mb w C A U (AM (.UnaryOp op x pos) env) r:=λ J s I Q E k=>by
 refine PyProof.Rows.UnaryOp_ (zJ (f:=λ v=>unaryOp op v) I hx (λ s va I ra=>?_) k)
 induction o using O1.casesOn<;>first|exact nn (show(Ae:Option LI)=Aa op from hu)|skip
 all_goals obtain rfl:=sj hu
 all_goals (induction a using V.casesOn<;>first|exact nn (show(Ae:Option V)=Aa r from he)|skip)
 all_goals (refine iE ra λ t=>?_;obtain rfl:=sj he)
 ·exact CS I.gi _ ⟨_,rfl⟩ λ Q E k=>PyProof.Rows.neg_int k
 ·exact CS I.gi _ ⟨_,by rw[<-VI]⟩ λ Q E k=>PyProof.Rows.invert_int k
theorem ZR{c:Bool}(hx:Cg mg mb w C A U (AM x env) a)(hc:truthy a=Aa c)
  (he:isTrue x env (AM x env)=(do let v <-AM x env;HZ x.pos;UE [v] (MY v))):Ni mg mb w C A U (isTrue x env (AM x env)) c:=λ J s I Q E k=>
 PyProof.Rows.isTrue_plain (hx J s I _ _ λ s'1 va g'1 t'1 ra=>Ga g'1 ra hc _ _ λ s'2 d g'2 t'2 e=>k s'2 d g'2 (t'1.trans t'2) e) he
theorem rV{c:Bool}{pos}(hx:Ni mg mb w C A U (isTrue x env (AM x env)) c):Ni mg mb w C A U (isTrue (.UnaryOp .Not x pos) env (AM (.UnaryOp .Not x pos) env)) (!c):=λ J s I Q E k=>PyProof.Rows.isTrue_not (hx J s I _ _ λ s'1 d g t e=>k s'1 _ g t (by rw[e]))
theorem Cg.notv{c:Bool}{pos}(hx:Cg mg mb w C A U (AM x env) a)(hc:truthy a=Aa c):Cg mg mb w C A U (AM (.UnaryOp .Not x pos) env) (.bool (!c)):=λ J s I Q E k=>PyProof.Rows.UnaryOp_ (hx J s I _ _ λ s'1 va g'1 t'1 ra=>PyProof.Rows.not_of (Ga g'1 ra hc _ _ λ s'2 d g'2 t'2 e=>k s'2 _ g'2 (t'1.trans t'2) (by show Value.bool (!d)=_;rw[e])))
theorem TC{o:O2}{op:RS}{c:Bool}{pos}(hu:Rq o=Aa op)(he:Cj o a b=Aa r)(hc:truthy r=Aa c)(hx:Cg mg mb w C A U (AM x env) a)(hy:Cg mg mb w C A U (AM y env) b)(hA:A.units+64<Qt)
  (hs:∀o,behindInMarks o y=Ai):Ni mg mb w C A U (isTrue (.Compare x [op] [y] pos) env (AM (.Compare x [op] [y] pos) env)) c:=λ J s I Q E k=>
 HH (aP I hx hy (λ s va vb I ra rb=>Mk hu he ra rb I.gi hA) λ s'1 v g'1 t'1 rv=>Ga g'1 rv hc _ _ λ s'2 d g'2 t'2 e=>k s'2 d g'2 (t'1.trans t'2) e) (hs _)
theorem rX{c d:Bool}{pos}(ht:Ni mg mb w C A U (isTrue x env (AM x env)) c)(h1:c=Ab->Ni mg mb w C A U (isTrue y env (AM y env)) d)(h2:c=Ai->Ni mg mb w C A U (isTrue z env (AM z env)) d):
  Ni mg mb w C A U (isTrue (.IfExp x y z pos) env (AM (.IfExp x y z pos) env)) d:=λ J s I Q E k=>
 PyProof.Rows.isTrue_IfExp (ht J s I _ _ λ s'1 e g t q=>by
  subst q
  induction e with
  |true=>exact h1 rfl J s'1 (I.step t g) Q E λ s'2 d g'2 t'2 e=>k s'2 d g'2 (t.trans t'2) e
  |false=>exact h2 rfl J s'1 (I.step t g) Q E λ s'2 d g'2 t'2 e=>k s'2 d g'2 (t.trans t'2) e)
theorem sT{c:Bool}{pos}(ht:Ni mg mb w C A U (isTrue x env (AM x env)) c)(h1:c=Ab->Cg mg mb w C A U (AM y env) r)(h2:c=Ai->Cg mg mb w C A U (AM z env) r):
  Cg mg mb w C A U (AM (.IfExp x y z pos) env) r:=λ J s I Q E k=>
 GA (ht J s I _ _ λ s'1 e g t q=>by
  subst q
  induction e with
  |true=>exact h1 rfl J s'1 (I.step t g) Q E λ s'2 d g'2 t'2 e=>k s'2 d g'2 (t.trans t'2) e
  |false=>exact h2 rfl J s'1 (I.step t g) Q E λ s'2 d g'2 t'2 e=>k s'2 d g'2 (t.trans t'2) e)
noncomputable def PV(and:Bool):BoolOp:=if and then .And else .Or
theorem Sa{and:Bool}{pos}{m:Sem Ad}:Ni mg mb w C A U (isTrue (.BoolOp (PV and) [] pos) env m) and:=λ J s I Q E k=>by
 induction and
 ·exact PyProof.Rows.isTrue_or_nil (k s Ai I.gi (.refl s) rfl)
 ·exact GH (k s Ab I.gi (.refl s) rfl)
theorem MA{and c d:Bool}{xs:List Ac}{pos}{m:Sem Ad}(hx:Ni mg mb w C A U (isTrue x env (AM x env)) c)(hr:c=and->Ni mg mb w C A U (isTrue (.BoolOp (PV and) xs pos) env m) d)(he:c≠and->d=c):
  Ni mg mb w C A U (isTrue (.BoolOp (PV and) (x::xs) pos) env m) d:=λ J s I Q E k=>by
 induction and
 ·refine Ih (hx J s I _ _ λ s'1 e g t q=>?_);subst q
  induction e with
  |false=>exact hr rfl J s'1 (I.step t g) Q E λ s'2 d g'2 t'2 e=>k s'2 d g'2 (t.trans t'2) e
  |true=>exact k s'1 Ab g t (he (by decide)).symm
 ·refine DR (hx J s I _ _ λ s'1 e g t q=>?_);subst q
  induction e with
  |true=>exact hr rfl J s'1 (I.step t g) Q E λ s'2 d g'2 t'2 e=>k s'2 d g'2 (t.trans t'2) e
  |false=>exact k s'1 Ai g t (he (by decide)).symm
theorem Sr{and:Bool}{pos}(hx:Cg mg mb w C A U (AM x env) a):Cg mg mb w C A U (AM (.BoolOp (PV and) [x] pos) env) a:=hx
theorem QS{and c:Bool}{xs:List Ac}{pos}(hx:Cg mg mb w C A U (AM x env) a)(hc:truthy a=Aa c)(hr:c=and->Cg mg mb w C A U (AM (.BoolOp (PV and) (y::xs) pos) env) r)(he:c≠and->r=a):
  Cg mg mb w C A U (AM (.BoolOp (PV and) (x::y::xs) pos) env) r:=λ J s I Q E k=>by
 induction and
 ·refine PyProof.Rows.BoolOp_or (hx J s I _ _ λ s'1 va g'1 t'1 ra=>Ga g'1 ra hc _ _ λ s'2 e g'2 t'2 q=>?_);subst q
  induction e with
  |false=>exact hr rfl J s'2 ((I.step t'1 g'1).step t'2 g'2) Q E λ s'3 v g'3 t'3 rv=>k s'3 v g'3 ((t'1.trans t'2).trans t'3) rv
  |true=>exact k s'2 va g'2 (t'1.trans t'2) (by rw[he (by decide)];exact ra.step g'1 t'2)
 ·refine PyProof.Rows.BoolOp_and (hx J s I _ _ λ s'1 va g'1 t'1 ra=>Ga g'1 ra hc _ _ λ s'2 e g'2 t'2 q=>?_);subst q
  induction e with
  |true=>exact hr rfl J s'2 ((I.step t'1 g'1).step t'2 g'2) Q E λ s'3 v g'3 t'3 rv=>k s'3 v g'3 ((t'1.trans t'2).trans t'3) rv
  |false=>exact k s'2 va g'2 (t'1.trans t'2) (by rw[he (by decide)];exact ra.step g'1 t'2)
theorem bM{us:List V}{vs:List Ad}{Y:Aj->Prop}(g:GI mg mb s)(hY:∀b,Y b->∃o,s.heap.get? b=Aa o)(hz:us.length<=CN)(r:AI s.heap Y us vs):
  vs.length<=Gg/\((∀s' v,GI mg mb s'->C7 s s'->A6 s'.heap Y (.list us) v->Q v s')->Q (.ref s.heap.objs.size) {s with heap:=s.heap.push {cls:=.type "list",data:=.seq vs.toArray}}):=
 ⟨by rw[<-Fn,r.length];exact hz,λ k=>k _ _ (g.push _ s.toks) (.push _ s.toks) (Jt hY g.cls hz (by rw[Cy];exact r))⟩
theorem lF{us:List V}{vs:List Ad}{Y:Aj->Prop}(g:GI mg mb s)(hY:∀b,Y b->∃o,s.heap.get? b=Aa o)(hz:us.length<=CN)(r:AI s.heap Y us vs):
  vs.length<=Gg/\((∀s' v,GI mg mb s'->C7 s s'->A6 s'.heap Y (.tup us) v->Q v s')->Q (.ref s.heap.objs.size) {s with heap:=s.heap.push {cls:=.type "tuple",data:=.seq vs.toArray}}):=
 ⟨by rw[<-Fn,r.length];exact hz,λ k=>k _ _ (g.push _ s.toks) (.push _ s.toks) (Ny hY g.cls hz (by rw[Cy];exact r))⟩
theorem kH{xs:List Ac}{us:List V}{pos}(hx:DG mg mb w C A U xs env us)(hz:us.length<=CN):Cg mg mb w C A U (AM (.List xs pos) env) (.list us):=λ J s I Q E k=>
 wpAny_List (hx pos J s I _ _ λ s'1 vs g t r=>by have:=bM (Q:=Q) g (I.step t g).there hz r;exact⟨this.1,this.2 λ s'2 v g'2 t'2 r'2=>k s'2 v g'2 (t.trans t'2) r'2⟩)
theorem sP{xs:List Ac}{us:List V}{n pos}(hx:DG mg mb w C A U xs env us)(hz:us.length<=CN):Cg mg mb w C A U (AM (.Tuple xs n pos) env) (.tup us):=λ J s I Q E k=>
 qK (hx pos J s I _ _ λ s'1 vs g t r=>by have:=lF (Q:=Q) g (I.step t g).there hz r;exact⟨this.1,this.2 λ s'2 v g'2 t'2 r'2=>k s'2 v g'2 (t.trans t'2) r'2⟩)
noncomputable def Uc(xs:List V)(j:Nat):Int:=match xs[j]? with
 |some (.int i)=>i
 |_=>0
theorem QU(f:Nat->Int):∀n,preSum f (n+1)=f 0+preSum (λ j=>f (j+1)) n:=λ I0=>by
 induction I0 with
 |zero=>simp[preSum]
 |succ n IH=>
  have h:=IH;show preSum f (n+1)+f (n+1)=f 0+(preSum (λ j=>f (j+1)) n+f (n+1))
  omega
theorem WA:∀{xs:List V} {i:Int},PM xs=Aa i->preSum (Uc xs) xs.length=i/\∀x∈xs,∃k,x=.int k:=@λ I0=>by
 induction I0 with
 |nil=>intro i h;obtain rfl:=sj h;exact⟨rfl,(λ _ h=>absurd h List.not_mem_nil)⟩
 |cons x xs IH=>intro i h;refine bK h λ k h1 h2=>?_;refine mE h2 λ j h3=>?_;rw[B5 h1];have:=IH h3;exact⟨(QU (Uc (.int k::xs)) xs.length).trans (congrArg (k+·) this.1),λ y hy=>(AL.mp hy).elim (λ e=>⟨k,e⟩) (this.2 y)⟩
theorem AI.one{h:AV}{Y:Aj->Prop}{vs:List Ad}(r:AI h Y [a] vs):∃v,vs=[v]/\A6 h Y a v:=by refine El r λ v vs' H3 h1 ξ5=>?_;subst H3;subst ξ5;exact⟨v,rfl,h1⟩
theorem AI.two{h:AV}{Y:Aj->Prop}{vs:List Ad}(r:AI h Y [a,b] vs):∃v u,vs=[v,u]/\A6 h Y a v/\A6 h Y b u:=by refine El r λ v vs' H3 h1 H=>?_;refine El H λ u us H3 h2 ξ5=>?_;subst H3;subst ξ5;subst H3;exact⟨v,u,rfl,h1,h2⟩
theorem ZU(h:n<=CN):(n:Int)<2^63:=by have:CN=16777216:=rfl;omega
theorem Xv{Y:Aj->Prop}{v:Ad}(he:QA .len a=Aa r)(g:GI mg mb s)(ra:A6 s.heap Y a v):Ok mg mb w A s (C2 (.builtin "len") [v] []) λ s' v=>A6 s'.heap Y r v:=by
 induction a using V.casesOn<;>first|exact nn he|skip
 ·refine sE ra λ hz t=>?_;obtain rfl:=sj he;refine CS g _ ⟨_,rfl⟩ λ Q E k=>PyProof.Rows.len_str (by rw[Ce];have:=ZU hz;exact Int.not_le.mpr this) (by rw[Ce];exact k)
 ·rename_i xs;refine A9 ra λ hz H=>?_;refine Hm H λ l vs H3 z hl hr=>?_;subst H3;obtain rfl:=sj he;have e:vs.size=xs.length:=by rw[<-Ax];exact hr.length
  exact CS g (s.toks+1+1) ⟨s.toks+1,rfl⟩ λ Q E k=>call_len_list hl.isList (by rw[e];exact ZU hz) (by rw[e];exact k)
 ·rename_i xs;refine A9 ra λ hz H=>?_;refine Hm H λ l vs H3 z hl hr=>?_;subst H3;obtain rfl:=sj he;have e:vs.size=xs.length:=by rw[<-Ax];exact hr.length
  exact CS g (s.toks+1+1) ⟨s.toks+1,rfl⟩ λ Q E k=>PyProof.Rows.len_tuple hl (by rw[e];exact ZU hz) (by rw[e];exact k)
theorem iW{Y:Aj->Prop}{v:Ad}(he:QA .sum a=Aa r)(g:GI mg mb s)(ra:A6 s.heap Y a v)(hh:A.handled=Ae):Ok mg mb w A s (C2 (.builtin "sum") [v] []) λ s' v=>A6 s'.heap Y r v:=by
 refine bK he λ xs h0 h1=>?_;rw[Cu h0] at ra;refine lE ra λ hz l vs z hl hr=>?_;refine mE h1 λ i hs=>?_
 ·refine A9 (WA hs) λ h3 h4=>?_;have e:vs.size=xs.length:=by rw[<-Ax];exact hr.length
  intro Q E k;refine Aw (id hl) λ n ho=>?_;have hlt:=AT ho;refine call_sum_walkG (wpAny_pyIter_list hl.isList ⟨s.heap.objs.size,_,_,_,_,_,Uc xs,rfl,Walks.list (A:=A.in1) hh s.heap.objs.size l (Ci hlt) vs,⟨⟨_,AW _ rfl,rfl,rfl⟩,hl.isList.push _⟩,?_,?_,?_⟩)
  ·intro b hb;rw[K8];rcases AL.mp hb with e|hb
   ·rw[e];exact G9 _
   ·rw[List.mem_singleton.mp hb];exact GC hlt
  ·intro j u hj;have hlj:j<xs.length:=by
    rw[<-e];rcases CV j vs.size with h|h
    ·exact h
    ·rw[Array.getElem?_eq_none h] at hj;exact nn hj
   refine Aw (h4 xs[j] (Jq hlj)) λ k' hk'=>?_;have q:=hr.nth (Ar hlj) (by rw[A8];exact hj);rw[hk'] at q;refine iE q λ t=>⟨t,?_⟩;unfold Uc;rw[Ar hlj,hk']
  ·intro h' tk t' hk;rw[e,h3];have hk':∀b o,s.heap.get? b=Aa o->h'.get? b=Aa o:=λ b o eo=>hk b o (λ hm=>by rw[List.mem_singleton.mp hm] at eo;exact absurd (AT eo) (Ch _)) (AS _ eo);exact k _ _ (g.all hk' tk) (.all hk' tk) ⟨t',rfl⟩
theorem oU{Y:Aj->Prop}{v:Ad}(he:QA .chr a=Aa r)(g:GI mg mb s)(ra:A6 s.heap Y a v):Ok mg mb w A s (C2 (.builtin "chr") [v] []) λ s' v=>A6 s'.heap Y r v:=by
 refine bK he λ i h0 h1=>?_;rw[B5 h0] at ra;refine iE ra λ t=>iK h1 λ hi h2=>?_
 ·obtain rfl:=sj h2;refine CS g (s.toks+1) ⟨(show(1:Nat)<=CN by decide),s.toks,rfl⟩ λ Q E k=>PySem.P.chr_of_int ?_ k;rw[K7];exact⟨decide_eq_false (by omega),decide_eq_false (by omega)⟩
def xP(z:Str)(f:Ad):Prop:=LJ z=Aa f/\z∈Mq/\z≠"__name__"/\∀a,f≠.ref a
theorem I9{z:Str}{n:String}(h:(decide (LJ z=Aa (.builtin n))&&(decide (z∈Mq)&&decide (z≠"__name__")))=Ab):xP z (.builtin n):=CJ h λ h1 h2=>CJ h2 λ h2 h3=>⟨of_decide_eq_true h1,of_decide_eq_true h2,of_decide_eq_true h3,(λ _ h=>by cases h)⟩
theorem Y6{Y:Aj->Prop}{o:O1}{z:Str}{v:Ad}(hz:Uu o=Aa z)(he:QA o a=Aa r)(g:GI mg mb s)(ra:A6 s.heap Y a v)(hh:A.handled=Ae):
  ∃f,xP z f/\Ok mg mb w A s (C2 f [v] []) λ s' v=>A6 s'.heap Y r v:=by
 induction o using O1.casesOn<;>first|exact nn hz|obtain rfl:=sj hz
 ·exact⟨_,I9 (by decide+kernel),Xv he g ra⟩
 ·exact⟨_,I9 (by decide+kernel),iW he g ra hh⟩
 ·exact⟨_,I9 (by decide+kernel),oU he g ra⟩
theorem lQ{Y:Aj->Prop}{v u:Ad}(he:Cj .min a b=Aa r)(g:GI mg mb s)(ra:A6 s.heap Y a v)(rb:A6 s.heap Y b u)(hh:A.handled=Ae):Ok mg mb w A s (C2 (.builtin "min") [v,u] []) λ s' v=>A6 s'.heap Y r v:=by
 refine Ip he λ i j H3 ξ4 h=>?_;subst H3;subst ξ4;obtain rfl:=sj h;refine Aw ra λ t H2=>?_;subst H2;refine Aw rb λ t' H2=>?_;subst H2;refine λ Q E k=>min_two_ints hh λ h' tk hk=>k _ _ (g.all hk tk) (.all hk tk) ?_
 by_cases h:j<i
 ·rw[if_pos h,if_pos h];exact⟨_,rfl⟩
 ·rw[if_neg h,if_neg h];exact⟨_,rfl⟩
theorem lS{Y:Aj->Prop}{v u:Ad}(he:Cj .max a b=Aa r)(g:GI mg mb s)(ra:A6 s.heap Y a v)(rb:A6 s.heap Y b u)(hh:A.handled=Ae):Ok mg mb w A s (C2 (.builtin "max") [v,u] []) λ s' v=>A6 s'.heap Y r v:=by
 refine Ip he λ i j H3 ξ4 h=>?_;subst H3;subst ξ4;obtain rfl:=sj h;refine Aw ra λ t H2=>?_;subst H2;refine Aw rb λ t' H2=>?_;subst H2;refine λ Q E k=>max_two_ints hh λ h' tk hk=>k _ _ (g.all hk tk) (.all hk tk) ?_
 by_cases h:j>i
 ·rw[if_pos h,if_pos h];exact⟨_,rfl⟩
 ·rw[if_neg h,if_neg h];exact⟨_,rfl⟩
theorem Vy{Y:Aj->Prop}{v u:Ad}(he:Cj .divmod a b=Aa r)(g:GI mg mb s)(hY:∀b,Y b->∃o,s.heap.get? b=Aa o)(ra:A6 s.heap Y a v)(rb:A6 s.heap Y b u):Ok mg mb w A s (C2 (.builtin "divmod") [v,u] []) λ s' v=>A6 s'.heap Y r v:=by refine Ip he λ i j H3 ξ4 h=>?_;subst H3;subst ξ4;refine iK h λ hj h=>?_;obtain rfl:=sj h;refine iE ra λ t=>?_;refine iE rb λ t'=>?_;refine λ Q E k=>divmod_int hj.1 (k _ _ (g.push _ _) (.push _ _) ?_) (.inl hj.2);exact Ny (xs:=[.int (i.fdiv j),.int (i.fmod j)]) hY g.cls (show(2:Nat)<=CN by decide) (⟨_,_,rfl,⟨_,rfl⟩,_,_,rfl,⟨_,rfl⟩,rfl⟩)
theorem Y5{Y:Aj->Prop}{o:O2}{z:Str}{v u:Ad}(hz:Ql o=Aa z)(he:Cj o a b=Aa r)(g:GI mg mb s)(hY:∀b,Y b->∃o,s.heap.get? b=Aa o)(ra:A6 s.heap Y a v)(rb:A6 s.heap Y b u)(hh:A.handled=Ae):
  ∃f,xP z f/\Ok mg mb w A s (C2 f [v,u] []) λ s' v=>A6 s'.heap Y r v:=by
 induction o using O2.casesOn<;>first|exact nn hz|obtain rfl:=sj hz
 ·exact⟨_,I9 (by decide+kernel),lQ he g ra rb hh⟩
 ·exact⟨_,I9 (by decide+kernel),lS he g ra rb hh⟩
 ·exact⟨_,I9 (by decide+kernel),Vy he g hY ra rb⟩
structure rE(T:String)(nm:Str)(id:String):Prop where
 pa:PlainAttrs T
 sl:PySem.Slot T nm id
 ty:typeOf (.builtin id)=pure (.type "method_descriptor")
theorem J6{m:Str}{t:Sem Ad}(h:Hr x=Ab):attributeBase x m env t=t:=by
 induction x using Hj<;>first|rfl|skip
 rename_i f es ks _
 induction f using Hj<;>first|rfl|skip
 induction es using Aq<;>first|rfl|skip
 induction ks using Aq<;>first|exact nf h|rfl
theorem J0{p q:Pos}(h:EB p q=Ab):(p.endLine==q.line)=Ab:=by unfold EB at h;rw[Av h];exact beq_self_eq_true _
theorem PR{m:Str}{id T:String}{ap pos:Pos}(M:rE T m id)(hs:Hr x=Ab)(hl:EB ap pos=Ab)(hx:Cg mg mb w C A U (AM x env) a)
  (hT:∀J s v,AX mg mb C J U s->A6 s.heap (Am C J U) a v->s.TypeIs v T/\∀b,v=.ref b->∃ob,s.heap.get? b=Aa ob/\ob.dict=Ae)
  (hc:∀J s v,AX mg mb C J U s->A6 s.heap (Am C J U) a v->Ok mg mb w A s (C2 (.builtin id) [v] []) λ s' v=>A6 s'.heap (Am C J U) r v):
  Cg mg mb w C A U (AM (.Call (.Attribute x m ap) [] [] pos) env) r:=λ J s I Q E k=>by
 refine Call_method0 (J6 hs) (J0 hl) (hx J s I _ _ λ s'1 v g'1 t'1 ra=>?_);have I'1:=I.step t'1 g'1;refine⟨T,id,M.pa,M.sl,M.ty,(hT J s'1 v I'1 ra).1,(hT J s'1 v I'1 ra).2,?_⟩;refine C9 (P:=λ z=>True) rfl (λ h z=>CM (f:=.builtin id) (λ z e=>nomatch e) h) (evalArgs_nil3 ⟨trivial,?_⟩);exact hc J s'1 v I'1 ra Q E λ s'2 v g'2 t'2 r'2=>k s'2 v g'2 (t'1.trans t'2) r'2
theorem TN{m:Str}{id T:String}{ap pos:Pos}(M:rE T m id)(hs:Hr x=Ab)(hl:EB ap pos=Ab)(hx:Cg mg mb w C A U (AM x env) a)(hy:Cg mg mb w C A U (AM y env) b)(hp:Bo y)
  (hT:∀J s v,AX mg mb C J U s->A6 s.heap (Am C J U) a v->s.TypeIs v T/\∀b,v=.ref b->∃ob,s.heap.get? b=Aa ob/\ob.dict=Ae)
  (hc:∀J s v u,AX mg mb C J U s->A6 s.heap (Am C J U) a v->A6 s.heap (Am C J U) b u->Ok mg mb w A s (C2 (.builtin id) [v,u] []) λ s' v=>A6 s'.heap (Am C J U) r v):
  Cg mg mb w C A U (AM (.Call (.Attribute x m ap) [y] [] pos) env) r:=λ J s I Q E k=>by
 refine fJ (J6 hs) (hp [] env) (J0 hl) (hx J s I _ _ λ s'1 v g'1 t'1 ra=>?_);have I'1:=I.step t'1 g'1;refine⟨T,id,M.pa,M.sl,M.ty,(hT J s'1 v I'1 ra).1,(hT J s'1 v I'1 ra).2,?_⟩;refine C9 (P:=λ z=>True) rfl (λ h z=>CM (f:=.builtin id) (λ z e=>nomatch e) h) (EG ?_);have q:=BA (E:=E) (pos:=pos) (Q:=λ vs s'=>True/\As (An pw w) A (C2 (Value.builtin id) ([v]++vs) []) Q E s') (hy J s'1 I'1 _ _ λ s'2 u g'2 t'2 rb=>Ec ⟨trivial,?_⟩) (hp [] env)
 ·rw[hp [] env] at q;exact q
 exact hc J s'2 v u (I'1.step t'2 g'2) (ra.step g'1 t'2) rb Q E λ s'3 v g'3 t'3 r'3=>k s'3 v g'3 ((t'1.trans t'2).trans t'3) r'3
theorem Wt{Y:Aj->Prop}{l:List Nat}{v:Ad}(h:A6 s.heap Y (.str l) v):s.TypeIs v "str"/\∀b,v=.ref b->∃ob,s.heap.get? b=Aa ob/\ob.dict=Ae:=by refine sE h λ z t=>?_;exact⟨xS _ _ _,(λ _ h=>by cases h)⟩
theorem rS{Y:Aj->Prop}{i:Int}{v:Ad}(h:A6 s.heap Y (.int i) v):s.TypeIs v "int"/\∀b,v=.ref b->∃ob,s.heap.get? b=Aa ob/\ob.dict=Ae:=by refine iE h λ t=>?_;exact⟨xT _ _ _,(λ _ h=>by cases h)⟩
theorem iS{Y:Aj->Prop}{l:List V}{v:Ad}(h:A6 s.heap Y (.list l) v):s.TypeIs v "list"/\∀b,v=.ref b->∃ob,s.heap.get? b=Aa ob/\ob.dict=Ae:=by refine lE h λ z a vs z hl z=>?_;exact⟨hl.isList.typeIs,λ b e=>by cases e;refine Aw hl λ n e=>?_;exact⟨_,e,rfl⟩⟩
theorem zO{o:O1}{m:Str}{ap pos:Pos}(hm:gN o=Aa m)(he:QA o a=Aa r)(hs:Hr x=Ab)(hl:EB ap pos=Ab)(hx:Cg mg mb w C A U (AM x env) a):
  Cg mg mb w C A U (AM (.Call (.Attribute x m ap) [] [] pos) env) r:=by
 induction o using O1.casesOn<;>first|exact nn hm|skip
 all_goals obtain rfl:=sj hm
 all_goals (induction a using V.casesOn<;>first|exact nn he|skip)
 ·obtain rfl:=sj he;exact PR ⟨F.plainAttrs_int,F.slot_int_bit_length,F.type_int_bit_length⟩ hs hl hx (λ J s v I h=>rS h) λ J s v I h=>iE h λ t=>CS I.gi _ ⟨_,rfl⟩ λ Q E k=>call_int_bit_length k
 ·rename_i l;have h2:=he;refine iK h2 λ hA h2=>?_;obtain rfl:=sj h2;have hA':∀c∈(FZ l).cps.toList,c<128:=λ c hc=>of_decide_eq_true (Al.mp hA c (by simpa[FZ] using hc));have e:Txt.upper (FZ l)=FZ (l.map qS):=by
   rw[upper_ascii hA'];have:up1=qS:=funext λ c=>by unfold up1 qS;simp only [Co,decide_eq_true_eq]
   rw[this];simp[FZ]
  refine PR ⟨Qu,F.slot_str_upper,F.type_str_upper⟩ hs hl hx (λ J s v I h=>Wt h) λ J s v I h=>?_;refine A9 h λ hz H=>?_;refine Aw H λ t H2=>?_;subst H2;refine CS I.gi (s.toks+1) ⟨by rw[Ag];exact hz,s.toks,rfl⟩ λ Q E k=>SC.upper ?_ ?_
  ·rw[e,Ce,Ag];unfold Builtin.Str.tooLong;rw[<-Fn];exact decide_eq_false (Nat.not_lt.mpr hz)
  ·rw[e];exact k
 ·rename_i l;have h2:=he;refine iK h2 λ hA h2=>?_;obtain rfl:=sj h2;have hA':∀c∈(FZ l).cps.toList,c<128:=λ c hc=>of_decide_eq_true (Al.mp hA c (by simpa[FZ] using hc));have e:Txt.lower (FZ l)=FZ (l.map SG):=by
   rw[lower_ascii hA'];have:lo1=SG:=funext λ c=>by unfold lo1 SG;simp only [Co,decide_eq_true_eq]
   rw[this];simp[FZ]
  refine PR ⟨Qu,F.slot_str_lower,F.type_str_lower⟩ hs hl hx (λ J s v I h=>Wt h) λ J s v I h=>?_;refine A9 h λ hz H=>?_;refine Aw H λ t H2=>?_;subst H2;refine CS I.gi (s.toks+1) ⟨by rw[Ag];exact hz,s.toks,rfl⟩ λ Q E k=>SC.lower ?_ ?_
  ·rw[e,Ce,Ag];unfold Builtin.Str.tooLong;rw[<-Fn];exact decide_eq_false (Nat.not_lt.mpr hz)
  ·rw[e];exact k
theorem Vd:∀{xs:List V} {y:List Nat},Pk xs=Aa y->∃ls:List (List Nat),xs=ls.map V.str/\y=ls.flatten:=@λ I0=>by
 induction I0 with
 |nil=>intro y h;obtain rfl:=sj h;exact⟨[],rfl,rfl⟩
 |cons x r IH=>intro y h;refine bK h λ s h1 h2=>?_;refine mE h2 λ u h3=>?_;refine AF (IH h3) λ ls H2 H3=>?_;subst H2;subst H3;exact⟨s::ls,by rw[Ft h1];rfl,List.flatten_cons.symm⟩
theorem Sd{h:AV}{Y:Aj->Prop}:∀{ls:List (List Nat)} {vs:List Ad},AI h Y (ls.map V.str) vs->StrsAre vs (ls.map FZ):=@λ I0=>by
 induction I0 with
 |nil=>intro _ r;subst r;exact .nil
 |cons l ls IH=>intro _ r;refine El r λ v vs H3 ξ4 h2=>?_;subst H3;refine A9 ξ4 λ z H=>?_;obtain⟨t,rfl⟩:=H;exact .cons _ _ (IH h2)
theorem uU:∀ls:List (List Nat),Zp (FZ []) (ls.map FZ)=FZ ls.flatten
:=λ ls=>by
 induction ls with
 |nil=>rfl
 |cons x l IH=>induction l using Aq with
  |nil=>simp[Zp]
  |cons y r=>show FZ x++FZ []++Zp (FZ []) ((y::r).map FZ)=_;rw[IH,IJ,IJ];simp
theorem iY:∀ls:List (List Nat),((ls.map FZ).map (·.length)).sum=ls.flatten.length:=λ I0=>by
 induction I0 with
 |nil=>exact rfl
 |cons x r IH=>simp only [D3,List.sum_cons,List.flatten_cons,AB];rw[IH,Ce]
noncomputable def YA(x y:Ad):Bool:=match y,x with
 |.int i _,.int j _=>i==j
 |.str a _,.str b _=>a.cps.toList==b.cps.toList
 |_,_=>Ai
theorem XF(h:KA v=1):∃i,v=.int i:=by induction v using V.casesOn<;>first|exact⟨_,rfl⟩|cases h
theorem XE(h:KA v=2):∃i,v=.str i:=by induction v using V.casesOn<;>first|exact⟨_,rfl⟩|cases h
theorem SO{xs:List V}{k:Nat}(h:XW v xs=Aa k):k<xs.length/\(∃x,xs[k]?=Aa x/\V.beq x v=Ab)/\∀m,m<k->∀x,xs[m]?=Aa x->V.beq x v=Ai:=by refine iK h λ hk h=>?_;obtain rfl:=sj h;refine⟨hk,⟨_,Ar hk,List.findIdx_getElem (w:=hk)⟩,λ m hm x hx=>?_⟩;have q:=List.not_of_lt_findIdx hm;rw[Ar (Gz hm hk)] at hx;rw[<-sj hx];exact q
theorem Mh{h:AV}{Y:Aj->Prop}{v u:Ad}(hk:KA a≠0)(hk':KA b=KA a)(ra:A6 h Y a v)(rb:A6 h Y b u):YA v u=V.beq b a/\PySem.MeetsSeq.EqGives u v (YA v u):=by
 induction a using V.casesOn<;>first|exact absurd rfl hk|skip
 ·refine Aw (XF hk') λ i H2=>?_;subst H2;refine iE ra λ t=>?_;refine iE rb λ t'=>?_;exact⟨rfl,PySem.MeetsSeq.EqGives.int _ _ _ _⟩
 ·refine Aw (XE hk') λ i H2=>?_;subst H2;refine sE ra λ z t=>?_;refine sE rb λ z t'=>?_;exact⟨rfl,PySem.SeqRoads2.EqGives.str _ _ _ _⟩
theorem XS{Y:Aj->Prop}{v u:Ad}(he:Cj .index a b=Aa r)(g:GI mg mb s)(ra:A6 s.heap Y a v)(rb:A6 s.heap Y b u):Ok mg mb w A s (C2 (.builtin "list.index") [v,u] []) λ s' v=>A6 s'.heap Y r v:=by
 refine bK he λ xs h1 h2=>?_;rw[Cu h1] at ra;refine iK h2 λ hk h3=>?_;rw[Co,Al,bne_iff_ne] at hk;refine mE h3 λ k hi=>?_
 ··
   refine Db (SO hi) λ hkl H2 hno=>?_;refine AF H2 λ x hx hxb=>?_;refine lE ra λ hz l vs z hl hr=>Aw (id hl) λ n ho=>?_;have e:vs.size=xs.length:=by rw[<-Ax];exact hr.length
   have rep:∀(m:Nat) (hm:m<vs.size),∃y,xs[m]?=Aa y/\A6 s.heap Y y vs[m]/\KA y=KA b:=λ m hm=>by have hm':=e▸hm;refine⟨xs[m],Ar hm',hr.nth (Ar hm') ?_,beq_iff_eq.mp (hk.2 _ (Jq hm'))⟩;rw[A8];exact IA hm
   refine CS g (s.toks+1) ⟨s.toks,rfl⟩ λ Q E kk=>LK F.slot_list_index hl.isList.typeIs F.entry_list_index (F.args_list_index_2 _ _) (PySem.MeetsSeq.list_index l vs n u (YA u) ?_ k (by rw[e];exact hkl) ?_ ?_ ?_) ⟨ho,kk⟩
   ·intro y hy;refine Aw (Array.mem_iff_getElem.mp hy) λ m H=>?_;refine Aw H λ hm H2=>?_;subst H2;exact E3 (rep m hm) λ y' z h3 h4=>(Mh hk.1 h4 rb h3).2
   ·have:=ZU hz;omega
   ·refine E3 (rep k (by rw[e];exact hkl)) λ y' h5 h3 h4=>?_;rw[hx] at h5;obtain rfl:=sj h5;rw[(Mh hk.1 h4 rb h3).1];exact hxb
   ·intro m hm hmk;refine E3 (rep m hm) λ y' h5 h3 h4=>?_;rw[(Mh hk.1 h4 rb h3).1];exact hno m hmk y' h5
theorem cS{Y:Aj->Prop}{v u:Ad}(he:Cj .join a b=Aa r)(g:GI mg mb s)(ra:A6 s.heap Y a v)(rb:A6 s.heap Y b u):Ok mg mb w A s (C2 (.builtin "str.join") [v,u] []) λ s' v=>A6 s'.heap Y r v:=by
 refine bK he λ l h1 h2=>A9 (Hf h2) λ h3 h4=>bK h4 λ xs h5 h6=>bK h6 λ y h7 h8=>iK h8 λ hy h9=>?_;obtain rfl:=sj h9;rw[Ft h1,List.isEmpty_iff.mp h3] at ra;rw[Cu h5] at rb;refine sE ra λ z t=>?_;refine lE rb λ hz D vs z hl hr=>?_;refine AF (Vd h7) λ ls H2 H3=>?_;subst H2;subst H3;refine λ Q E k=>join_list hl.isList (Sd hr) ?_ λ t' n=>?_
 ·rw[iY,Ce,List.length_nil,Km,VW];exact hy
 ·refine k _ _ (g.toks n) (.toks n) ⟨hy,t',?_⟩;rw[show Txt.join (FZ []) (ls.map FZ)=Zp (FZ []) (ls.map FZ) from StrLaws.glued_eq_join _ _,uU]
theorem zN{o:O2}{m:Str}{ap pos:Pos}(hm:gM o=Aa m)(he:Cj o a b=Aa r)(hs:Hr x=Ab)(hl:EB ap pos=Ab)(hx:Cg mg mb w C A U (AM x env) a)(hy:Cg mg mb w C A U (AM y env) b)(hp:Bo y):
  Cg mg mb w C A U (AM (.Call (.Attribute x m ap) [y] [] pos) env) r:=by
 induction o using O2.casesOn<;>first|exact nn hm|obtain rfl:=sj hm
 ·refine TN ⟨GU,F.slot_list_index,F.type_list_index⟩ hs hl hx hy hp (λ J s v I h=>?_) λ J s v u I h h'=>XS he I.gi h h'
  induction a using V.casesOn<;>first|exact nn he|exact iS h
 ·refine TN ⟨Qu,F.slot_str_join,F.type_str_join⟩ hs hl hx hy hp (λ J s v I h=>?_) λ J s v u I h h'=>cS he I.gi h h'
  induction a using V.casesOn<;>first|exact nn he|exact Wt h
set_option backward.match.sparseCases true
theorem AI.drop{h:AV}{Y:Aj->Prop}:∀(n:Nat) {xs:List V} {vs:List Ad},AI h Y xs vs->AI h Y (xs.drop n) (vs.drop n)
:=λ n=>by
 induction n with
 |zero=>exact@λ _ _ r=>r
 |succ n IH=>
  intro xs vs r
  induction xs using Aq with
  |nil=>subst r;exact rfl
  |cons x xs=>refine El r λ v vs e h1 h2=>?_;subst e;exact IH h2
theorem AI.take{h:AV}{Y:Aj->Prop}:∀(n:Nat) {xs:List V} {vs:List Ad},AI h Y xs vs->AI h Y (xs.take n) (vs.take n)
:=λ n=>by
 induction n with
 |zero=>exact@λ _ _ r=>rfl
 |succ n IH=>
  intro xs vs r
  induction xs using Aq with
  |nil=>subst r;exact rfl
  |cons x xs=>refine El r λ v vs e h1 h2=>?_;subst e;exact⟨v,_,rfl,h1,IH h2⟩
theorem AI.reverse{h:AV}{Y:Aj->Prop}:∀{xs:List V} {vs:List Ad},AI h Y xs vs->AI h Y xs.reverse vs.reverse
:=@λ xs=>by
 induction xs with
 |nil=>intro vs r;subst r;exact rfl
 |cons x xs IH=>intro vs r;refine El r λ v vs e h1 h2=>?_;subst e;rw[Gq,Gq];exact(IH h2).snoc h1
theorem NI{Z O:Type}{xs:List Z}{ys:List O}(hl:ys.length=xs.length){i:Nat}(e:xs[i]?=Ae):ys[i]?=Ae:=
 Cf (hl▸List.getElem?_eq_none_iff.mp e)
theorem AI.picked{h:AV}{Y:Aj->Prop}{xs:List V}{vs:List Ad}(r:AI h Y xs vs):∀l:List Nat,AI h Y (l.filterMap λ i=>xs[i]?) (l.filterMap λ i=>vs[i]?)
 |[]=>rfl
 |i::l=>by
  have ih:=r.picked l
  cases e:xs[i]? with
  |none=>rw[D4 e,D4 (NI r.length e)];exact ih
  |some x=>refine AF (r.get e) λ v hv q=>?_;rw[D5 e,D5 hv];exact⟨v,_,rfl,q,ih⟩
theorem Su{Z O:Type}{xs:List Z}{ys:List O}(hl:ys.length=xs.length):∀l:List Nat,(l.filterMap λ i=>ys[i]?).length=(l.filterMap λ i=>xs[i]?).length:=λ I0=>by
 induction I0 with
 |nil=>exact rfl
 |cons i l IH=>
  have ih:=IH
  cases e:xs[i]? with
  |none=>rw[D4 e,D4 (NI hl e)];exact ih
  |some x=>
   cases q:ys[i]? with
   |none=>rw[NI hl.symm q] at e;exact nn e
   |some y=>rw[D5 e,D5 q];exact congrArg Nat.succ ih
theorem Im{Z:Type}(xs:List Z)(lo hi st:Option Int):(EA xs lo hi st).length<=xs.length:=by
 have q:=slicePick_size_le (Array.replicate xs.length E6) lo hi st;have e:(Array.replicate xs.length E6).toList.length=xs.length:=by rw[Ax,KY]
 rw[KY] at q;unfold slicePick at q;rw[Cw,KY] at q;refine Ak (Kn ?_) q;refine(Su e _).symm.trans (congrArg (λ f:Nat->Option Ad=>OY (QD f _)) ?_)
 funext i
 exact A8
set_option backward.match.sparseCases false
theorem JR{value slice:Ac}{o i:Ad}{T id:String}(hT:s.TypeIs o T)(hl:typeLookup (.type T) "__getitem__"=pure (Aa (.builtin id))) (h:As (An pw w) A (getItem o i) Q E s):
  As (An pw w) A (E8 value slice o i) Q E s:=by
 unfold E8;refine Ah ?_;rw[getitemInPython_of_ne hT.not_modules];refine Ah (wpAny_specialOf hT hl ?_);have fin:As (An pw w) A (subscripted slice Ai o i) (λ r s'3=>As (An pw w) A (letTemporaryGo value o r>>=λ z=>pure r) Q E s'3) E s:=by
  have q:As (An pw w) A (getItem o i) (λ r s'3=>As (An pw w) A (letTemporaryGo value o r>>=λ z=>pure r) Q E s'3) E s:=
   A2 h (λ r s'3 h'3=>Ah (wpAny_letTemporaryGo (At h'3))) λ z z x=>x
  clear h
  induction slice using Hj<;>first|exact wpAny_operating q|skip
  rename_i k _
  induction k using Option.casesOn<;>exact wpAny_operating q
 first
  |exact At (Ah fin)
  |exact Ah (At (Ah fin))
  |exact Ah fin
theorem O9{i:Int}(h:Nt i=Ab):-(2^63)<=i/\i<2^63:=by have q:=B6 h;exact⟨Int.le_trans (by decide) (of_decide_eq_true q.1),Int.lt_of_le_of_lt (of_decide_eq_true q.2) (by decide)⟩
theorem Mc{Z:Type}{xs:List Z}{i:Int}{v:Z}(h:JD xs i=Aa v){gC:Prop}(gk:∀j,E7 i xs.length=Aa j->xs[j]?=Aa v->-(2^63)<=i->i<2^63->gC):gC:=
 iK h λ h0 h=>bK h λ j h1 h2=>gk j h1 h2 (O9 h0).1 (O9 h0).2
theorem ML{l:Aj}{xs:List V}{vs:Array Ad}{Y:Aj->Prop}{i:Int}{t:Tok}(hl:s.heap.IsList l vs)(hr:AI s.heap Y xs vs.toList)(hz:xs.length<=CN)(he:JD xs i=Aa r)(g:GI mg mb s):
  Ok mg mb w A s (getItem (.ref l) (.int i t)) λ s' v=>A6 s'.heap Y r v:=by
 refine Mc he λ j hj hx h1 h2=>AF (hr.get hx) λ v hv hrv=>?_;have e:vs.size=xs.length:=by rw[<-Ax];exact hr.length
 have hv':vs[j]?=Aa v:=by rw[<-A8];exact hv
 refine λ Q E k=>?_
 by_cases hi:i<0
 ·have hj':(i+vs.size).toNat=j/\-(vs.size:Int)<=i:=by
   unfold E7 at hj;rw[if_pos hi] at hj;refine iK hj λ hc hj=>?_;rw[Co,decide_eq_true_eq,decide_eq_true_eq] at hc;obtain rfl:=sj hj;rw[e];exact⟨rfl,by omega⟩
  exact wpAny_getItem_list_neg hl hi hj'.2 h1 (by rw[hj'.1];exact hv') (k s v g (.refl s) hrv)
 ·have hj':i.toNat=j:=by
   unfold E7 at hj;rw[if_neg hi] at hj;refine iK hj λ z hj=>?_;obtain rfl:=sj hj;rfl
  exact wpAny_getItem_list hl (Int.not_lt.mp hi) h2 (by rw[hj'];exact hv') (k s v g (.refl s) hrv)
theorem dF{Y:Aj->Prop}{v u:Ad}{value slice:Ac}{x:List Nat}{i:Int}(he:(JD x i).map (λ c=>V.str [c])=Aa r)(g:GI mg mb s)(ra:A6 s.heap Y (.str x) v)(rb:A6 s.heap Y (.int i) u):Ok mg mb w A s (E8 value slice v u) λ s' v=>A6 s'.heap Y r v:=by
 refine sE ra λ hz t=>?_;refine iE rb λ t'=>?_;refine mE he λ c h3=>?_;refine Mc h3 λ j hj hx h1 h2=>λ Q E k=>JR (xS _ _ _) F.slot_str_getitem.lookup (PyProof.Rows.getItem_str ?_ ?_ (k _ _ (g.toks _) (.toks _) ⟨(show(1:Nat)<=CN by decide),s.toks,rfl⟩))
 ·rw[K7];exact⟨decide_eq_false (JM h1),decide_eq_false (Int.not_le.mpr h2)⟩
 ·rw[Ce,hj];show(FZ x).cps[j]?=_;simp[FZ,hx]
theorem dE{Y:Aj->Prop}{v u:Ad}{value slice:Ac}{xs:List V}{i:Int}(he:JD xs i=Aa r)(g:GI mg mb s)(ra:A6 s.heap Y (.tup xs) v)(rb:A6 s.heap Y (.int i) u):Ok mg mb w A s (E8 value slice v u) λ s' v=>A6 s'.heap Y r v:=by
 refine tE ra λ hz l vs z hl hr=>?_;refine iE rb λ t'=>?_;refine Mc he λ j hj hx h1 h2=>AF (hr.get hx) λ v hv hrv=>?_;have e:vs.size=xs.length:=by rw[<-Ax];exact hr.length
 have hv':vs[j]?=Aa v:=by rw[<-A8];exact hv
 exact λ Q E k=>JR hl.typeIs F.slot_tuple_getitem.lookup (PyProof.Rows.getItem_tuple hl h1 h2 (by rw[e];exact hj) hv' (k s v g (.refl s) hrv))
theorem mX{Y:Aj->Prop}{v u:Ad}{value slice:Ac}(he:Cj .i a b=Aa r)(g:GI mg mb s)(ra:A6 s.heap Y a v)(rb:A6 s.heap Y b u):Ok mg mb w A s (E8 value slice v u) λ s' v=>A6 s'.heap Y r v:=by
 induction a using V.casesOn<;>first|exact nn he|skip
 all_goals (refine bK he λ i h1 h2=>?_;rw[B5 h1] at rb)
 ·exact dF h2 g ra rb
 ·refine lE ra λ hz l vs z hl hr=>?_;exact iE rb λ t'=>λ Q E k=>JR hl.isList.typeIs F.slot_list_getitem.lookup (ML hl.isList hr hz h2 g Q E k)
 ·exact dE h2 g ra rb
theorem sU{pos}(he:Cj .i a b=Aa r)(hx:Cg mg mb w C A U (AM x env) a)(hy:Cg mg mb w C A U (AM y env) b):Cg mg mb w C A U (AM (.Subscript x y pos) env) r:=λ J s I Q E k=>xU (aP I hx hy (λ s va vb I ra rb=>mX he I.gi ra rb) k)
theorem bC{e:Option Ac}(h:match e with|none=>a=.none|some y=>Cg mg mb w C A U (AM y env) a):Cg mg mb w C A U (VX e env) a:=by
 induction e with
 |none=>subst h;exact λ J s I Q E k=>At (k s _ I.gi (.refl s) rfl)
 |some y=>exact h
theorem QV{p:Option Int}(h:GX v=Aa p):(v=.none/\p=Ae)\/∃i,v=.int i/\p=Aa i:=by
 induction v using V.casesOn<;>first|exact nn h|skip
 ·exact .inl ⟨rfl,(sj h).symm⟩
 ·exact .inr ⟨_,rfl,(sj h).symm⟩
theorem L8{h:AV}{Y:Aj->Prop}{v:Ad}{p:Option Int}(hk:GX a=Aa p)(ra:A6 h Y a v):IsPart v p:=by
 rcases QV hk with⟨rfl,rfl⟩|⟨i,rfl,rfl⟩
 ·subst ra;exact .none
 ·exact iE ra λ t=>.int i t
theorem NB{h:AV}{Y:Aj->Prop}{v:Ad}{p:Option Int}(hk:GX a=Aa p)(ra:A6 h Y a v){gC:Prop}(gk:∀q:Option (Int×Tok),v=partValue q->q.map (·.1)=p->gC):gC:=by
 rcases QV hk with⟨rfl,rfl⟩|⟨i,rfl,rfl⟩
 ·subst ra;exact gk Ae rfl rfl
 ·exact Aw ra λ t e=>gk (Aa (i,t)) e rfl
section
variable{lo hi st:V}
theorem jS{Y:Aj->Prop}{v vl vu vs:Ad}{sl:Aj}{l:List Nat}{lp hp kp:Option Int}(he:aG l lp hp kp=Aa r)(g:GI mg mb s)(ra:A6 s.heap Y (.str l) v)(hl:GX lo=Aa lp)(rl:A6 s.heap Y lo vl)(hh:GX hi=Aa hp)(ru:A6 s.heap Y hi vu)(hk:GX st=Aa kp)(rs:A6 s.heap Y st vs)
  (hs:s.heap.IsSliceOf sl vl vu vs) {value slice:Ac}:Ok mg mb w A s (E8 value slice v (.ref sl)) λ s' v=>A6 s'.heap Y r v:=by
 refine iK he λ e0 he=>?_;have e0:=e0;subst e0;obtain rfl:=sj he;refine sE ra λ hz t=>NB hl rl λ pl e1 el=>NB hh ru λ pu e2 eu=>NB hk rs λ pk e3 ek=>?_;subst e1 e2 e3;have e4:=Option.map_eq_none_iff.mp ek;subst e4;have ei:slicePicked (FZ l) pl pu Ae=Bx lp hp 1 l.length:=by unfold slicePicked;rw[el,eu,Ce];rfl
 refine λ Q E k=>JR (xS _ _ _) F.slot_str_getitem.lookup (wpAny_getItem_str_slice hs rfl ?_);unfold sliceMade;rw[ei,Ce]
 by_cases q:((Bx lp hp 1 l.length).length==l.length)=Ab
 ·rw[if_pos (by exact q)];exact k s _ g (.refl s) (by rw[if_pos q];exact⟨hz,t,rfl⟩)
 ·rw[if_neg (by exact q)];have e5:(Bx lp hp 1 l.length).filterMap ((FZ l).cps[·]?)=EA l lp hp Ae:=by
   refine congrArg (λ f:Nat->Option Nat=>QD f _) ?_
   funext i;exact List.getElem?_toArray
  rw[e5];have h4:=Ak (Im l lp hp Ae) hz;exact⟨by rw[<-Fn];exact h4,k _ _ (g.toks _) (.toks _) (by rw[if_neg q];exact⟨h4,s.toks,rfl⟩)⟩
theorem jT{Y:Aj->Prop}{v vl vu vs:Ad}{sl:Aj}{xs:List V}{lp hp kp:Option Int}(he:zE xs lp hp kp=Aa r)(g:GI mg mb s)(hY:∀b,Y b->∃o,s.heap.get? b=Aa o)(ra:A6 s.heap Y (.list xs) v)(hl:GX lo=Aa lp)(rl:A6 s.heap Y lo vl)(hh:GX hi=Aa hp)(ru:A6 s.heap Y hi vu)(hk:GX st=Aa kp)(rs:A6 s.heap Y st vs)
  (hs:s.heap.IsSliceOf sl vl vu vs) {value slice:Ac}:Ok mg mb w A s (E8 value slice v (.ref sl)) λ s' v=>A6 s'.heap Y r v:=by
 unfold zE at he
 by_cases q:kp=Aa 0
 ·rw[if_pos q] at he;exact nn he
 ·rw[if_neg q] at he;obtain rfl:=sj he;refine lE ra λ hz l us z hl' hr=>?_;have e:us.size=xs.length:=by rw[<-Ax];exact hr.length
  refine λ Q E k=>JR hl'.isList.typeIs F.slot_list_getitem.lookup (wpAny_getItem_list_slice hl'.isList hs (L8 hl rl) (L8 hh ru) (L8 hk rs) q ?_ (by rw[e,<-Fn];exact hz));refine k _ _ (g.push _ s.toks) (.push _ s.toks) (Jt hY g.cls (Ak (Im xs lp hp kp) hz) ?_);unfold slicePick;rw[Cy,e,show(λ i:Nat=>us[i]?)=λ i:Nat=>us.toList[i]? from by funext i;rw[A8]];exact hr.picked _
theorem WO{Y:Aj->Prop}{v vl vu vs:Ad}{sl:Aj}(he:P9 a lo hi st=Aa r)(g:GI mg mb s)(hY:∀b,Y b->∃o,s.heap.get? b=Aa o)(ra:A6 s.heap Y a v)(rl:A6 s.heap Y lo vl)(ru:A6 s.heap Y hi vu)(rs:A6 s.heap Y st vs)
  (hs:s.heap.IsSliceOf sl vl vu vs) {value slice:Ac}:Ok mg mb w A s (E8 value slice v (.ref sl)) λ s' v=>A6 s'.heap Y r v:=by
 refine bK he λ lp hl he=>bK he λ hp hh he=>bK he λ kp hk he=>?_
 induction a using V.casesOn<;>first|exact nn he|skip
 ·exact jS he g ra hl rl hh ru hk rs hs
 ·exact jT he g hY ra hl rl hh ru hk rs hs
theorem zM{l h k:Option Ac}{p pos}(he:P9 a lo hi st=Aa r)(hx:Cg mg mb w C A U (AM x env) a)(hl:Cg mg mb w C A U (VX l env) lo)(hh:Cg mg mb w C A U (VX h env) hi)(hk:Cg mg mb w C A U (VX k env) st):
  Cg mg mb w C A U (AM (.Subscript x (.Slice l h k p) pos) env) r:=λ J s I Q E kk=>by
 refine xU (hx J s I _ _ λ s'1 va g'1 t'1 r'1=>wpAny_Slice (hl J s'1 (I.step t'1 g'1) _ _ λ s'2 vl g'2 t'2 r'2=>hh J s'2 ((I.step t'1 g'1).step t'2 g'2) _ _ λ s'3 vu g'3 t'3 r'3=>hk J s'3 (((I.step t'1 g'1).step t'2 g'2).step t'3 g'3) _ _ λ s'4 vk g'4 t'4 r4=>?_));have I'4:=(((I.step t'1 g'1).step t'2 g'2).step t'3 g'3).step t'4 g'4;have t'5:=C7.push (s:=s'4) {cls:=.type "slice",data:=.fields #[vl,vu,vk]} s'4.toks;have g'5:=g'4.push {cls:=.type "slice",data:=.fields #[vl,vu,vk]} s'4.toks;have I'5:=I'4.step t'5 g'5;exact WO he g'5 I'5.there ((((r'1.step g'1 t'2).step g'2 t'3).step g'3 t'4).step g'4 t'5) (((r'2.step g'2 t'3).step g'3 t'4).step g'4 t'5) ((r'3.step g'3 t'4).step g'4 t'5) (r4.step g'4 t'5) (Heap.IsSliceOf.new _ _ _ _) Q E
  λ s'6 v g'6 t'6 r6=>kk s'6 v g'6 (((((t'1.trans t'2).trans t'3).trans t'4).trans t'5).trans t'6) r6
end
noncomputable def Kh:Option Nat->List (Str×Ad)
 |none=>[]
 |some g=>[("key",.ref g)]
structure HC(mg mb:Str->Option Ad)(w:B2)(G:EZ)(N:Nat):Prop where
 fn:∀f vs key r,G f vs key=Aa r->∃i,(f,i)∈Fe
 ok:∀f vs key r,G f vs key=Aa r->∀A s Y us,BQ N A->GI mg mb s->(∀b,Y b->∃o,s.heap.get? b=Aa o)->AI s.heap Y vs us->Ok mg mb w A s (C2 (.ref f) us (Kh key)) λ s' v=>A6 s'.heap Y r v
def iH(C:Er)(J:Nat->Aj)(U:AQ)(s'0:Af)(xs:List V)(s:Af)(v:Ad):Prop:=
 xs.length<=CN/\∃a us,v=.ref a/\s'0.heap.get? a=Ae/\s.heap.PlainList a us/\AI s.heap (λ b=>Am C J U b\/b=a) xs us.toList
theorem Ys:gY.all (λ p=>Fe.any λ q=>AG q.1 p.1&&Mi (AA q.2).name p.2)=Ab:=by decide+kernel
theorem Ir{f:Nat}{x:Str}(h:EC K f x=Ab):lk x K.sc=Aa .globalImplicit/\TX x=Ab/\∃i,(f,i)∈Fe/\(AA i).name=x:=by refine aK h λ p e h=>U7 h λ h1 h2=>AF (List.any_eq_true.mp (Al.mp Ys _ (List.mem_of_find?_eq_some e))) λ q hq hb=>?_;have hb:=B6 hb;exact⟨h1,h2,q.2,(Av (List.find?_some e:)).trans (Av hb.1).symm▸hq,Dj hb.2⟩
theorem Iu(g:GI mg mb s){f i:Nat}{x:Str}(h:(f,i)∈Fe)(e:(AA i).name=x):mg x=Aa (.ref f):=by refine E1 (g.wd.fn _ h) λ dV kV F z=>?_;rw[<-e];exact F.nm
theorem Dy(g:GI mg mb s){f i:Nat}(h:(f,i)∈Fe):∃k,(k=B3\/k=BO\/k=Bt)/\LP (An pw w) s.heap (Ek (.ref f)) k:=by refine E1 (g.wd.fn _ h) λ dV kV F z=>?_;obtain⟨o,doc,pm,c,oc,vs,t,ct,e,n,d,_,_,_,_⟩:=F.ob;exact Q6 s.heap ⟨o,_,e,d⟩
def VT(K:Kx)(key:Option Nat)(ks:List Ka):Prop:=match key with
 |none=>ks=[]
 |some g=>∃x p q,ks=[⟨Aa "key",.Name x p,q⟩]/\EC K g x=Ab
theorem M6{key:Option Nat}{ks:List Ka}(h:eO K key ks=Ab):VT K key ks:=by
 induction key with
 |none=>exact BC h
 |some g=>refine aK h λ ξ1 h1 h2=>?_;obtain⟨a,v,p⟩:=ξ1;exact CJ h2 λ h2 h3=>aK h2 λ n h4 h5=>aK h3 λ x h6 h7=>Aw (BL h6) λ q h6=>⟨x,q,p,by rw[Cv h1,show a=Aa n from h4,Dj h5,show v=.Name x q from h6],h7⟩
theorem C6(N:AJ K C env){z:Str}{p pos:Pos}{xs:List Ac}{ks:List Ka}{key:Option Nat}{f:Ad}{AR:Af->List Ad->Prop}{R:Af->Ad->Prop}(I:AX mg mb C J U s)
  (hp:∀x∈xs,Bo x) (hk:VT K key ks) (hk0:xs=[]->ks=[])
  (hn:∀(Q:Ad->Af->Prop) (E:Ad->Af->Prop),Q f s->As (An pw w) A (AM (.Name z p) env) Q E s)
  (hx:Ok mg mb w A s (yV (MX pos (Gh xs env))) AR)
  (hkp:∀s',GI mg mb s'->∃k,(k=B3\/k=BO\/k=Bt)/\LP (An pw w) s'.heap (Ek f) k)
  (hc:∀s'1 vs,AX mg mb C J U s'1->C7 s s'1->AR s'1 vs->Ok mg mb w A s'1 (C2 f vs (Kh key)) R):Ok mg mb w A s (AM (.Call (.Name z p) xs ks pos) env) R:=λ Q E k=>by
 refine GD (hn _ _ ?_);have hps:(MX pos (Gh xs env)).any (·.1)=Ai:=LC hp;have fin:∀s'1 vs,GI mg mb s'1->C7 s s'1->AR s'1 vs->(∃k,(k=B3\/k=BO\/k=Bt)/\LP (An pw w) s'1.heap (Ek f) k)/\As (An pw w) A (C2 f ([]++vs) (Kh key)) Q E s'1:=
  λ s'1 vs g'1 t'1 r'1=>⟨hkp s'1 g'1,hc s'1 vs (I.step t'1 g'1) t'1 r'1 Q E λ s'2 v g'2 t'2 r'2=>k s'2 v g'2 (t'1.trans t'2) r'2⟩
 induction key with
 |none=>
  subst hk;refine C9 (by show(_||Ai)=Ai;rw[hps];rfl) (λ h hh=>hh) ?_
  induction xs using Aq with
  |nil=>have h2:=hx (λ vs s'=>(∃k,(k=B3\/k=BO\/k=Bt)/\LP (An pw w) s'.heap (Ek f) k)/\As (An pw w) A (C2 f ([]++vs) []) Q E s') E λ s'1 vs g'1 t'1 r'1=>fin s'1 vs g'1 t'1 r'1;unfold evalArgs;refine Ah (A2 h2 (λ vs s' hv=>Ah (At (DI ?_))) λ u u x=>x);exact Ah (At (Ah (At (At hv))))
  |cons y ys=>rw[hp y (.head _) ys env];refine EG ?_;have h2:=hx (λ vs s'=>(λ (a:Args) s'=>(∃k,(k=B3\/k=BO\/k=Bt)/\LP (An pw w) s'.heap (Ek f) k)/\As (An pw w) A (C2 f ([]++a.pos) a.kw) Q E s') ⟨vs,[]⟩ s') E λ s'1 vs g'1 t'1 r'1=>fin s'1 vs g'1 t'1 r'1;rw[hp y (.head _) ys env] at h2;exact h2
 |some g=>
  refine Lc hk λ x' p' q' ξ4 hfn=>?_;subst ξ4;refine Db (Ir hfn) λ h1 h2 H=>?_;refine AF H λ i h3 h4=>?_;refine C9 (by rw[hps];rfl) (λ h hh=>hh) ?_
  induction xs using Aq with
  |nil=>exact nomatch hk0 rfl
  |cons y ys=>refine fK rfl (hx _ _ λ s'1 vs g'1 t'1 r'1=>xV (CQ N h1 h2 (I.step t'1 g'1) (Iu g'1 h3 h4) (kwAll_nil (fin s'1 vs g'1 t'1 r'1)))) (hp y (.head _) ys env)
theorem AU{i:Nat}{x:LV}(h:j≠i):rd (wr U i x) j=rd U j:=by rw[MF,MF,Ks,AK,AK,List.getElem?_set_ne (Ne.symm h)]
theorem CY{i:Nat}{x:LV}:rd (wr U i x) i=x\/rd (wr U i x) i=.u:=by
 rw[MF,Ks,AK]
 by_cases h:i<U.length
 ·left;rw[Kb h];rfl
 ·right;rw[Cf (by rw[FX];exact Ha h)];rfl
def D0(v:Ad)(h h':AV):Qp->Prop
 |.no=>False
 |.dict D y=>∃m,h.Ns D m/\h'.Ns D (λ z=>if z=y then Aa v else m z)/\B8 D h h'
 |.cell c=>h'.IsCell c (Aa v)/\B8 c h h'
structure Mv(wr:Aj->Prop)(gw:Nat->Prop)(s s':Af):Prop where
 heap:∀b o,¬Tb b->¬wr b->s.heap.get? b=Aa o->s'.heap.get? b=Aa o
 gens:∀j x,¬gw j->s.gens[j]?=Aa x->s'.gens[j]?=Aa x
 os:s'.os=s.os
structure CT(C:Er)(J:Nat->Aj)(U:AQ)(s:Af)(J':Nat->Aj)(U':AQ)(s':Af):Prop where
 heap:∀b o,¬Tb b->¬C.mine b->(∀i xs,rd U i=.x xs->J i≠b)->s.heap.get? b=Aa o->s'.heap.get? b=Aa o
 own:∀i xs,rd U' i=.x xs->(∃j ys,rd U j=.x ys/\J j=J' i)\/s.heap.get? (J' i)=Ae
 gens:∀(i:Nat) x,s.gens[i]?=Aa x->s'.gens[i]?=Aa x
 os:s'.os=s.os
 stay:∀b,(∃o,s.heap.get? b=Aa o)->∃o,s'.heap.get? b=Aa o
theorem CT.refl:CT C J U s J U s:=⟨λ z z z z z e=>e,λ i xs e=>.inl ⟨i,xs,e,rfl⟩,λ z z e=>e,rfl,λ z h=>h⟩
theorem CT.of_stp(t:C7 s s')(g:GI mg mb s'):CT C J U s J U s':=⟨λ b o n z z e=>t.keep b o n e,λ i xs e=>.inl ⟨i,xs,e,rfl⟩,t.gens,t.os,λ z h=>FC g t h⟩
theorem AX.own_there(I:AX mg mb C J U s){i:Nat}{xs:List V}(h:rd U i=.x xs):∃o,s.heap.get? (J i)=Aa o:=I.there _ (.inr (.inr ⟨i,xs,h,rfl⟩))
theorem CT.trans(x:CT C J U s J' U' s')(y:CT C J' U' s' J'' U'' s''):CT C J U s J'' U'' s'' where
 heap:=λ b o n m ow e=>y.heap b o n m (λ i xs h1 h2=>by
  rcases x.own i xs h1 with⟨j,ys,h3,h4⟩|h3
  ·exact ow j ys h3 (h4.trans h2)
  ·rw[h2,e] at h3;cases h3) (x.heap b o n m ow e)
 own:=λ i xs h=>by
  rcases y.own i xs h with⟨j,ys,h3,h4⟩|h3
  ·rcases x.own j ys h3 with⟨k,zs,h5,h6⟩|h5
   ·exact .inl ⟨k,zs,h5,h6.trans h4⟩
   ·exact .inr (h4▸h5)
  ·refine .inr ?_
   cases e:s.heap.get? (J'' i) with
   |none=>rfl
   |some o=>refine Aw (x.stay _ ⟨o,e⟩) λ o' e'=>?_;rw[h3] at e';exact nn e'
 gens:=λ i g e=>y.gens i g (x.gens i g e)
 os:=y.os.trans x.os
 stay:=λ b h=>y.stay b (x.stay b h)
theorem AX.noRec(I:AX mg mb C J U s){b:Aj}(h:C.mine b):EO s.heap b:=by
 rcases h with⟨i,x,e⟩|⟨i,e⟩
 ·exact AF (I.dicts b ⟨i,x,e⟩) λ m n z=>.ns n
 ·exact AF (I.cells i b e) λ v n z=>.cell n
theorem JT(N:AJ K C env){x:Str}{i:Nat}{v:Ad}(hx:lk x K.acc=Aa i)(I:AX mg mb C J U s){Q:Unit->Af->Prop}
  (h:∀h' tk,D0 v s.heap h' (C.loc i)->Q () {s with heap:=h',toks:=tk}) (hf:env.kindOf x≠Aa .free):As (An pw w) A (RM env x v) Q E s:=by
 have a:=N.acc x i hx
 cases e:C.loc i with
 |no=>rw[e] at a;induction a
 |dict D y=>rw[e] at a h;refine Db a λ ξ1 hk hl=>?_;subst ξ1;refine AF (I.dicts D ⟨i,y,e⟩) λ m n z=>wpAny_storeName_local hk (hl▸n) (λ h' hn hs=>h h' _ ⟨m,n,hl▸hn,hl▸hs⟩) ?_;rw[N.kind];rfl
 |cell c=>
  rw[e] at a h;refine A9 a λ hk hl=>AF (I.cells i c e) λ o n z=>?_;rcases hk with hk|hk
  ·exact wpAny_storeName_cell N.kind hk hl n λ h' hc hs=>h h' _ ⟨hc,hs⟩
  ·exact absurd hk hf
noncomputable def Qp.at:Qp->Option Aj
 |.no=>Ae
 |.dict D _=>Aa D
 |.cell c=>Aa c
theorem D0.same{v:Ad}{h h':AV}{l:Qp}(x:D0 v h h' l):∃a,l.at=Aa a/\B8 a h h':=by
 induction l with
 |no=>induction x
 |dict D y=>refine E3 x λ m z z e=>?_;exact⟨D,rfl,e⟩
 |cell c=>exact⟨c,rfl,x.2⟩
theorem Er.mine_of{i:Nat}{a:Aj}(h:(C.loc i).at=Aa a):C.mine a:=by
 cases e:C.loc i with
 |no=>rw[e] at h;exact nn h
 |dict D y=>rw[e] at h;obtain rfl:=sj h;exact .inl ⟨i,y,e⟩
 |cell c=>rw[e] at h;obtain rfl:=sj h;exact .inr ⟨i,e⟩
theorem D0.mv{i:Nat}{v:Ad}{h':AV}{tk:Nat}(st:D0 v s.heap h' (C.loc i)):Mv (λ b=>(C.loc i).at=Aa b) (λ y=>False) s {s with heap:=h',toks:=tk}:=AF st.same λ a ea hb=>⟨λ b o y q e=>hb.extBut b o (λ z=>q (z▸ea)) e,λ y y y e=>e,rfl⟩
theorem Mv.trans{W W':Aj->Prop}{gw gw':Nat->Prop}(a:Mv W gw s s'1)(b:Mv W' gw' s'1 s'2):Mv (λ b=>W b\/W' b) (λ j=>gw j\/gw' j) s s'2:=
 ⟨λ c o n h e=>b.heap c o n (λ q=>h (.inr q)) (a.heap c o n (λ q=>h (.inl q)) e),λ j x h e=>b.gens j x (λ q=>h (.inr q)) (a.gens j x (λ q=>h (.inl q)) e),b.os.trans a.os⟩
theorem Mv.of_stp{W:Aj->Prop}{gw:Nat->Prop}(t:C7 s s'):Mv W gw s s':=⟨λ b o n z e=>t.keep b o n e,λ j x z e=>t.gens j x e,t.os⟩
theorem Mv.weak{W W':Aj->Prop}{gw gw':Nat->Prop}(a:Mv W gw s s')(h:∀b,W b->W' b)(hg:∀j,gw j->gw' j):Mv W' gw' s s':=⟨λ b o n q e=>a.heap b o n (λ z=>q (h b z)) e,λ j x q e=>a.gens j x (λ z=>q (hg j z)) e,a.os⟩
theorem AX.setG{Y':Aj->Prop}(hY:∀b,C.Y0 b->Y' b)(I'0:AX mg mb ⟨C.loc,Y',C.base⟩ J U s'0)(t:C7 s'0 s)(g:GI mg mb s){i:Nat}{v:Ad}{h':AV}{tk:Nat}{L:LV}(st:D0 v s.heap h' (C.loc i))(hσ:∀j,j≠i->J' j=J j)
  (hr:∀V u,A6 s'0.heap (Am ⟨C.loc,Y',C.base⟩ J U) V u->A6 s.heap (Am C J' (wr U i L)) V u) (hrs:∀V u,AI s'0.heap (Am ⟨C.loc,Y',C.base⟩ J U) V u->AI s.heap (Am C J' (wr U i L)) V u) (hs:Slot s.heap (Am C J' (wr U i L)) (J' i) L (Aa v))
  (ho:∀xs,L=.x xs->¬C.Y0 (J' i)/\C.base.get? (J' i)=Ae/\¬C.mine (J' i)/\xs.length<=CN/\(∃vs,s.heap.PlainList (J' i) vs/\AI s.heap (Am C J' (wr U i L)) xs vs.toList)/\∀j ys,j≠i->rd U j=.x ys->J j≠J' i):
  AX mg mb C J' (wr U i L) {s with heap:=h',toks:=tk}:=by
 have I:=I'0.step t g;have Inew:=I.new;have Iinj:=I.inj;have Ikeep:=I.keep;have Iowns:=I'0.owns;refine AF st.same λ a ea hb=>?_;have hm:=C.mine_of ea;have hkeep:=hb.extBut;have hT:=I.gi.cls;have hsub:∀b,C.mine b->Am C J' (wr U i L) b:=λ b h=>.inr (.inl h);have up:∀V u,A6 s.heap (Am C J' (wr U i L)) V u->A6 h' (Am C J' (wr U i L)) V u:=λ V u r=>r.monoY (λ b o z hy e=>hkeep b o (λ q=>hy (q▸hsub a hm)) e) hT λ z z z y=>y;have ups:∀V u,AI s.heap (Am C J' (wr U i L)) V u->AI h' (Am C J' (wr U i L)) V u:=λ V u r=>AI.monoY (λ b o z hy e=>hkeep b o (λ q=>hy (q▸hsub a hm)) e) hT (λ z z z y=>y) r;have atb:=I.mineTb hm;have keep:DS C.base h':=λ b o n e=>hkeep b o (λ q=>by rw[q,Inew a hm] at e;cases e) (Ikeep b o n e)
 have thr:∀b,(∃o,s.heap.get? b=Aa o)->∃o,h'.get? b=Aa o:=λ b ⟨o,e⟩=>by
  by_cases q:b=a
  ·subst q
   cases e2:C.loc i with
   |no=>rw[e2] at st;cases st
   |dict D y=>rw[e2] at st ea;cases ea;refine E3 st λ m z H3 z=>?_;refine Lc H3 λ o z z ho z=>?_;exact⟨o,ho⟩
   |cell c=>rw[e2] at st ea;cases ea;refine A9 st λ ξ1 z=>?_;refine AF ξ1 λ o ho z=>?_;exact⟨o,ho⟩
  ·exact⟨o,hkeep b o q e⟩
 have slots:∀j,j≠i->∀o,Slot s'0.heap (Am ⟨C.loc,Y',C.base⟩ J U) (J j) (rd U j) o->Slot h' (Am C J' (wr U i L)) (J' j) (rd (wr U i L) j) o:=λ j hj o q=>by rw[AU hj,hσ j hj];exact q.mono λ V u r=>up V u (hr V u r)
 have slot_i:Slot h' (Am C J' (wr U i L)) (J' i) (rd (wr U i L) i) (Aa v):=by
  rcases CY with e|e
  ·rw[e];exact hs.mono up
  ·rw[e];trivial
 exact{
  gi:=I.gi.to1 I.wd0 I.keep hkeep (Inew a hm) atb (I.noRec hm)
  keep:=keep
  wd0:=I.wd0
  y0:=λ b h=>thr b (I.y0 b (hY b h))
  tb:=I.tb
  new:=I.new
  inj:=I.inj
  dicts:=λ D hD=>by
   refine AF (I'0.dicts D hD) λ m n'0 hm2=>?_;have n:=EF t.keep (I'0.mineTb (.inl hD)) n'0
   by_cases q:D=a
   ·subst q
    cases e2:C.loc i with
    |no=>rw[e2] at st;cases st
    |dict D' y=>
     rw[e2] at st ea;cases ea
     refine E3 st λ m' n' hn' z=>⟨_,hn',λ j x e=>?_⟩
     by_cases hj:j=i
     ·subst hj;rw[e2] at e;cases e
      rw[if_pos rfl];exact slot_i
     ·have hxy:x≠y:=λ q=>hj (Iinj j i (by rw[e,e2,q]) (by rw[e];nofun));rw[if_neg hxy,n'.agree n];exact slots j hj _ (hm2 j x e)
    |cell c=>
     rw[e2] at st ea;cases ea
     refine F1 hD λ j x e=>Lb n λ o1 z z h1 h2 z=>?_;refine AF (I.cells i D e2) λ v2 H2 z=>?_;refine AF H2 λ o2 h3 h4=>?_;rw[h1] at h3;cases h3;rw[h2] at h4;cases h4
   ·refine⟨m,n.at λ o e=>hkeep D o q e,λ j x e=>?_⟩;have hj:j≠i:=λ hji=>by subst hji;rw[e] at ea;cases ea;exact q rfl
    exact slots j hj _ (hm2 j x e)
  cells:=λ j c e=>by
   refine AF (I'0.cells j c e) λ v2 H2 hs2=>?_;refine AF H2 λ oc hc1 hc2=>?_;have hc:s.heap.IsCell c v2:=⟨oc,t.keep _ _ (I'0.mineTb (.inr ⟨j,e⟩)) hc1,hc2⟩
   by_cases hj:j=i
   ·subst hj;rw[e] at st;exact⟨Aa v,st.1,slot_i⟩
   ·have hca:c≠a:=λ q=>by
     subst q
     cases e2:C.loc i with
     |no=>rw[e2] at st;cases st
     |dict D' y=>
      rw[e2] at st ea;cases ea
      refine AF st λ m' H2 z=>?_;refine Lb H2 λ o1 z z h1 h2 z=>?_;refine AF hc λ o2 h3 h4=>?_;rw[h1] at h3;cases h3;rw[h2] at h4;cases h4
     |cell c'=>
      rw[e2] at ea;cases ea
      exact hj (Iinj j i (by rw[e,e2]) (by rw[e];nofun))
    exact AF hc λ o2 h3 h4=>⟨v2,⟨o2,hkeep c o2 hca h3,h4⟩,slots j hj _ hs2⟩
  owns:=λ j xs e=>by
   by_cases hj:j=i
   ·subst hj;rcases CY with e2|e2
    ·rw[e2] at e;refine rI (ho xs e) λ z h1 h2 h3 ξ5 z=>?_;refine AF ξ5 λ vs H2 h5=>?_;obtain⟨n,h4⟩:=H2;exact⟨h1,h2,h3,vs,⟨n,hkeep _ _ (λ q=>h2 (q▸hm)) h4⟩,ups _ _ h5⟩
    ·rw[e2] at e;cases e
   ·rw[AU hj] at e;rw[hσ j hj];refine CA (Iowns j xs e) λ h1 h2 h3 H=>?_;refine AF H λ vs H2 h5=>?_;obtain⟨n,h4⟩:=H2;exact⟨h1,h2,h3,vs,⟨n,hkeep _ _ (λ q=>h2 (q▸hm)) (t.keep _ _ (I'0.ownTb e) h4)⟩,ups _ _ (hrs _ _ h5)⟩
  ownY:=λ j xs e=>by
   by_cases hj:j=i
   ·subst hj;rcases CY with e2|e2
    ·rw[e2] at e;exact(ho xs e).1
    ·rw[e2] at e;cases e
   ·rw[AU hj] at e;rw[hσ j hj];exact λ h=>I'0.ownY j xs e (hY _ h)
  apart:=λ j k xs ys e1 e2 e3=>by
   by_cases hj:j=i
   ·by_cases hk:k=i
    ·rw[hj,hk]
    ·exfalso
     subst hj;rw[AU hk] at e2;rcases CY with e4|e4
     ·rw[e4] at e1;exact(ho xs e1).2.2.2.2.2 k ys hk e2 (by rw[<-hσ k hk];exact e3.symm)
     ·rw[e4] at e1;cases e1
   ·by_cases hk:k=i
    ·exfalso
     subst hk;rw[AU hj] at e1;rcases CY with e4|e4
     ·rw[e4] at e2;exact(ho ys e2).2.2.2.2.2 j xs hj e1 (by rw[<-hσ j hj];exact e3)
     ·rw[e4] at e2;cases e2
    ·rw[AU hj] at e1;rw[AU hk] at e2;exact I.apart j k xs ys e1 e2 (by rw[<-hσ j hj,<-hσ k hk];exact e3)
 }
theorem AX.set(I'0:AX mg mb C J U s'0)(t:C7 s'0 s)(g:GI mg mb s){i:Nat}{v:Ad}{h':AV}{tk:Nat}{L:LV}(st:D0 v s.heap h' (C.loc i))(hσ:∀j,j≠i->J' j=J j)
  (hr:∀V u,A6 s'0.heap (Am C J U) V u->A6 s.heap (Am C J' (wr U i L)) V u) (hrs:∀V u,AI s'0.heap (Am C J U) V u->AI s.heap (Am C J' (wr U i L)) V u) (hs:Slot s.heap (Am C J' (wr U i L)) (J' i) L (Aa v))
  (ho:∀xs,L=.x xs->¬C.Y0 (J' i)/\C.base.get? (J' i)=Ae/\¬C.mine (J' i)/\xs.length<=CN/\(∃vs,s.heap.PlainList (J' i) vs/\AI s.heap (Am C J' (wr U i L)) xs vs.toList)/\∀j ys,j≠i->rd U j=.x ys->J j≠J' i):
  AX mg mb C J' (wr U i L) {s with heap:=h',toks:=tk}:=AX.setG (λ z h=>h) I'0 t g st hσ hr hrs hs ho
theorem J7{i:Nat}{V:V}{b:Aj}(h:Am C J (wr U i (.w V)) b):Am C J U b:=by
 rcases h with h|h|⟨j,xs,e,rfl⟩
 ·exact .inl h
 ·exact .inr (.inl h)
 ·by_cases hj:j=i
  ·subst hj;rcases CY with e2|e2<;>rw[e2] at e<;>cases e
  ·rw[AU hj] at e;exact .inr (.inr ⟨j,xs,e,rfl⟩)
theorem Gm{i:Nat}{u:V}{xs:List V}(e:rd (wr U i (.w u)) j=.x xs):j≠i/\rd U j=.x xs:=by
 by_cases hj:j=i
 ·subst hj;rcases CY with e2|e2<;>rw[e2] at e<;>cases e
 ·rw[AU hj] at e;exact⟨hj,e⟩
theorem AX.set_val(I:AX mg mb C J U s){i:Nat}{v:Ad}{h':AV}{tk:Nat}{V:V}(st:D0 v s.heap h' (C.loc i))(hv:A6 s.heap (Am C J U) V v):AX mg mb C J (wr U i (.w V)) {s with heap:=h',toks:=tk}:=
 I.set (.refl s) I.gi st (λ z z=>rfl) (λ z z r=>r.mono (.refl _) I.gi.cls λ z z z y=>J7 y) (λ z z r=>AI.mono (.refl _) I.gi.cls (λ z z z y=>J7 y) r) (hv.mono (.refl _) I.gi.cls λ z z z y=>J7 y) nofun
theorem CT.set{i:Nat}{v:Ad}{h':AV}{tk:Nat}{L:LV}(I:AX mg mb C J U s)(I':AX mg mb C J' (wr U i L) {s with heap:=h',toks:=tk})(st:D0 v s.heap h' (C.loc i))
  (ho:∀j xs,rd (wr U i L) j=.x xs->(∃k ys,rd U k=.x ys/\J k=J' j)\/s.heap.get? (J' j)=Ae):CT C J U s J' (wr U i L) {s with heap:=h',toks:=tk}:=by
 refine AF st.same λ a ea hb=>?_;have hm:=C.mine_of ea;refine⟨λ b o n m z e=>hb.extBut b o (λ q=>m (q▸hm)) e,ho,λ z z e=>e,rfl,λ b h=>?_⟩
 by_cases q:b=a
 ·subst q;exact I'.mine_there hm
 ·refine Aw h λ o e=>?_;exact⟨o,hb.extBut b o q e⟩
noncomputable def EW(J:Nat->Aj)(i:Nat)(a:Aj):Nat->Aj:=λ j=>if j=i then a else J j
theorem J8{i:Nat}{xs:List V}{a b:Aj}(h:Am C (EW J i a) (wr U i (.x xs)) b):Am C J U b\/b=a:=by
 rcases h with h|h|⟨j,ys,e,rfl⟩
 ·exact .inl (.inl h)
 ·exact .inl (.inr (.inl h))
 ·by_cases hj:j=i
  ·right;unfold EW;rw[if_pos hj]
  ·rw[AU hj] at e;left;refine .inr (.inr ⟨j,ys,e,?_⟩);unfold EW;rw[if_neg hj]
theorem AX.set_own(I'0:AX mg mb C J U s'0)(t:C7 s'0 s)(g:GI mg mb s){i:Nat}{v:Ad}{h':AV}{tk:Nat}{xs:List V}(st:D0 v s.heap h' (C.loc i))(hv:iH C J U s'0 xs s v):
  ∃a,v=.ref a/\s'0.heap.get? a=Ae/\AX mg mb C (EW J i a) (wr U i (.x xs)) {s with heap:=h',toks:=tk}/\CT C J U s'0 (EW J i a) (wr U i (.x xs)) {s with heap:=h',toks:=tk}:=by
 refine A9 hv λ hz H=>?_;refine Hm H λ a us H3 ha hl hr=>?_;subst H3;have ei:EW J i a i=a:=by unfold EW;rw[if_pos rfl]
 have hY:∀b o,s'0.heap.get? b=Aa o->Am C (EW J i a) (wr U i (.x xs)) b->Am C J U b:=λ b o e y=>by
  rcases J8 y with h|rfl
  ·exact h
  ·rw[ha] at e;exact nn e
 have none0:∀{P:Aj->Prop},(∀b,P b->∃o,s'0.heap.get? b=Aa o)->¬P a:=λ h p=>by refine Aw (h a p) λ o e=>?_;rw[ha] at e;exact nn e
 have hb:C.base.get? a=Ae:=by
  cases e:C.base.get? a with
  |none=>rfl
  |some o=>
   by_cases q:Tb a
   ·refine Aw (I'0.gi.wd.tb a q) λ vs e2=>?_;rw[ha] at e2;exact nn e2
   ·rw[I'0.keep a o q e] at ha;cases ha
 have I':AX mg mb C (EW J i a) (wr U i (.x xs)) {s with heap:=h',toks:=tk}:=I'0.set t g st (λ j hj=>by unfold EW;rw[if_neg hj]) (λ z z r=>r.mono t.keep I'0.gi.cls hY) (λ z z r=>AI.mono t.keep I'0.gi.cls hY r) (by rw[ei];rfl) λ ys e=>by
   cases e
   rw[ei];refine⟨none0 λ b h=>I'0.y0_there h,hb,none0 λ b h=>I'0.mine_there h,hz,⟨us,hl,AI.mono (.refl _) g.cls (λ z z z y=>J8 y) hr⟩,λ j ys hj h q=>?_⟩;refine Aw (I'0.own_there h) λ o e=>?_;rw[q,ha] at e;exact nn e
 refine⟨a,rfl,ha,I',?_⟩;refine AF st.same λ a' ea hb'=>?_;have hm:=C.mine_of ea;refine⟨λ b o n m z e=>hb'.extBut b o (λ q=>m (q▸hm)) (t.keep b o n e),λ j ys e=>?_,λ k x e=>t.gens k x e,t.os,λ b h=>?_⟩
 ·by_cases hj:j=i
  ·right;unfold EW;rw[if_pos hj];exact ha
  ·rw[AU hj] at e;left;refine⟨j,ys,e,?_⟩;unfold EW;rw[if_neg hj]
 ·by_cases q:b=a'
  ·subst q;exact I'.mine_there hm
  ·refine Aw (FC g t h) λ o e=>?_;exact⟨o,hb'.extBut b o q e⟩
noncomputable def Er.plus(C:Er)(W:Aj->Prop):Er:={C with Y0:=λ b=>C.Y0 b\/W b}
theorem Be{W:Aj->Prop}{b:Aj}:Am (C.plus W) J U b↔Am C J U b\/W b:=
 ⟨λ h=>by
  rcases h with(h|h)|h|h
  ·exact .inl (.inl h)
  ·exact .inr h
  ·exact .inl (.inr (.inl h))
  ·exact .inl (.inr (.inr h)),λ h=>by
  rcases h with(h|h|h)|h
  ·exact .inl (.inl h)
  ·exact .inr (.inl h)
  ·exact .inr (.inr h)
  ·exact .inl (.inr h)⟩
theorem AJ.plus{W:Aj->Prop}(N:AJ K C env):AJ K (C.plus W) env:=⟨N.kind,N.acc,N.glob,N.loc,N.cell,N.free,N.gl,N.bi⟩
theorem AX.more{W:Aj->Prop}(I'0:AX mg mb C J U s'0)(t:C7 s'0 s)(g:GI mg mb s)(h0:∀b,W b->s'0.heap.get? b=Ae)(hW:∀b,W b->∃o,s.heap.get? b=Aa o):AX mg mb (C.plus W) J U s:=by
 have I:=I'0.step t g;have hY:∀b o,s'0.heap.get? b=Aa o->Am (C.plus W) J U b->Am C J U b:=λ b o e y=>by
  rcases Be.mp y with h|h
  ·exact h
  ·rw[h0 b h] at e;exact nn e
 have up:∀V u,A6 s'0.heap (Am C J U) V u->A6 s.heap (Am (C.plus W) J U) V u:=λ V u r=>r.mono t.keep I'0.gi.cls hY;exact{
  gi:=g,keep:=I.keep,wd0:=I.wd0
  y0:=λ b h=>h.elim (I.y0 b) (hW b)
  tb:=I.tb,new:=I.new,inj:=I.inj
  dicts:=λ D hD=>by exact AF (I'0.dicts D hD) λ m n h=>⟨m,EF t.keep (I'0.mineTb (.inl hD)) n,λ i x e=>(h i x e).mono up⟩
  cells:=λ i c e=>by refine AF (I'0.cells i c e) λ v H2 h=>?_;refine AF H2 λ o h1 h2=>?_;exact⟨v,⟨o,t.keep _ _ (I'0.mineTb (.inr ⟨i,e⟩)) h1,h2⟩,h.mono up⟩
  owns:=λ i xs e=>by refine CA (I'0.owns i xs e) λ h1 h2 h3 H=>?_;refine AF H λ vs H2 h5=>?_;obtain⟨n,h4⟩:=H2;exact⟨h1,h2,h3,vs,⟨n,t.keep _ _ (I'0.ownTb e) h4⟩,AI.mono t.keep I'0.gi.cls hY h5⟩
  ownY:=λ i xs e h=>h.elim (I.ownY i xs e) λ h=>by refine Aw (I'0.own_there e) λ o e2=>?_;rw[h0 _ h] at e2;exact nn e2
  apart:=I.apart}
theorem AX.less{W:Aj->Prop}(I:AX mg mb (C.plus W) J U s):AX mg mb C J U s:=by
 have hY:∀b o,s.heap.get? b=Aa o->Am C J U b->Am (C.plus W) J U b:=λ b o z y=>Be.mpr (.inl y);exact{
  gi:=I.gi,keep:=I.keep,wd0:=I.wd0
  y0:=λ b h=>I.y0 b (.inl h)
  tb:=I.tb,new:=I.new,inj:=I.inj
  dicts:=λ D hD=>by exact AF (I.dicts D hD) λ m n h=>⟨m,n,λ i x e=>(h i x e).mono λ V u r=>r.mono (.refl _) I.gi.cls hY⟩
  cells:=λ i c e=>by exact AF (I.cells i c e) λ v h1 h=>⟨v,h1,h.mono λ V u r=>r.mono (.refl _) I.gi.cls hY⟩
  owns:=λ i xs e=>by refine CA (I.owns i xs e) λ h1 h2 h3 H=>?_;refine AF H λ vs h4 h5=>?_;exact⟨h1,h2,h3,vs,h4,AI.mono (.refl _) I.gi.cls hY h5⟩
  ownY:=λ i xs e h=>I.ownY i xs e (.inl h)
  apart:=I.apart}
theorem AX.frz(I:AX mg mb C J U s){i:Nat}{xs:List V}(h:rd U i=.x xs):AX mg mb C J (wr U i (.w (.list xs))) s:=by
 have hY:∀b o,s.heap.get? b=Aa o->Am C J (wr U i (.w (.list xs))) b->Am C J U b:=λ b o z y=>J7 y;have up:∀V u,A6 s.heap (Am C J U) V u->A6 s.heap (Am C J (wr U i (.w (.list xs)))) V u:=λ V u r=>r.mono (.refl _) I.gi.cls hY;refine CA (I.owns i xs h) λ h1 h2 h3 H=>?_;refine AF H λ vs h4 h5=>?_;have slot:∀j o,Slot s.heap (Am C J U) (J j) (rd U j) o->Slot s.heap (Am C J (wr U i (.w (.list xs)))) (J j) (rd (wr U i (.w (.list xs))) j) o:=λ j o q=>by
  by_cases hj:j=i
  ·subst hj;rw[h] at q;rcases CY with e|e
   ·rw[e]
    induction o with
    |none=>exact q
    |some v=>
     refine⟨h3,J j,vs,q,λ y=>?_,h4,AI.mono (.refl _) I.gi.cls hY h5⟩;rcases y with y|y|⟨k,ys,e2,e3⟩
     ·exact I.ownY j xs h y
     ·exact h2 y
     ·have:=Gm e2;exact this.1 (I.apart k j ys xs this.2 h e3)
   ·rw[e];trivial
  ·rw[AU hj];exact q.mono up
 exact{
  gi:=I.gi,keep:=I.keep,wd0:=I.wd0,y0:=I.y0,tb:=I.tb,new:=I.new,inj:=I.inj
  dicts:=λ D hD=>by exact AF (I.dicts D hD) λ m n hm=>⟨m,n,λ i x e=>slot i _ (hm i x e)⟩
  cells:=λ i c e=>by exact AF (I.cells i c e) λ v q1 q2=>⟨v,q1,slot i _ q2⟩
  owns:=λ j ys e=>by refine CA (I.owns j ys (Gm e).2) λ q1 q2 q3 H=>?_;refine AF H λ us q4 q5=>?_;exact⟨q1,q2,q3,us,q4,AI.mono (.refl _) I.gi.cls hY q5⟩
  ownY:=λ j ys e=>I.ownY j ys (Gm e).2
  apart:=λ j k ys zs e1 e2 e3=>I.apart j k ys zs (Gm e1).2 (Gm e2).2 e3}
theorem CT.frz{i:Nat}{xs:List V}:CT C J U s J (wr U i (.w (.list xs))) s:=⟨λ z z z z z e=>e,λ j ys e=>.inl ⟨j,ys,(Gm e).2,rfl⟩,λ z z e=>e,rfl,λ z h=>h⟩
theorem CT.hY(f:CT C J U s J' U' s'):∀b o,s.heap.get? b=Aa o->Am C J' U' b->Am C J U b:=λ b o e y=>by
 rcases y with y|y|⟨i,xs,h,rfl⟩
 ·exact .inl y
 ·exact .inr (.inl y)
 ·rcases f.own i xs h with⟨j,ys,h1,h2⟩|h1
  ·exact .inr (.inr ⟨j,ys,h1,h2⟩)
  ·rw[h1] at e;exact nn e
theorem CT.keepY(f:CT C J U s J' U' s'):∀b o,¬Tb b->¬Am C J U b->s.heap.get? b=Aa o->s'.heap.get? b=Aa o:=λ b o n y e=>f.heap b o n (λ q=>y (.inr (.inl q))) (λ i xs h q=>y (.inr (.inr ⟨i,xs,h,q⟩))) e
theorem CT.rep(f:CT C J U s J' U' s')(g:GI mg mb s){V:V}{v:Ad}(r:A6 s.heap (Am C J U) V v):A6 s'.heap (Am C J' U') V v:=r.monoY f.keepY g.cls f.hY
theorem CT.reps(f:CT C J U s J' U' s')(g:GI mg mb s){V:List V}{v:List Ad}(r:AI s.heap (Am C J U) V v):AI s'.heap (Am C J' U') V v:=AI.monoY f.keepY g.cls f.hY r
theorem NK{x:Str}{i:Nat}(h:F8 K x i=Ab)(N:AJ K C env):lk x K.acc=Aa i/\TX x=Ab/\env.kindOf x≠Aa .free:=by
 have h:=B6 h;refine A9 (Gb h.1) λ h1 h2=>⟨h1,h2,λ h4=>?_⟩;rcases of_decide_eq_true h.2 with e|e
 ·cases (N.loc x e).symm.trans h4
 ·cases (N.cell x e).symm.trans h4
theorem Mr(N:AJ K C env){x:Str}{i:Nat}{v:Ad}{V:V}(hx:F8 K x i=Ab)(I:AX mg mb C J U s)(hv:A6 s.heap (Am C J U) V v){Q:Unit->Af->Prop}
  (k:∀s',AX mg mb C J (wr U i (.w V)) s'->CT C J U s J (wr U i (.w V)) s'->Mv (λ b=>(C.loc i).at=Aa b) (λ z=>False) s s'->Q () s'):As (An pw w) A (RM env x v) Q E s:=by
 refine Db (NK hx N) λ h1 h2 h3=>JT N h1 I (λ h' tk st=>?_) h3;have I':=I.set_val (tk:=tk) st hv;exact k _ I' (CT.set I I' st λ j xs e=>.inl ⟨j,xs,(Gm e).2,rfl⟩) st.mv
theorem asgN(N:AJ K C env):∀(is:List Nat) (es:List Ac) (Vs:List V) (vs:List Ad) (U U':AQ) (s:Af),F9 K is es=Ab->KM is Vs U=Aa U'->AI s.heap (Am C J U) Vs vs->AX mg mb C J U s->
  ∀(Q:Unit->Af->Prop) (E:Ad->Af->Prop),(∀s',AX mg mb C J U' s'->CT C J U s J U' s'->Mv (λ b=>∃i∈is,(C.loc i).at=Aa b) (λ z=>False) s s'->Q () s')->As (An pw w) A (H0 ((Et es env).map (·.2)) vs) Q E s:=by
 intro is
 induction is with
 |nil=>
  intro es Vs vs U U' s hc hs hr I Q E k
  induction es using Aq with
  |cons=>exact nf hc
  |nil=>
   induction Vs using Aq with
   |nil=>obtain rfl:=sj hs;subst hr;exact wpAny_assignInOrder_none (k s I .refl (Mv.of_stp (.refl s)))
   |cons=>exact nn hs
 |cons i is ih=>
  intro es Vs vs U U' s hc hs hr I Q E k
  induction es using Aq with
  |nil=>exact nf hc
  |cons e es=>
   refine KV hc λ x p hc1 hc2=>?_
   induction Vs using Aq with
   |nil=>exact nn hs
   |cons V Vs=>refine El hr λ v vs H3 h1 h2=>?_;subst H3;have hs':=hs;refine Gi (Fk (Mr N hc1 I h1 λ s'1 I'1 f'1 m'1=>?_));exact ih es Vs vs _ U' s'1 hc2 hs' (f'1.reps I.gi h2) I'1 Q E λ s'2 I'2 f'2 m'2=>k s'2 I'2 (f'1.trans f'2) ((m'1.trans m'2).weak (λ b h=>h.elim (λ h=>⟨i,.head _,h⟩) λ ⟨j,hj,h⟩=>⟨j,.tail _ hj,h⟩) λ j h=>h.elim id id)
theorem S8{is:List Nat}{es:List Ac}(h:F9 K is es=Ab):(Et es env).length=is.length/\(Et es env).findIdx? (·.1)=Ae:=
 Mm (P:=λ is es=>(Et es env).length=is.length/\(Et es env).findIdx? (·.1)=Ae) ⟨rfl,rfl⟩ (λ x p i is es z z ih=>⟨congrArg (·+1) ih.1,by show List.findIdx? _ ((Ai,EH (.Name x p) env)::Et es env)=Ae;rw[List.findIdx?_cons,ih.2];rfl⟩) h
theorem Sk:∀{is:List Nat} {Vs:List V} {U U':AQ},KM is Vs U=Aa U'->is.length=Vs.length
:=@λ is=>by
 induction is with
 |nil=>
  intro vs U U' h
  induction vs using Aq with
  |nil=>rfl
  |cons v vs=>exact nn h
 |cons i is IH=>
  intro vs U U' h
  induction vs using Aq with
  |nil=>exact nn h
  |cons v vs=>exact congrArg Nat.succ (IH (show KM is vs (wr U i (.w v))=Aa U' from h))
theorem Nf(N:AJ K C env)(hh:A.handled=Ae){t:Tg}{v:Ad}{V:V}(hc:F5 K t tg=Ab)(hb:Ck t V U=Aa U')(hv:A6 s.heap (Am C J U) V v)(I:AX mg mb C J U s){Q:Unit->Af->Prop}
  (k:∀s',AX mg mb C J U' s'->CT C J U s J U' s'->Mv (λ b=>∃i∈t.vars,(C.loc i).at=Aa b) (λ z=>False) s s'->Q () s'):As (An pw w) A (EH tg env v) Q E s:=by
 cases t with
 |one i=>
  cases hb
  exact aK hc λ x hc hx=>nE hc λ p=>Fk (Mr N hx I hv λ s'1 I'1 f'1 m'1=>k s'1 I'1 f'1 (m'1.weak (λ b h=>⟨_,.head _,h⟩) λ z h=>h))
 |m is=>
  refine aK hc λ es hc hxn=>?_;refine F1 (JE hc) λ n p H3=>?_;subst H3
  cases V<;>first|exact nn hb|skip
  rename_i Vs;have hb':=hb;refine tE hv λ hz T us z hT hr=>A9 (S8 (env:=env) hxn) λ h1 h2=>?_;have e:us.size=Vs.length:=by rw[<-Ax];exact hr.length
  refine assign_Tuple_tuple hh hT (by rw[h1,e];exact Sk hb') h2 λ h' hx=>?_;have hk:∀b o,s.heap.get? b=Aa o->h'.get? b=Aa o:=λ b o e=>hx b o (Ci (AT e)) e;have t:C7 s {s with heap:=h'}:=.all hk s.toks;have g:=I.gi.all hk s.toks;exact asgN N is es Vs us.toList U U' _ hxn hb' (hr.step I.gi t) (I.step t g) Q E λ s'2 I'2 f'2 m'2=>k s'2 I'2 ((CT.of_stp t g).trans f'2) (((Mv.of_stp t).trans m'2).weak (λ b h=>h.elim id id) λ j h=>h.elim id id)
set_option backward.match.sparseCases true
def LG(Y:Aj->Prop)(s'0 s:Af):Prop:=∀b o,¬Tb b->¬Y b->s'0.heap.get? b=Aa o->s.heap.get? b=Aa o
structure G5(mg mb:Str->Option Ad)(w:B2)(A:Br)(tg:Ac)(I:Aj)(xs:List V)(Y:Aj->Prop)(B:AV)(s'0:Af)(wr:Aj->Prop)(gw:Nat->Prop)(St:Nat->Af->Prop):Prop where
 new:∀b,wr b->s'0.heap.get? b=Ae
 newg:∀j,gw j->s'0.gens[j]?=Ae
 there:∀i s,St i s->∀b,wr b->∃o,s.heap.get? b=Aa o
 frame:∀i s s',St i s->(∀b o,wr b->s.heap.get? b=Aa o->s'.heap.get? b=Aa o)->(∀j x,gw j->s.gens[j]?=Aa x->s'.gens[j]?=Aa x)->St i s'
 item:∀i x s,xs[i]?=Aa x->St i s->GI mg mb s->LG Y s'0 s->DS B s.heap->∀(Q:Ad->Af->Prop) (E:Ad->Af->Prop) (Qn:Af->Prop),
  (∀s'2 v,GI mg mb s'2->Mv wr gw s s'2->St (i+1) s'2->(∀Y':Aj->Prop,(∀b,Y' b->∃o,s.heap.get? b=Aa o)->(∀b,Y' b->Y b\/s'0.heap.get? b=Ae)->A6 s'2.heap Y' x v)->Q v s'2)->
  As (An pw w) A (D7 (.ref I)) (λ r s'1=>match r with|none=>Qn s'1|some v=>As (An pw w) A (Bh tg (.ref I) v) (λ z s'2=>Q v s'2) E s'1) E s
 done:∀s,St xs.length s->GI mg mb s->LG Y s'0 s->DS B s.heap->∀(Q:Af->Prop) (E:Ad->Af->Prop) (Qs:Ad->Af->Prop),(∀s'2,GI mg mb s'2->Mv wr gw s s'2->Q s'2)->
  As (An pw w) A (D7 (.ref I)) (λ r s'1=>match r with|none=>Q s'1|some v=>Qs v s'1) E s
 self:∀i s,i<=xs.length->St i s->LG Y s'0 s->∀(Q:Ad->Af->Prop) (E:Ad->Af->Prop),Q (.ref I) s->As (An pw w) A (MZ (.ref I)) Q E s
theorem LG.rep{Y Y':Aj->Prop}(f:LG Y s'0 s)(g:GI mg mb s'0)(hY:∀b,Y' b->Y b\/s'0.heap.get? b=Ae){x:V}{v:Ad}(r:A6 s'0.heap Y x v):A6 s.heap Y' x v:=
 r.monoY f g.cls λ b o e y=>(hY b y).elim id λ h=>by rw[h] at e;exact nn e
theorem Ug{I:Aj}{v:Ad}{o:Obj}{n:String}{Q:Unit->Af->Prop}(ho:s.heap.get? I=Aa o)(hc:o.cls=.type n)(hn:["enumerate","zip","dict_itemiterator","dict_reverseitemiterator","odict_iterator","itertools.zip_longest","itertools.pairwise"].contains n=Ai) (h:Q () s):
  As (An pw w) A (Bh tg (.ref I) v) Q E s:=by
 induction tg using Hj<;>first|exact At h|skip
 all_goals
  induction v<;>first|exact At h|skip
  refine Ah (wpAny_load ho ?_);rw[hc];generalize o.data=d
  induction d<;>first|exact At h|skip
  show As (An pw w) A (if(_&&_)=Ab then _ else pure ()) Q E s;rw[hn];exact At h
theorem G5.of_walks{I:Aj}{xs:List V}{Y:Aj->Prop}{fp:List Aj}{P:Nat->Ad->Prop}{St Sti:Nat->AV->Prop}{T:String}(W:Walks pw w A I fp [I] n P St)(hn:n=xs.length)
  (wdB:Wd mg mb B) (hB:∀b,I=b->B.get? b=Ae) (hTB:∀b,Tb b->∃o,B.get? b=Aa o) (hnew:s'0.heap.get? I=Ae)
  (hT:["enumerate","zip","dict_itemiterator","dict_reverseitemiterator","odict_iterator","itertools.zip_longest","itertools.pairwise"].contains T=Ai)
  (hcl:∀i h,Sti i h->∃o,h.get? I=Aa o/\o.cls=.type T) (hnr:∀i h,Sti i h->EO h I) (hfr:∀i h h',Sti i h->(∀o,h.get? I=Aa o->h'.get? I=Aa o)->Sti i h')
  (mk:∀i s,i<=n->Sti i s.heap->LG Y s'0 s->St i s.heap) (un:∀i h,St i h->Sti i h)
  (rep:∀i v x s,P i v->xs[i]?=Aa x->LG Y s'0 s->∀Y':Aj->Prop,(∀b,Y' b->Y b\/s'0.heap.get? b=Ae)->A6 s.heap Y' x v):
  G5 mg mb w A tg I xs Y B s'0 (λ b=>b=I) (λ z=>False) (λ i s=>Sti i s.heap) where
 new:=λ b e=>by subst e;exact hnew
 newg:=λ z h=>h.elim
 there:=λ i s h b e=>by subst e;refine AF (hcl i _ h) λ o ho z=>?_;exact⟨o,ho⟩
 frame:=λ i s s' h hk z=>hfr i _ _ h λ o e=>hk I o rfl e
 item:=λ i x s hx st g f kb Q E Qn k=>by
  have hi:i<n:=by
   rw[hn];rcases CV i xs.length with h|h
   ·exact h
   ·rw[Cf h] at hx;exact nn hx
  refine W.item i s _ _ hi (mk i s (B9 hi) st f) λ v h' tk hP hst hk=>?_;have sti:=un _ _ hst;refine AF (hcl _ _ sti) λ o ho hc=>?_;have hk':∀b o,b≠I->s.heap.get? b=Aa o->h'.get? b=Aa o:=λ b o e=>hk b o (λ q=>e (List.mem_singleton.mp q));have g':GI mg mb {s with heap:=h',toks:=tk}:=g.to1 wdB kb hk' (hB I rfl) (λ t=>Aw (hTB I t) λ o e=>by rw[hB I rfl] at e;exact nn e) (hnr _ _ st);refine Ug ho hc hT (k _ v g' ⟨λ b o z q e=>hk' b o q e,λ z z z e=>e,rfl⟩ sti λ Y' z hY=>rep i v x _ hP hx (λ b o n y e=>?_) Y' hY);exact hk' b o (λ q=>by rw[q,hnew] at e;exact nn e) (f b o n y e)
 done:=λ s st g f kb Q E Qs k=>by refine W.done s _ _ (hn▸mk xs.length s (by rw[hn];exact A1 _) st f) λ h' tk hk=>?_;have hk':∀b o,b≠I->s.heap.get? b=Aa o->h'.get? b=Aa o:=λ b o e=>hk b o (λ q=>e (List.mem_singleton.mp q));have g':GI mg mb {s with heap:=h',toks:=tk}:=g.to1 wdB kb hk' (hB I rfl) (λ t=>Aw (hTB I t) λ o e=>by rw[hB I rfl] at e;exact nn e) (hnr _ _ st);exact k _ g' ⟨λ b o z q e=>hk' b o q e,λ z z z e=>e,rfl⟩
 self:=λ i s hi st f Q E h=>W.self i s Q E (mk i s (hn▸hi) st f) h
set_option backward.match.sparseCases false
def H9(mg mb:Str->Option Ad)(w:B2)(C:Er)(A:Br)(U:AQ)(tg:Ac)(t:Sem Ad)(xs:List V):Prop:=
 ∀J s,AX mg mb C J U s->∀(Q:Ad->Af->Prop) (E:Ad->Af->Prop),
  (∀s'0 s'1 I wr gw St,C7 s s'0->GI mg mb s'0->C7 s'0 s'1->GI mg mb s'1->G5 mg mb w A tg I xs (Am C J U) C.base s'0 wr gw St->St 0 s'1->Q (.ref I) s'1)->
  As (An pw w) A t (λ x s'=>As (An pw w) A (MZ x) Q E s') E s
theorem KO{a b c:Int}:(Hq a b c).length=(CK a b c).toNat:=by unfold Hq;rw[Ag,C3]
theorem NA{a b c:Int}{i:Nat}{x:V}(h:(Hq a b c)[i]?=Aa x):x=.int (a+i*c):=by unfold Hq at h;rw[Ba] at h;refine mK h λ j e h=>?_;subst h;refine Aw (List.getElem?_eq_some_iff.mp e) λ hlt e2=>?_;rw[List.getElem_range] at e2;rw[e2]
structure Uy(a b c:Int):Prop where
 sm:Builtin.Range.small a b c=Ab
 sz:CK a b c=((CK a b c).toNat:Int)
 ne:c≠0
 np:A7 (b - a) c=Ai
theorem Pa{i j c:Int}{xs:List V}(h:Dc i j c=Aa xs):xs=Hq i j c/\Uy i j c:=iK h λ h h'=>CJ h λ h1 h2=>CJ h1 λ h3 h4=>CJ h2 λ h5 h6=>⟨(sj h').symm,h3,(H1 (of_decide_eq_true h4)).symm,of_decide_eq_true h5,(BG _).mp h6⟩
theorem Ew(h:AV):h.get? h.objs.size=Ae:=by
 cases e:h.get? h.objs.size with
 |none=>rfl
 |some o=>exact absurd (AT e) (Ch _)
theorem DY(I:AX mg mb C J U s){a:Aj}(h:s.heap.get? a=Ae):C.base.get? a=Ae:=by
 cases e:C.base.get? a with
 |none=>rfl
 |some o=>
  by_cases q:Tb a
  ·refine Aw (I.gi.wd.tb a q) λ vs e2=>?_;rw[h] at e2;exact nn e2
  ·rw[I.keep a o q e] at h;cases h
theorem SH(hh:A.handled=Ae){xs:List V}{l:Aj}{vs:Array Ad}(I:AX mg mb C J U s)(hy:¬Am C J U l)(hl:s.heap.PlainList l vs)(hr:AI s.heap (Am C J U) xs vs.toList):
  G5 mg mb w A tg s.heap.objs.size xs (Am C J U) C.base s (λ b=>b=s.heap.objs.size) (λ z=>False) (λ i s'=>s'.heap.IsListIter s.heap.objs.size l i):=by
 have e:vs.size=xs.length:=by rw[<-Ax];exact hr.length
 refine Aw (id hl) λ n ho=>?_;have hlt:=AT ho;have ntb:¬Tb l:=λ t=>by cases I.gi.cls l _ t ho
 refine G5.of_walks (Walks.list hh s.heap.objs.size l (Ci hlt) vs) e I.wd0 (λ b q=>q▸DY I (Ew _)) I.tb (Ew _) (by decide)
  (λ i h ⟨o,h1,h2,h3⟩=>⟨o,h1,h2⟩) (λ i h ⟨o,h1,_,h3⟩ o' vs q t e d=>by rw[h1] at e;obtain rfl:=sj e;rw[h3] at d;cases d;nofun) (λ i h h' st k=>st.at k) (λ i s' z st f=>⟨st,⟨_,f l _ ntb hy ho,rfl,n,rfl⟩⟩) (λ i h st=>st.1) λ i v x s' hP hx f Y' hY=>?_
 have q:=hr.nth hx (by rw[A8];exact hP);exact f.rep I.gi hY q
theorem T8(hh:A.handled=Ae){xs:List V}(hx:Cg mg mb w C A U (AM x env) (.list xs)):H9 mg mb w C A U tg (AM x env) xs:=λ J s I Q E k=>by refine hx J s I _ _ λ s'1 v g'1 t'1 r'1=>?_;have I'1:=I.step t'1 g'1;exact lE r'1 λ hz l vs hy hl hr=>wpAny_pyIter_list hl.isList<|k s'1 _ _ _ _ _ t'1 g'1 (.push _ s'1.toks) (g'1.push _ s'1.toks) (SH hh I'1 hy hl hr) ⟨_,AW _ rfl,rfl,rfl⟩
theorem mO(hh:A.handled=Ae){xs:List V}(hx:Cg mg mb w C A U (AM x env) (.tup xs)):H9 mg mb w C A U tg (AM x env) xs:=λ J s I Q E k=>by
 refine hx J s I _ _ λ s'1 v g'1 t'1 r'1=>?_;have I'1:=I.step t'1 g'1;refine tE r'1 λ hz l vs hy hl hr=>?_;have e:vs.size=xs.length:=by rw[<-Ax];exact hr.length
 refine E3 (id hl) λ o ho hc H=>?_;refine Aw H λ n hd=>?_;have hlt:=AT ho;have ntb:¬Tb l:=λ t=>by have:=g'1.cls l _ t ho;rw[hc] at this;cases this
 refine wpAny_pyIter_tuple hl ?_;refine k s'1 _ _ _ _ _ t'1 g'1 (.push _ s'1.toks) (g'1.push _ s'1.toks) (G5.of_walks (Walks.tuple hh s'1.heap.objs.size l (Ci hlt) vs) e I.wd0 (λ b q=>q▸DY I'1 (Ew _)) I.tb (Ew _) (by decide)
  (λ i h ⟨o,h1,h2,h3⟩=>⟨o,h1,h2⟩) (λ i h ⟨o,h1,_,h3⟩ o' vs q t e d=>by rw[h1] at e;obtain rfl:=sj e;rw[h3] at d;cases d;nofun) (λ i h h' st k=>st.at k) (λ i s' z st f=>⟨st,⟨_,f l _ ntb hy ho,hc,n,hd⟩⟩) (λ i h st=>st.1) λ i v x s' hP hx f Y' hY=>?_) ⟨_,AW _ rfl,rfl,rfl⟩
 have q:=hr.nth hx (by rw[A8];exact hP);exact f.rep g'1 hY q
theorem So(hh:A.handled=Ae){r:Aj}{i j c:Int}{t u v:Tok}(I:AX mg mb C J U s'1)(hr:IsRange s'1.heap r i j c t u v)(hsm:Uy i j c)
  (k:∀s'0 s'2 I wr gw St,C7 s'1 s'0->GI mg mb s'0->C7 s'0 s'2->GI mg mb s'2->G5 mg mb w A tg I (Hq i j c) (Am C J U) C.base s'0 wr gw St->St 0 s'2->Q (.ref I) s'2):As (An pw w) A (MZ (.ref r)) Q E s'1:=by
 refine wpAny_pyIter_range hr hsm.sm ?_;refine k s'1 _ _ _ _ _ (.refl s'1) I.gi (.push _ s'1.toks) (I.gi.push _ s'1.toks) (G5.of_walks (Sti:=λ k h=>IsRangeIter h s'1.heap.objs.size (i+(k:Nat)*c) (((Hq i j c).length:Int) - (k:Nat)) c) (Walks.range hh s'1.heap.objs.size i c (Hq i j c).length) rfl I.wd0 (λ b q=>q▸DY I (Ew _)) I.tb (Ew _) (by decide)
  (λ i h st=>⟨_,st,rfl⟩) (λ i h st o' vs q t e d=>by rw[show h.get? _=_ from st] at e;obtain rfl:=sj e;cases d;nofun) (λ i h h' st k=>k _ st) (λ i s' z st f=>st) (λ i h st=>st) λ k v x s' hP hx f Y' hY=>?_) ?_
 ·refine Aw hP λ t H2=>?_;subst H2;rw[NA hx];exact⟨t,rfl⟩
 ·have e:(i+((0:Nat):Int)*c)=i:=(congrArg (i+·) (Int.zero_mul c)).trans (Int.add_zero i);have e2:(((Hq i j c).length:Int) - ((0:Nat):Int))=CK i j c:=by rw[KO,<-hsm.sz];exact Int.sub_zero _
  rw[e,e2];exact AW _ rfl
theorem UX(hh:A.handled=Ae){xs:List V}{l:Aj}{vs:Array Ad}(I:AX mg mb C J U s)(hy:¬Am C J U l)(hl:s.heap.PlainList l vs)(hr:AI s.heap (Am C J U) xs vs.toList):
  G5 mg mb w A tg s.heap.objs.size xs.reverse (Am C J U) C.base s (λ b=>b=s.heap.objs.size) (λ z=>False) (λ i s'=>s'.heap.IsRevIter s.heap.objs.size l ((vs.size:Int) - 1 - (i:Int))):=by
 have e:vs.size=xs.length:=by rw[<-Ax];exact hr.length
 refine Aw (id hl) λ n ho=>?_;have hlt:=AT ho;have ntb:¬Tb l:=λ t=>by cases I.gi.cls l _ t ho
 refine G5.of_walks (Walks.listRev hh s.heap.objs.size l (Ci hlt) vs) (by rw[Da];exact e) I.wd0 (λ b q=>q▸DY I (Ew _)) I.tb (Ew _) (by decide)
  (λ i h ⟨o,h1,h2,h3⟩=>⟨o,h1,h2⟩) (λ i h ⟨o,h1,_,h3⟩ o' vs q t e d=>by rw[h1] at e;obtain rfl:=sj e;rw[h3] at d;cases d;nofun) (λ i h h' st k=>st.at k) (λ i s' hi st f=>⟨hi,st,⟨_,f l _ ntb hy ho,rfl,n,rfl⟩⟩) (λ i h st=>st.2.1) λ i v x s' hP hx f Y' hY=>?_
 have hi:i<xs.length:=by
  rcases CV i xs.length with h|h
  ·exact h
  ·rw[Cf (by rw[Da];exact h)] at hx;exact nn hx
 rw[KD hi] at hx;have q:=hr.nth hx (by rw[A8,<-e];exact hP);exact f.rep I.gi hY q
theorem OR{P:Ac->Prop}(h:P x):∀u∈[x],P u:=λ u hu=>List.mem_singleton.mp hu▸h
theorem OQ{P:Ac->Prop}(h:P x)(h':P y):∀u∈[x,y],P u:=λ u hu=>(AL.mp hu).elim (λ e=>e▸h) λ e=>OR h' u e
theorem Tm{P:Ac->Prop}(h:P x)(h':P y)(h'':P z):∀u∈[x,y,z],P u:=λ u hu=>(AL.mp hu).elim (λ e=>e▸h) λ e=>OQ h' h'' u e
inductive iI(mg mb:Str->Option Ad)(w:B2)(C:Er)(A:Br)(J:Nat->Aj)(U:AQ)(tg:Ac)(xs:List V)(s s':Af):Ad->Prop
 |mk (s'0:Af) (I:Aj) (wr:Aj->Prop) (gw:Nat->Prop) (St:Nat->Af->Prop) (t0:C7 s s'0) (g0:GI mg mb s'0) (t1:C7 s'0 s') (T:G5 mg mb w A tg I xs (Am C J U) C.base s'0 wr gw St) (st:St 0 s'):iI mg mb w C A J U tg xs s s' (.ref I)
theorem XI{xs:List V}{t:Sem Ad}(h:∀J s,AX mg mb C J U s->Ok mg mb w A s t (iI mg mb w C A J U tg xs s)):H9 mg mb w C A U tg t xs:=λ J s I Q E k=>by
 refine h J s I _ _ λ s' v g' t' h=>?_
 induction h with
 |mk s'0 I wr gw St t0 g0 t1 T st=>exact T.self 0 s' (Bj _) st (λ b o n y e=>t1.keep b o n e) Q E (k s'0 s' I wr gw St t0 g0 t1 g' T st)
theorem DG.one(hx:Cg mg mb w C A U (AM x env) a)(hp:Bo x):DG mg mb w C A U [x] env [a]:=Dz hx hp Ov
theorem DG.two(hx:Cg mg mb w C A U (AM x env) a)(hp:Bo x)(hy:Cg mg mb w C A U (AM y env) b)(hq:Bo y):DG mg mb w C A U [x,y] env [a,b]:=Dz hx hp (Dz hy hq Ov)
theorem mP(N:AJ K C env)(hh:A.handled=Ae){xs:List V}{f:Str}{p pos:Pos}(hf:HJ K f "reversed"=Ab) (hx:Cg mg mb w C A U (AM x env) (.list xs)) (hp:Bo x):H9 mg mb w C A U tg (AM (.Call (.Name f p) [x] [] pos) env) xs.reverse:=by
 refine U7 hf λ h1 h2=>?_;refine XI λ J s I=>C6 (key:=Ae) N I (OR hp) rfl (λ h=>by cases h)
  (λ Q E k=>Ee N h1 h2 I (by decide+kernel) (by decide+kernel) (by decide+kernel) k) (DG.one hx hp pos J s I) (λ s' g=>CM (f:=.type "reversed") (λ z e=>(by cases e)) _) λ s'1 vs I'1 t'1 r'1=>?_
 refine E3 r'1.one λ v H2 hz H=>?_;refine Hm H λ l us H3 hy hl hr=>?_;subst H3;subst H2;intro Q E k;refine call_reversed_list hl.isList<|k _ _ (I'1.gi.push _ s'1.toks) (.push _ s'1.toks) ⟨s'1,_,_,_,_,t'1,I'1.gi,.push _ s'1.toks,UX hh I'1 hy hl hr,?_⟩;refine⟨_,AW _ rfl,rfl,?_⟩;show Wa #[.ref l,MW ((us.size:Int) - 1)]=Wa #[.ref l,MW ((us.size:Int) - 1 - ((0:Nat):Int))];simp
theorem AI.three{h:AV}{Y:Aj->Prop}{c:V}{vs:List Ad}(r:AI h Y [a,b,c] vs):∃v u t,vs=[v,u,t]/\A6 h Y a v/\A6 h Y b u/\A6 h Y c t:=by obtain⟨v,vs',rfl,h1,u,us,rfl,h2,t,ts,rfl,h3,rfl⟩:=r;exact⟨v,u,t,rfl,h1,h2,h3⟩
def qD(us:List V)(i j c:Int):Prop:=(us=[.int j]/\i=0/\c=1)\/(us=[.int i,.int j]/\c=1)\/us=[.int i,.int j,.int c]
def Zl(i j c:Int)(s':Af)(v:Ad):Prop:=∃r t u t',v=.ref r/\IsRange s'.heap r i j c t u t'
theorem AI.int{h:AV}{Y:Aj->Prop}{i:Int}{us:List V}{vs:List Ad}(r:AI h Y (.int i::us) vs):∃t vs',vs=.int i t::vs'/\AI h Y us vs':=by refine El r λ v vs' e h1 h2=>Aw h1 λ t h1=>?_;subst h1;exact⟨t,vs',e,h2⟩
theorem YZ{us:List V}{i j c:Int}{vs:List Ad}(ra:qD us i j c)(ok:Uy i j c)(g:GI mg mb s)(r:AI s.heap (Am C J U) us vs):Ok mg mb w A s (C2 (.type "range") vs []) λ s' v=>Zl i j c s' v:=by
 rcases ra with⟨rfl,rfl,rfl⟩|⟨rfl,rfl⟩|rfl
 ·refine E1 r.int λ t vs' e r1=>?_;subst e;obtain rfl:vs'=[]:=r1;exact λ Q E k=>call_range_1 (k _ _ (g.push _ _) (.push _ _) ⟨_,_,_,_,rfl,Tu ..⟩)
 ·refine E1 r.int λ t vs' e r1=>E1 r1.int λ t2 vs2 e2 r2=>?_;subst e e2;obtain rfl:vs2=[]:=r2;exact λ Q E k=>call_range_2 (k _ _ (g.push _ _) (.push _ _) ⟨_,_,_,_,rfl,Tu ..⟩)
 ·refine E1 r.int λ t vs' e r1=>E1 r1.int λ t2 vs2 e2 r2=>E1 r2.int λ t3 vs3 e3 r3=>?_;subst e e2 e3;obtain rfl:vs3=[]:=r3;exact λ Q E k=>call_range_3 ok.ne (k _ _ (g.push _ _) (.push _ _) ⟨_,_,_,_,rfl,Tu ..⟩) (.inl ok.np)
theorem TL(N:AJ K C env){us:List V}{i j c:Int}{f:Str}{p pos:Pos}{xs:List Ac}(hf:HJ K f "range"=Ab) (ra:qD us i j c) (ok:Uy i j c) (hx:DG mg mb w C A U xs env us) (hp:∀u∈xs,Bo u) (I:AX mg mb C J U s):
  Ok mg mb w A s (AM (.Call (.Name f p) xs [] pos) env) λ s' v=>Zl i j c s' v:=by
 refine U7 hf λ h1 h2=>?_;exact C6 (key:=Ae) N I hp rfl (λ z=>rfl)
  (λ Q E k=>Ee N h1 h2 I (by decide+kernel) (by decide+kernel) (by decide+kernel) k) (hx pos J s I) (λ s' g=>CM (λ z e=>(by cases e)) _) λ s'1 vs I'1 t'1 r'1=>YZ ra ok I'1.gi r'1
theorem SM(N:AJ K C env)(hh:A.handled=Ae){us ys:List V}{i j c:Int}{f:Str}{p pos:Pos}{xs:List Ac}(hf:HJ K f "range"=Ab) (ra:qD us i j c) (hx:DG mg mb w C A U xs env us) (hp:∀u∈xs,Bo u) (hr:Dc i j c=Aa ys):H9 mg mb w C A U tg (AM (.Call (.Name f p) xs [] pos) env) ys:=λ J s I Q E k=>by refine A9 (Pa hr) λ ξ1 ok=>?_;subst ξ1;refine TL N hf ra ok hx hp I _ _ λ s'2 v g'2 t'2 h=>?_;refine iJ h λ r t u t' ξ5 hr=>?_;subst ξ5;exact So hh (I.step t'2 g'2) hr ok λ s'0 s'3 σ wr gw St t0 g0 t1 g1 T st=>k s'0 s'3 σ wr gw St (t'2.trans t0) g0 t1 g1 T st
theorem cV(N:AJ K C env)(hh:A.handled=Ae){j:Int}{xs:List V}{f:Str}{p pos:Pos}(hf:HJ K f "range"=Ab) (hx:Cg mg mb w C A U (AM x env) (.int j)) (hp:Bo x) (hr:Dc 0 j 1=Aa xs):H9 mg mb w C A U tg (AM (.Call (.Name f p) [x] [] pos) env) xs:=
 SM N hh hf (.inl ⟨rfl,rfl,rfl⟩) (DG.one hx hp) (OR hp) hr
theorem cU(N:AJ K C env)(hh:A.handled=Ae){i j:Int}{xs:List V}{f:Str}{p pos:Pos}(hf:HJ K f "range"=Ab) (hx:Cg mg mb w C A U (AM x env) (.int i)) (hp:Bo x) (hy:Cg mg mb w C A U (AM y env) (.int j)) (hq:Bo y) (hr:Dc i j 1=Aa xs):
  H9 mg mb w C A U tg (AM (.Call (.Name f p) [x,y] [] pos) env) xs:=SM N hh hf (.inr (.inl ⟨rfl,rfl⟩)) (DG.two hx hp hy hq) (OQ hp hq) hr
theorem cT(N:AJ K C env)(hh:A.handled=Ae){i j c:Int}{xs:List V}{f:Str}{p pos:Pos}(hf:HJ K f "range"=Ab) (hx:Cg mg mb w C A U (AM x env) (.int i)) (hp:Bo x) (hy:Cg mg mb w C A U (AM y env) (.int j)) (hq:Bo y)
  (hz:Cg mg mb w C A U (AM z env) (.int c)) (hq':Bo z) (hr:Dc i j c=Aa xs):
  H9 mg mb w C A U tg (AM (.Call (.Name f p) [x,y,z] [] pos) env) xs:=SM N hh hf (.inr (.inr rfl)) (Dz hx hp (DG.two hy hq hz hq')) (Tm hp hq hq') hr
theorem Wh{as bs:List V}:(LS as bs).length=min as.length bs.length:=List.length_zipWith
theorem Wj{as bs:List V}{i:Nat}{x:V}(h:(LS as bs)[i]?=Aa x):∃p q,x=.tup [p,q]/\as[i]?=Aa p/\bs[i]?=Aa q:=
 El (List.getElem?_zipWith_eq_some.mp h) λ p q h1 h2 h3=>⟨p,q,h3.symm,h1,h2⟩
def zD(m b:Nat):Prop:=b=m+4\/b=m+2\/b=m+3\/b=m\/b=m+1
theorem rG{m b:Nat}(h:zD m b):m<=b:=by
 rcases h with rfl|rfl|rfl|rfl|rfl
 ·exact Cr _ _
 ·exact Cr _ _
 ·exact Cr _ _
 ·exact A1 _
 ·exact Cr _ _
theorem R2{m b:Nat}(h:¬zD m b):b∉[m+4,m+3,m,m+1]:=λ q=>h (by
 rcases AL.mp q with q|q
 ·exact .inl q
 ·rcases AL.mp q with q|q
  ·exact .inr (.inr (.inl q))
  ·rcases AL.mp q with q|q
   ·exact .inr (.inr (.inr (.inl q)))
   ·exact .inr (.inr (.inr (.inr (List.mem_singleton.mp q)))))
theorem qA(m l k:Nat)(h:l<m)(h':k<m):ZipApart (m+4) (m+2) (m+3) m (m+1) l k:=by constructor<;>(intro (e:(_:Nat)=_);omega)
structure iD(m:Aj)(l k:Aj)(i:Nat)(h:AV):Prop where
 h1:IsZip h (m+4) (m+2) (m+3) .none
 h2:IsPair h (m+2) (.ref m) (.ref (m+1))
 h3:∃a b,IsPair h (m+3) a b
 h4:h.IsListIter m l i
 h5:h.IsListIter (m+1) k i
structure ZL(l k:Aj)(us vs:Array Ad)(h:AV):Prop where
 l1:h.PlainList l us
 l2:h.PlainList k vs
theorem iD.nr{h:AV}{m l k i b:Nat}(z:iD m l k i h)(hb:zD m b):EO h b:=λ o vs q tk e d=>by
 rcases hb with rfl|rfl|rfl|rfl|rfl
 ·rw[show h.get? (m+4)=_ from z.h1] at e;obtain rfl:=sj e;cases d;nofun
 ·rw[show h.get? (m+2)=_ from z.h2] at e;obtain rfl:=sj e;cases d
 ·refine F1 z.h3 λ p r h3=>?_;rw[show h.get? (m+3)=_ from h3] at e;obtain rfl:=sj e;cases d
 ·refine E3 (id z.h4) λ o4 h4 y d4=>?_;rw[h4] at e;obtain rfl:=sj e;rw[d4] at d;cases d;nofun
 ·refine E3 (id z.h5) λ o4 h4 y d4=>?_;rw[h4] at e;obtain rfl:=sj e;rw[d4] at d;cases d;nofun
theorem iD.there{h:AV}{m l k i b:Nat}(z:iD m l k i h)(hb:zD m b):∃o,h.get? b=Aa o:=by
 rcases hb with rfl|rfl|rfl|rfl|rfl
 ·exact⟨_,z.h1⟩
 ·exact⟨_,z.h2⟩
 ·exact F1 z.h3 λ p q h3=>⟨_,h3⟩
 ·exact AF (id z.h4) λ o4 h4 y=>⟨_,h4⟩
 ·exact AF (id z.h5) λ o4 h4 y=>⟨_,h4⟩
theorem iD.frame{h h':AV}{m l k i:Nat}(z:iD m l k i h)(hk:∀b o,zD m b->h.get? b=Aa o->h'.get? b=Aa o):iD m l k i h':=
 ⟨hk _ _ (.inl rfl) z.h1,hk _ _ (.inr (.inl rfl)) z.h2,F1 z.h3 λ p q h3=>⟨p,q,hk _ _ (.inr (.inr (.inl rfl))) h3⟩,z.h4.at λ o e=>hk _ o (.inr (.inr (.inr (.inl rfl)))) e,z.h5.at λ o e=>hk _ o (.inr (.inr (.inr (.inr rfl)))) e⟩
theorem UI(hh:A.handled=Ae){as bs:List V}{l k:Aj}{us vs:Array Ad}{elts:List Ac}{pos:Pos}(I:AX mg mb C J U s)(hy:¬Am C J U l)(hl:s.heap.PlainList l us)(hr:AI s.heap (Am C J U) as us.toList)
  (hy':¬Am C J U k) (hl':s.heap.PlainList k vs) (hr':AI s.heap (Am C J U) bs vs.toList) (m:Nat) (hm:m=s.heap.objs.size):
  G5 mg mb w A (.Tuple elts n pos) (m+4) (LS as bs) (Am C J U) C.base s (zD m) (λ z=>False) λ i s'=>iD m l k i s'.heap:=by
 have hlen:(LS as bs).length=min us.size vs.size:=by rw[Wh,<-hr.length,<-hr'.length,Ax,Ax]
 have hlt:=Aw (id hl) λ n1 ho=>hm▸AT ho;have hlt':=Aw (id hl') λ n1 ho=>hm▸AT ho;have ntb:¬Tb l:=λ t=>Aw (id hl) λ n1 ho=>nomatch I.gi.cls l _ t ho;have ntb':¬Tb k:=λ t=>Aw (id hl') λ n1 ho=>nomatch I.gi.cls k _ t ho;have nw:∀b,zD m b->s.heap.get? b=Ae:=λ b hb=>by
  cases e:s.heap.get? b with
  |none=>rfl
  |some o=>exact absurd (hm▸AT e) (Nat.not_lt.mpr (rG hb))
 have W:=WalksT.zip2 (prog:=pw) (w:=w) hh (m+4) (m+2) (m+3) m (m+1) l k (qA m l k hlt hlt') us vs;have hB:∀b o,C.base.get? b=Aa o->¬zD m b:=λ b o e h=>by rw[DY I (nw b h)] at e;exact nn e
 have hT:∀b,zD m b->¬Tb b:=λ b h q=>Aw (I.tb b q) λ o e=>hB b o e h;have lists:∀{t:Af},LG (Am C J U) s t->ZL l k us vs t.heap:=λ f=>⟨Aw (id hl) λ n1 ho=>⟨n1,f l _ ntb hy ho⟩,Aw (id hl') λ n1 ho=>⟨n1,f k _ ntb' hy' ho⟩⟩;refine⟨nw,λ z h=>h.elim,λ i s' st b hb=>st.there hb,λ i s'1 s'2 st hk z=>st.frame hk,?_,?_,λ i t hi st f Q E h=>wpAny_pyIter_zip st.h1 h⟩
 ·intro i x t hx st g f kb Q E Qn kk;have Lt:=lists f;have hi:=hlen▸(List.getElem?_eq_some_iff.mp hx).1;refine W.item i t _ _ hi ⟨st.h1,st.h2,st.h3,st.h4,st.h5,Lt.l1.isList,Lt.l2.isList⟩ λ T vals h' tk hP hsz hT' hmid hk=>W.go elts n pos i T {t with heap:=h',toks:=tk} _ _ hmid λ h'' hst hk2=>?_;have kk2:∀b o,¬zD m b->t.heap.get? b=Aa o->h''.get? b=Aa o:=λ b o h e=>hk2 b o (R2 h) (hk b o (R2 h) e);have hT2:=hT'.at λ o e=>hk2 T o (W.apart i T h' hmid) e;refine El hP λ p q hp hq ξ5=>?_;subst ξ5;refine kk {t with heap:=h'',toks:=tk} (.ref T) (g.to I.wd0 kb kk2 hB hT λ b h=>st.nr h) ⟨λ b o z h e=>kk2 b o h e,λ z z z e=>e,rfl⟩ ⟨hst.1,hst.2.1,hst.2.2.1,hst.2.2.2.1,hst.2.2.2.2.1⟩ λ Y' hex hY=>?_;refine El (Wj hx) λ a' b' H3 ha hb=>?_;subst H3;have ra:=hr.nth ha (by rw[A8];exact hp);have rb:=hr'.nth hb (by rw[A8];exact hq);have ff:LG (Am C J U) s {t with heap:=h'',toks:=tk}:=λ b o n y e=>kk2 b o (λ q=>by rw[nw b q] at e;exact nn e) (f b o n y e);refine⟨(show(2:Nat)<=CN by decide),T,_,rfl,λ y=>?_,hT2,p,_,rfl,ff.rep I.gi hY ra,q,_,rfl,ff.rep I.gi hY rb,rfl⟩;exact Aw (hex T y) λ o e=>absurd (AT e) (Nat.not_lt.mpr hsz)
 ·intro t st g f kb Q E Qs kk;have Lt:=lists f;rw[hlen] at st;refine W.done t _ _ ⟨st.h1,st.h2,st.h3,st.h4,st.h5,Lt.l1.isList,Lt.l2.isList⟩ λ h' tk hk=>?_;have hk':∀b o,¬zD m b->t.heap.get? b=Aa o->h'.get? b=Aa o:=λ b o h e=>hk b o (R2 h) e;exact kk _ (g.to I.wd0 kb hk' hB hT λ b h=>st.nr h) ⟨λ b o z h e=>hk' b o h e,λ z z z e=>e,rfl⟩
theorem mN(N:AJ K C env)(hh:A.handled=Ae){as bs:List V}{f:Str}{p pos:Pos}{elts:List Ac}{tp:Pos}(hf:HJ K f "zip"=Ab) (hx:Cg mg mb w C A U (AM x env) (.list as)) (hp:Bo x) (hy:Cg mg mb w C A U (AM y env) (.list bs)) (hq:Bo y):
  H9 mg mb w C A U (.Tuple elts n tp) (AM (.Call (.Name f p) [x,y] [] pos) env) (LS as bs):=by
 refine U7 hf λ h1 h2=>?_;refine XI λ J s I=>C6 (key:=Ae) N I (OQ hp hq) rfl (λ h=>by cases h)
  (λ Q E k=>Ee N h1 h2 I (by decide+kernel) (by decide+kernel) (by decide+kernel) k) (DG.two hx hp hy hq pos J s I) (λ s' g=>CM (f:=.type "zip") (λ z e=>(by cases e)) _) λ s'1 vs I'1 t'1 r'1=>?_
 refine Hm r'1.two λ v u H3 ξ4 hz' H=>?_;refine Hm H λ k' vs H3 hy' hl' hr'=>?_;subst H3;subst H3;refine A9 ξ4 λ hz H=>?_;obtain⟨l,us,rfl,hy,hl,hr⟩:=H;intro Q E k;exact call_zip_2 hl.isList hl'.isList λ h' z1 z2 z3 z4 z5 z6 hk=>k _ _ (I'1.gi.all hk s'1.toks) (.all hk s'1.toks) ⟨s'1,_,_,_,_,t'1,I'1.gi,.all hk s'1.toks,UI hh I'1 hy hl hr hy' hl' hr' _ rfl,⟨z1,z2,⟨_,_,z3⟩,z4,z5⟩⟩
def Ot(C:Er)(J:Nat->Aj)(U:AQ)(fl:Fl)(f:Gj)(s:Af):Prop:=match fl with
 |.next=>f=.next
 |.ret V=>∃v,f=.ret v/\A6 s.heap (Am C J U) V v
 |.reto xs=>∃i,rd U i=.x xs/\f=.ret (.ref (J i))
def D1(mg mb:Str->Option Ad)(w:B2)(C:Er)(A:Br)(U:AQ)(t:Sem Gj)(res:Fl×AQ):Prop:=
 ∀J s,AX mg mb C J U s->∀(Q:Gj->Af->Prop) (E:Ad->Af->Prop),(∀J' s' f,AX mg mb C J' res.2 s'->CT C J U s J' res.2 s'->Ot C J' res.2 res.1 f s'->Q f s')->As (An pw w) A t Q E s
structure To(mg mb:Str->Option Ad)(w:B2)(A:Br)(tg:Ac)(I:Aj)(xs:List V)(Y:Aj->Prop)(B:AV)(s'0:Af)(gw:Nat->Prop)(St:Nat->(Aj->Prop)->Af->Prop):Prop where
 new:∀i W s,St i W s->∀b,W b->s'0.heap.get? b=Ae
 newg:∀j,gw j->s'0.gens[j]?=Ae
 there:∀i W s,St i W s->∀b,W b->∃o,s.heap.get? b=Aa o
 frame:∀i W s s',St i W s->(∀b o,W b->s.heap.get? b=Aa o->s'.heap.get? b=Aa o)->(∀j x,gw j->s.gens[j]?=Aa x->s'.gens[j]?=Aa x)->St i W s'
 item:∀i x W s,xs[i]?=Aa x->St i W s->GI mg mb s->LG Y s'0 s->DS B s.heap->∀(Q:Ad->Af->Prop) (E:Ad->Af->Prop) (Qn:Af->Prop),
  (∀s'2 v Wm W',GI mg mb s'2->Mv Wm gw s s'2->(∀b,Wm b->W b\/s.heap.get? b=Ae)->(∀b,W' b->W b\/s.heap.get? b=Ae)->St (i+1) W' s'2->(∀Y':Aj->Prop,(∀b,Y' b->W' b\/((∃o,s.heap.get? b=Aa o)/\(Y b\/s'0.heap.get? b=Ae)))->A6 s'2.heap Y' x v)->Q v s'2)->
  As (An pw w) A (D7 (.ref I)) (λ r s'1=>match r with|none=>Qn s'1|some v=>As (An pw w) A (Bh tg (.ref I) v) (λ z s'2=>Q v s'2) E s'1) E s
 done:∀W s,St xs.length W s->GI mg mb s->LG Y s'0 s->DS B s.heap->∀(Q:Af->Prop) (E:Ad->Af->Prop) (Qs:Ad->Af->Prop),(∀s'2,GI mg mb s'2->Mv W gw s s'2->Q s'2)->
  As (An pw w) A (D7 (.ref I)) (λ r s'1=>match r with|none=>Q s'1|some v=>Qs v s'1) E s
def Zk(mg mb:Str->Option Ad)(w:B2)(C:Er)(A:Br)(U:AQ)(tg:Ac)(t:Sem Ad)(xs:List V):Prop:=
 ∀J s,AX mg mb C J U s->∀(Q:Ad->Af->Prop) (E:Ad->Af->Prop),
  (∀s'0 s'1 I gw St W,C7 s s'0->GI mg mb s'0->C7 s'0 s'1->GI mg mb s'1->To mg mb w A tg I xs (Am C J U) C.base s'0 gw St->St 0 W s'1->Q (.ref I) s'1)->
  As (An pw w) A t (λ x s'=>As (An pw w) A (MZ x) Q E s') E s
section
variable{W:Aj->Prop}{gw:Nat->Prop}
theorem CT.unplus(f:CT (C.plus W) J U s J' U' s'):CT C J U s J' U' s':=⟨f.heap,f.own,f.gens,f.os,f.stay⟩
theorem CT.mv(f:CT C J U s'0 J' U' s)(m:Mv W gw s s'2)(g:GI mg mb s'2)(hW:∀b,W b->s'0.heap.get? b=Ae)(hg:∀j,gw j->s'0.gens[j]?=Ae):CT C J U s'0 J' U' s'2 where
 heap:=λ b o n h1 h2 e=>m.heap b o n (λ q=>by rw[hW b q] at e;exact nn e) (f.heap b o n h1 h2 e)
 own:=f.own
 gens:=λ i x e=>m.gens i x (λ q=>by rw[hg i q] at e;exact nn e) (f.gens i x e)
 os:=m.os.trans f.os
 stay:=λ b h=>by
  by_cases q:Tb b
  ·refine Aw (g.wd.tb b q) λ vs e=>?_;exact⟨_,e⟩
  ·exact Aw (f.stay b h) λ o e=>Aw h λ o' e'=>⟨o,m.heap b o q (λ q=>by rw[hW b q] at e';exact nn e') e⟩
theorem AX.mvG{Wm W':Aj->Prop}(I:AX mg mb (C.plus W) J U s)(m':Mv Wm gw s s'2)(g:GI mg mb s'2)(hm:∀b,W b->¬C.mine b)(h0:∀b,W b->¬C.Y0 b)(hb:∀b,W b->C.base.get? b=Ae)(hWm:∀b,Wm b->W b\/s.heap.get? b=Ae)(hs:∀b,W' b->W b\/s.heap.get? b=Ae)(hW:∀b,W' b->∃o,s'2.heap.get? b=Aa o):AX mg mb (C.plus W') J U s'2:=by
 have m:Mv W gw s s'2:=⟨λ b o n q e=>m'.heap b o n (λ h=>(hWm b h).elim q λ h=>by rw[h] at e;exact nn e) e,m'.gens,m'.os⟩;have kY:∀b o,¬Tb b->¬Am (C.plus W) J U b->s.heap.get? b=Aa o->s'2.heap.get? b=Aa o:=λ b o n y e=>m.heap b o n (λ q=>y (Be.mpr (.inr q))) e;have hY:∀b o,s.heap.get? b=Aa o->Am (C.plus W') J U b->Am (C.plus W) J U b:=λ b o e y=>Be.mpr ((Be.mp y).imp id λ h=>(hs b h).elim id λ h=>by rw[h] at e;exact nn e);have up:∀V u,A6 s.heap (Am (C.plus W) J U) V u->A6 s'2.heap (Am (C.plus W') J U) V u:=λ V u r=>r.monoY kY I.gi.cls hY;have stay:∀b,¬W b->(∃o,s.heap.get? b=Aa o)->∃o,s'2.heap.get? b=Aa o:=λ b q ⟨o,e⟩=>by
  by_cases t:Tb b
  ·refine Aw (g.wd.tb b t) λ vs e=>?_;exact⟨_,e⟩
  ·exact⟨o,m.heap b o t q e⟩
 exact{
  gi:=g
  keep:=λ b o n e=>m.heap b o n (λ q=>by have e:C.base.get? b=Aa o:=e;rw[hb b q] at e;exact nn e) (I.keep b o n e)
  wd0:=I.wd0
  y0:=λ b h=>h.elim (λ h=>stay b (λ q=>h0 b q h) (I.y0 b (.inl h))) (hW b)
  tb:=I.tb,new:=I.new,inj:=I.inj
  dicts:=λ D hD=>by refine AF (I.dicts D hD) λ mm n h=>?_;have hmD:C.mine D:=.inl hD;exact⟨mm,n.at λ o e=>m.heap D o (I.mineTb hmD) (λ q=>hm D q hmD) e,λ i x e=>(h i x e).mono up⟩
  cells:=λ i c e=>by refine AF (I.cells i c e) λ v H2 h=>?_;refine AF H2 λ o h1 h2=>?_;have hmD:C.mine c:=.inr ⟨i,e⟩;exact⟨v,⟨o,m.heap _ _ (I.mineTb hmD) (λ q=>hm c q hmD) h1,h2⟩,h.mono up⟩
  owns:=λ i xs e=>by refine CA (I.owns i xs e) λ h1 h2 h3 H=>?_;refine AF H λ vs H2 h5=>?_;obtain⟨n,h4⟩:=H2;exact⟨h1,h2,h3,vs,⟨n,m.heap _ _ (I.ownTb e) (λ q=>I.ownY i xs e (.inr q)) h4⟩,AI.monoY kY I.gi.cls hY h5⟩
  ownY:=λ i xs e h=>I.ownY i xs e (h.imp id λ h=>(hs _ h).elim id λ h=>by refine Aw (I.own_there e) λ o e2=>?_;rw[h] at e2;exact nn e2)
  apart:=I.apart}
theorem AX.mv0{W':Aj->Prop}(I:AX mg mb (C.plus W) J U s)(m:Mv W gw s s'2)(g:GI mg mb s'2)(hm:∀b,W b->¬C.mine b)(h0:∀b,W b->¬C.Y0 b)(hb:∀b,W b->C.base.get? b=Ae)(hs:∀b,W' b->W b)(hW:∀b,W' b->∃o,s'2.heap.get? b=Aa o):AX mg mb (C.plus W') J U s'2:=
 I.mvG m g hm h0 hb (λ z h=>.inl h) (λ b h=>.inl (hs b h)) hW
theorem Hg(I'0:AX mg mb C J U s'0)(h:∀b,W b->s'0.heap.get? b=Ae):(∀b,W b->¬C.mine b)/\(∀b,W b->¬C.Y0 b)/\(∀b,W b->C.base.get? b=Ae)/\(∀b,W b->¬Tb b):=
 ⟨λ b q m=>(by refine Aw (I'0.mine_there m) λ o e=>?_;rw[h b q] at e;exact nn e),
 λ b q m=>(by refine Aw (I'0.y0_there m) λ o e=>?_;rw[h b q] at e;exact nn e),
 λ b q=>DY I'0 (h b q),
 λ b q t=>(by refine Aw (I'0.gi.wd.tb b t) λ vs e=>?_;rw[h b q] at e;exact nn e)⟩
theorem QL{res r:Fl×AQ}{L:AQ->Option (Fl×AQ)}{f:Gj}(hl:E9 r L=Aa res)(ok:Ot C J r.2 r.1 f s):(f=.next/\L r.2=Aa res)\/∃v,f=.ret v/\r=res:=by
 obtain⟨fl,U'⟩:=r
 induction fl with
 |next=>exact .inl ⟨ok,hl⟩
 |ret V=>obtain rfl:=sj hl;exact AF ok λ v e q=>.inr ⟨v,e,rfl⟩
 |reto ys=>obtain rfl:=sj hl;exact AF ok λ i hi e=>.inr ⟨_,e,rfl⟩
theorem Ot.less{f:Gj}(g:GI mg mb s)(ok:Ot (C.plus W) J U fl f s):Ot C J U fl f s:=by
 induction fl with
 |ret V=>refine AF ok λ v e q=>?_;exact⟨v,e,q.mono (.refl _) g.cls λ b o z y=>Be.mpr (.inl y)⟩
 |_=>exact ok
theorem Yr(N:AJ K C env)(hh:A.handled=Ae){t:Tg}{body:List CU}{xs:List V}{i:Nat}{x:V}{b:AQ->Option (Fl×AQ)}{L:AQ->Option (Fl×AQ)}{res:Fl×AQ}{σ:Aj}{St:Nat->(Aj->Prop)->Af->Prop}(ht:F5 K t tg=Ab)(T:To mg mb w A tg σ xs (Am C J U) C.base s'0 gw St)
  (hb:∀C' U res,AJ K C' env->b U=Aa res->D1 mg mb w C' A U (B4 body env) res) (hl:((Ck t x U').bind λ U'=>(b U').bind λ r=>E9 r L)=Aa res) (I'0:AX mg mb C J U s'0) (hx:xs[i]?=Aa x) (I':AX mg mb (C.plus W) J' U' s') (st:St i W s') (f:CT C J U s'0 J' U' s') {Q:Gj->Af->Prop} {Qn:Af->Prop} {E:Ad->Af->Prop}
  (k:∀W' σ4 s'4 fl r,AX mg mb (C.plus W') σ4 r.2 s'4->St (i+1) W' s'4->CT C J U s'0 σ4 r.2 s'4->E9 r L=Aa res->Ot C σ4 r.2 r.1 fl s'4->Q fl s'4):
  As (An pw w) A (D7 (.ref σ)) (λ r s'1=>match r with|none=>Qn s'1|some v=>As (An pw w) A (Bh tg (.ref σ) v) (λ z s'2=>As (An pw w) A (EH tg env v) (λ z s'3=>As (An pw w) A (B4 body env) Q E s'3) E s'2) E s'1) E s':=by
 refine CA (Hg I'0 (T.new i W s' st)) λ hm h0 hB hTb=>T.item i x W s' hx st I'.gi f.keepY I'.keep _ _ _ λ s'2 v Wm W' g'2 m2' hWm hnew st'2 hrep=>?_;have m'2:Mv W gw s' s'2:=⟨λ b o n q e=>m2'.heap b o n (λ h=>(hWm b h).elim q λ h=>by rw[h] at e;exact nn e) e,m2'.gens,m2'.os⟩;have I'2:=I'.mvG m2' g'2 hm h0 hB hWm hnew (T.there _ _ _ st'2);refine CA (Hg I'0 (T.new (i+1) W' s'2 st'2)) λ hm' h0' hB' hTb'=>?_;have f'2:=f.mv m'2 g'2 (T.new _ _ _ st) T.newg;have rv:=hrep _ λ b y=>by
  rcases Be.mp y with y|y
  ·refine .inr ⟨I'.less.there b y,?_⟩
   cases e:s'0.heap.get? b with
   |none=>exact .inr rfl
   |some o=>exact .inl (f.hY b o e y)
  ·exact .inl y
 refine bK hl λ U'1 hb1 hl2=>bK hl2 λ r hb2 hl3=>Nf N.plus hh ht hb1 rv I'2 λ s'3 I'3 f'3 z=>hb (C.plus W') U'1 r N.plus hb2 J' s'3 I'3 _ _ λ σ4 s'4 fl I'4 f'4 ok=>?_;have f34:=f'3.trans f'4;exact k W' σ4 s'4 fl r I'4 (T.frame _ _ _ _ st'2 (λ b o q e=>f34.heap b o (hTb' b q) (hm' b q) (λ j ys h h'=>I'2.ownY j ys h (.inr (h'▸q))) e) λ j x z e=>f34.gens j x e) (f'2.trans f34.unplus) hl3 (ok.less I'4.gi)
theorem Uk(N:AJ K C env)(hh:A.handled=Ae){t:Tg}{it:Ac}{body:List CU}{pos:Pos}{xs:List V}{b:AQ->Option (Fl×AQ)}{res:Fl×AQ}(ht:F5 K t tg=Ab)(hit:Zk mg mb w C A U tg (AM it env) xs)
  (hb:∀C' U res,AJ K C' env->b U=Aa res->D1 mg mb w C' A U (B4 body env) res) (hr:B7 t b xs U=Aa res) (hs:∀x,BB it env x=pure x):
  D1 mg mb w C A U (DP (.For tg it body [] pos) env) res:=λ J s I Q E k=>by
 refine wpAny_For (hit J s I _ _ λ s'0 s'1 σ gw St W'0 t0 g0 t1 g1 T st0=>?_) hs;have I'0:=I.step t0 g0;refine codeAny_forLoop_any (λ n s'=>∃i J' U' W,i<=xs.length/\n=xs.length+1 - i/\AX mg mb (C.plus W) J' U' s'/\St i W s'/\CT C J U s'0 J' U' s'/\B7 t b (xs.drop i) U'=Aa res) ?_ (xs.length+1)
  ⟨0,J,U,W'0,Bj _,rfl,I'0.more t1 g1 (T.new 0 W'0 s'1 st0) (T.there 0 W'0 s'1 st0),st0,CT.of_stp t1 g1,by rw[K9];exact hr⟩
 rintro n s' ⟨i,J',U',W,hi,rfl,I',st,f,hl⟩
 rcases CV i xs.length with hlt|hge
 ·rw[List.drop_eq_getElem_cons hlt] at hl;refine Yr N hh ht T hb hl I'0 (Ar hlt) I' st f λ W' σ4 s'4 fl r I'4 st4 f'4 hl3 ok=>?_;rcases QL hl3 ok with⟨rfl,h⟩|⟨v,rfl,rfl⟩
  ·exact⟨_,by omega,i+1,σ4,r.2,W',hlt,rfl,I'4,st4,f'4,h⟩
  ·exact k σ4 s'4 _ I'4.less ((CT.of_stp t0 g0).trans f'4) ok
 ·have hie:=EP hi hge;subst hie;refine CA (Hg I'0 (T.new _ W s' st)) λ hm h0 hB hTb=>T.done W s' st I'.gi f.keepY I'.keep _ _ _ λ s'2 g'2 m'2=>CO ?_;rw[List.drop_length] at hl;obtain rfl:=sj hl;exact k J' s'2 _ (I'.mv0 (W':=λ z=>False) m'2 g'2 hm h0 hB (λ b h=>h.elim) λ b h=>h.elim).less ((CT.of_stp t0 g0).trans (f.mv m'2 g'2 (T.new _ _ _ st) T.newg)) rfl
theorem H9.toG{t:Sem Ad}{xs:List V}(h:H9 mg mb w C A U tg t xs):Zk mg mb w C A U tg t xs:=λ J s I Q E k=>h J s I Q E λ s'0 s'1 σ wr gw St t0 g0 t1 g1 T st0=>
 k s'0 s'1 σ gw (λ i W s=>(∀b,W b↔wr b)/\St i s) wr t0 g0 t1 g1 ⟨λ i W s st b h=>T.new b ((st.1 b).mp h),T.newg,λ i W s st b h=>T.there i s st.2 b ((st.1 b).mp h),λ i W s s' st hk hg=>⟨st.1,T.frame i s s' st.2 (λ b o h=>hk b o ((st.1 b).mpr h)) hg⟩,
  λ i x W s hx st g fr kb Q E Qn kk=>T.item i x s hx st.2 g fr kb Q E Qn λ s'2 v g'2 m'2 st'2 hrep=>kk s'2 v W wr g'2 (m'2.weak (λ b h=>(st.1 b).mpr h) λ z h=>h) (λ b h=>.inl h) (λ b h=>.inl ((st.1 b).mpr h)) ⟨λ z=>VY,st'2⟩ λ Y' hY'=>hrep Y' (λ b y=>(hY' b y).elim (T.there i s st.2 b) (·.1)) λ b y=>(hY' b y).elim (λ h=>.inr (T.new b h)) (·.2),
  λ W s st g fr kb Q E Qs kk=>T.done s st.2 g fr kb Q E Qs λ s'2 g'2 m'2=>kk s'2 g'2 (m'2.weak (λ b h=>(st.1 b).mpr h) λ z h=>h)⟩ ⟨λ z=>VY,st0⟩
theorem nR(N:AJ K C env)(hh:A.handled=Ae){t:Tg}{it:Ac}{body:List CU}{pos:Pos}{xs:List V}{b:AQ->Option (Fl×AQ)}{res:Fl×AQ}(ht:F5 K t tg=Ab)(hit:H9 mg mb w C A U tg (AM it env) xs)
  (hb:∀C' U res,AJ K C' env->b U=Aa res->D1 mg mb w C' A U (B4 body env) res) (hr:B7 t b xs U=Aa res) (hs:∀x,BB it env x=pure x):
  D1 mg mb w C A U (DP (.For tg it body [] pos) env) res:=Uk N hh ht hit.toG hb hr hs
end
section
variable{W:Aj->Prop}{gw:Nat->Prop}
theorem AX.mvY(I:AX mg mb C J U s)(m:Mv W gw s s'2)(g:GI mg mb s'2)(hm:∀b,W b->¬C.mine b)(h0:∀b,W b->C.Y0 b)(hb:∀b,W b->C.base.get? b=Ae)(hW:∀b,W b->∃o,s'2.heap.get? b=Aa o):AX mg mb C J U s'2:=by
 have kY:∀b o,¬Tb b->¬Am C J U b->s.heap.get? b=Aa o->s'2.heap.get? b=Aa o:=λ b o n y e=>m.heap b o n (λ q=>y (.inl (h0 b q))) e;have up:∀V u,A6 s.heap (Am C J U) V u->A6 s'2.heap (Am C J U) V u:=λ V u r=>r.monoY kY I.gi.cls λ z z z y=>y;have stay:∀b,¬W b->(∃o,s.heap.get? b=Aa o)->∃o,s'2.heap.get? b=Aa o:=λ b q ⟨o,e⟩=>by
  by_cases t:Tb b
  ·refine Aw (g.wd.tb b t) λ vs e=>?_;exact⟨_,e⟩
  ·exact⟨o,m.heap b o t q e⟩
 exact{
  gi:=g
  keep:=λ b o n e=>m.heap b o n (λ q=>by rw[hb b q] at e;exact nn e) (I.keep b o n e)
  wd0:=I.wd0
  y0:=λ b h=>by
   by_cases q:W b
   ·exact hW b q
   ·exact stay b q (I.y0 b h)
  tb:=I.tb,new:=I.new,inj:=I.inj
  dicts:=λ D hD=>by refine AF (I.dicts D hD) λ mm n h=>?_;have hmD:C.mine D:=.inl hD;exact⟨mm,n.at λ o e=>m.heap D o (I.mineTb hmD) (λ q=>hm D q hmD) e,λ i x e=>(h i x e).mono up⟩
  cells:=λ i c e=>by refine AF (I.cells i c e) λ v H2 h=>?_;refine AF H2 λ o h1 h2=>?_;have hmD:C.mine c:=.inr ⟨i,e⟩;exact⟨v,⟨o,m.heap _ _ (I.mineTb hmD) (λ q=>hm c q hmD) h1,h2⟩,h.mono up⟩
  owns:=λ i xs e=>by refine CA (I.owns i xs e) λ h1 h2 h3 H=>?_;refine AF H λ vs H2 h5=>?_;obtain⟨n,h4⟩:=H2;exact⟨h1,h2,h3,vs,⟨n,m.heap _ _ (I.ownTb e) (λ q=>I.ownY i xs e (h0 _ q)) h4⟩,AI.monoY kY I.gi.cls (λ z z z y=>y) h5⟩
  ownY:=I.ownY
  apart:=I.apart}
theorem LB(h:∀j,rd U'0 j=rd U j\/rd U'0 j=.u){b:Aj}(y:Am C J U'0 b):Am C J U b:=by
 rcases y with y|y|⟨j,xs,e,e2⟩
 ·exact .inl y
 ·exact .inr (.inl y)
 ·rcases h j with q|q
  ·exact .inr (.inr ⟨j,xs,by rw[<-q];exact e,e2⟩)
  ·rw[q] at e;cases e
theorem AX.forget(I:AX mg mb C J U s)(h:∀j,rd U'0 j=rd U j\/rd U'0 j=.u):AX mg mb C J U'0 s:=by
 have hY:∀b o,s.heap.get? b=Aa o->Am C J U'0 b->Am C J U b:=λ b o z y=>LB h y;have slot:∀j o,Slot s.heap (Am C J U) (J j) (rd U j) o->Slot s.heap (Am C J U'0) (J j) (rd U'0 j) o:=λ j o q=>by
  rcases h j with e|e
  ·rw[e];exact q.mono λ V u r=>r.mono (.refl _) I.gi.cls hY
  ·rw[e];trivial
 have own:∀j xs,rd U'0 j=.x xs->rd U j=.x xs:=λ j xs e=>by
  rcases h j with q|q
  ·rw[<-q];exact e
  ·rw[q] at e;cases e
 exact{
  gi:=I.gi,keep:=I.keep,wd0:=I.wd0,y0:=I.y0,tb:=I.tb,new:=I.new,inj:=I.inj
  dicts:=λ D hD=>by exact AF (I.dicts D hD) λ m n hm=>⟨m,n,λ i x e=>slot i _ (hm i x e)⟩
  cells:=λ i c e=>by exact AF (I.cells i c e) λ v q1 q2=>⟨v,q1,slot i _ q2⟩
  owns:=λ j ys e=>by refine CA (I.owns j ys (own j ys e)) λ q1 q2 q3 H=>?_;refine AF H λ us q4 q5=>?_;exact⟨q1,q2,q3,us,q4,AI.mono (.refl _) I.gi.cls hY q5⟩
  ownY:=λ j ys e=>I.ownY j ys (own j ys e)
  apart:=λ j k ys zs e1 e2 e3=>I.apart j k ys zs (own j ys e1) (own k zs e2) e3}
def Gy(C:Er)(J:Nat->Aj)(U'0:AQ)(D:Aj)(zs:List V)(s:Af):Prop:=zs.length<=CN/\∃ys,s.heap.PlainList D ys/\AI s.heap (Am C J U'0) zs ys.toList
theorem Gy.mv{D:Aj}{zs:List V}(h:Gy C J U'0 D zs s)(g:GI mg mb s)(m:Mv W gw s s')(hD:¬W D)(hDT:¬Tb D)(hW:∀b,W b->(∃o,s.heap.get? b=Aa o)->Am C J U'0 b):Gy C J U'0 D zs s':=by refine A9 h λ hz H=>?_;refine AF H λ ys H2 hr=>?_;obtain⟨n,e⟩:=H2;exact⟨hz,ys,⟨n,m.heap D _ hDT hD e⟩,AI.monoY (λ b o n y e=>m.heap b o n (λ q=>y (hW b q ⟨o,e⟩)) e) g.cls (λ z z z y=>y) hr⟩
def Nh(Wp:Aj->Prop)(Px:Obj->Obj->Prop)(h h':AV):Prop:=∀b o,Wp b->h.get? b=Aa o->∃o',h'.get? b=Aa o'/\Px o o'
theorem Nh.trans{Wp:Aj->Prop}{Px:Obj->Obj->Prop}{h h' h'':AV}(t:∀{a b c},Px a b->Px b c->Px a c)(x:Nh Wp Px h h')(y:Nh Wp Px h' h''):Nh Wp Px h h'':=λ b o q e=>let⟨o',e',p⟩:=x b o q e;let⟨o'',e'',p'⟩:=y b o' q e';⟨o'',e'',t p p'⟩
structure yU(mg mb:Str->Option Ad)(C:Er)(J:Nat->Aj)(U'0 U:AQ)(D:Aj)(zs:List V)(Y wr M Wp:Aj->Prop)(gw:Nat->Prop)(Px:Obj->Obj->Prop)(s'0 s s':Af)(St:Af->Prop):Prop where
 i:AX mg mb (C.plus wr) J U s'
 st:St s'
 ac:Gy (C.plus wr) J U'0 D zs s'
 fr:LG Y s'0 s'
 mv:Mv M gw s s'
 wp:Nh Wp Px s.heap s'.heap
structure xJ(mg mb:Str->Option Ad)(w:B2)(A:Br)(C:Er)(J:Nat->Aj)(U'0:AQ)(K:Kx)(t:Tg)(tg:Ac)(D:Aj)(Y wr P Wp:Aj->Prop)(Px:Obj->Obj->Prop)(s'0:Af):Prop where
 ht:F5 K t tg=Ab
 hP:∀i∈t.vars,∀a,(C.loc i).at=Aa a->P a
 hPm:∀b,P b->C.mine b
 hD:C.Y0 D
 hDm:¬C.mine D
 hDT:¬Tb D
 hY:∀b,Am C J U'0 b->Y b\/s'0.heap.get? b=Ae
 hwm:∀b,wr b->¬C.mine b
 hw0:∀b,wr b->¬C.Y0 b
 hwB:∀b,wr b->C.base.get? b=Ae
 hwT:∀b,wr b->¬Tb b
 hWp:∀b,Wp b->Am C J U'0 b/\¬wr b/\¬P b/\b≠D/\¬Tb b
 hPr:∀o,Px o o
 hPt:∀{a b c},Px a b->Px b c->Px a c
theorem cF(N:AJ K C env)(hh:A.handled=Ae){t:Tg}{D σ:Aj}{Y wr P Wp:Aj->Prop}{gw:Nat->Prop}{Px:Obj->Obj->Prop}{xs:List V}{i:Nat}{x:V}{U'1:AQ}{zs zs':List V}{St:Nat->Af->Prop}{RT:(Af->Prop)->(Ad->Af->Prop)->Af->Prop}{again:Af->Prop}{turn:Prop}
  (W:xJ mg mb w A C J U'0 K t tg D Y wr P Wp Px s'0) (T:G5 mg mb w A tg σ xs Y C.base s'0 wr gw St) (hx:xs[i]?=Aa x) (hb:Ck t x U=Aa U'1) (hav:∀b,Am C J U b->Am C J U'0 b)
  (hturn:As (An pw w) A (D7 (.ref σ)) (λ r s'1=>match r with
    |none=>False
    |some v=>As (An pw w) A (Bh tg (.ref σ) v) (λ z s'2=>As (An pw w) A (EH tg env v) (λ z s'3=>RT again E s'3) E s'2) E s'1) E s'->turn)
  (hrest:∀s'3,AX mg mb (C.plus wr) J U'1 s'3->Gy (C.plus wr) J U'0 D zs s'3->Nh Wp Px s.heap s'3.heap->∀Q,(∀s'4,AX mg mb (C.plus wr) J U'2 s'4->Gy (C.plus wr) J U'0 D zs' s'4->Mv (λ b=>b=D\/P b\/Wp b) (λ z=>False) s'3 s'4->Nh Wp Px s'3.heap s'4.heap->Q s'4)->RT Q E s'3)
  (L:yU mg mb C J U'0 U D zs Y wr (λ b=>b=D\/P b\/Wp b\/wr b) Wp gw Px s'0 s s' (St i)) (k:∀s'4,yU mg mb C J U'0 U'2 D zs' Y wr (λ b=>b=D\/P b\/Wp b\/wr b) Wp gw Px s'0 s s'4 (St (i+1))->again s'4):turn:=by
 refine hturn (A2 (T.item i x s' hx L.st L.i.gi L.fr L.i.keep (λ v s'2=>As (An pw w) A (EH tg env v) (λ z s'3=>RT again E s'3) E s'2) E (λ z=>False) λ s'2 v g'2 m'2 st'2 hrep=>?_) (λ r s'1 h'1=>h'1) λ z z h=>h);have I'2:=L.i.mvY m'2 g'2 W.hwm (λ b q=>.inr q) W.hwB (T.there _ _ st'2);have rv:=hrep _ L.i.there λ b y=>(Be.mp y).elim (λ y=>W.hY b (hav b y)) λ y=>.inr (T.new b y);have ac'2:=L.ac.mv L.i.gi m'2 (λ q=>W.hw0 D q W.hD) W.hDT λ b q z=>Be.mpr (.inr q);refine Nf N.plus hh W.ht hb rv I'2 λ s'3 I'3 f'3 m3'=>?_;have m'3:=m3'.weak (λ b ⟨j,hj,h⟩=>W.hP j hj b h) λ z h=>h;have w'3:Nh Wp Px s.heap s'3.heap:=λ b o q e=>by exact R4 (W.hWp b q) λ z q1 q2 q3 q4=>AF (L.wp b o q e) λ o' e' p=>⟨o',m'3.heap b o' q4 q2 (m'2.heap b o' q4 q1 e'),p⟩
 refine hrest s'3 I'3 (ac'2.mv g'2 m'3 (λ q=>W.hDm (W.hPm _ q)) W.hDT λ b q z=>.inr (.inl (W.hPm b q))) w'3 _ λ s'4 I'4 ac4 m4 w'4=>?_;have m34:=(m'3.trans m4).weak (λ b h=>h.elim (λ h=>.inr (.inl h)) id) λ j h=>h.elim id id;have nD:∀b,wr b->¬(b=D\/P b\/Wp b):=λ b q h=>h.elim (λ h=>W.hw0 D (h▸q) W.hD) λ h=>h.elim (λ h=>W.hwm b q (W.hPm b h)) λ h=>(W.hWp b h).2.1 q;refine k s'4 ⟨I'4,T.frame _ _ _ st'2 (λ b o q eo=>m34.heap b o (W.hwT b q) (nD b q) eo) λ j x z eo=>m34.gens j x (λ h=>h) eo,ac4,λ b o n y eo=>?_,(L.mv.trans (m'2.trans m34)).weak (λ b h=>?_) λ j h=>?_,w'3.trans W.hPt w'4⟩
 ·refine m34.heap b o n (λ q=>?_) (m'2.heap b o n (λ q=>by rw[T.new b q] at eo;exact nn eo) (L.fr b o n y eo));have av:=q.elim (λ q=>.inl (q▸W.hD)) λ q=>q.elim (λ q=>.inr (.inl (W.hPm b q))) λ q=>(W.hWp b q).1;rcases W.hY b av with h|h
  ·exact y h
  ·rw[h] at eo;exact nn eo
 ·rcases h with h|h|h
  ·exact h
  ·exact .inr (.inr (.inr h))
  ·exact h.imp id (.imp id .inl)
 ·exact h.elim id λ h=>h.elim id False.elim
theorem cG{t:Tg}{D σ:Aj}{Y wr P Wp:Aj->Prop}{gw:Nat->Prop}{Px:Obj->Obj->Prop}{xs:List V}{zs:List V}{St:Nat->Af->Prop}{dn:Af->Prop}{Qs:Ad->Af->Prop}
  (W:xJ mg mb w A C J U'0 K t tg D Y wr P Wp Px s'0) (T:G5 mg mb w A tg σ xs Y C.base s'0 wr gw St) (L:yU mg mb C J U'0 U D zs Y wr (λ b=>b=D\/P b\/Wp b\/wr b) Wp gw Px s'0 s s' (St xs.length))
  (k:∀s'2,AX mg mb C J U s'2->Gy C J U'0 D zs s'2->Mv (λ b=>b=D\/P b\/Wp b\/wr b) gw s s'2->Nh Wp Px s.heap s'2.heap->dn s'2):As (An pw w) A (D7 (.ref σ)) (λ r s'1=>match r with|none=>dn s'1|some v=>Qs v s'1) E s':=by
 refine T.done s' L.st L.i.gi L.fr L.i.keep _ _ _ λ s'2 g'2 m'2=>?_;have I'2:AX mg mb (C.plus λ z=>False) J U s'2:=L.i.mv0 m'2 g'2 W.hwm W.hw0 W.hwB (λ b h=>h.elim) λ b h=>h.elim;refine A9 (L.ac.mv L.i.gi m'2 (λ q=>W.hw0 D q W.hD) W.hDT λ b q z=>Be.mpr (.inr q)) λ hz H=>?_;exact AF H λ ys hp hr=>k s'2 I'2.less ⟨hz,ys,hp,AI.mono (.refl _) g'2.cls (λ b o z y=>Be.mpr (.inl y)) hr⟩ ((L.mv.trans m'2).weak (λ b h=>h.elim id λ h=>.inr (.inr (.inr h))) λ j h=>h.elim id id) λ b o q e=>R4 (W.hWp b q) λ z q1 z z q4=>AF (L.wp b o q e) λ o' e' p=>⟨o',m'2.heap b o' q4 q1 e',p⟩
theorem Pv(N:AJ K C env)(hh:A.handled=Ae){e:Ac}{σ D:Aj}{t:Tg}{RT:(Af->Prop)->(Ad->Af->Prop)->Af->Prop}{xs:List V}{Y wr P Wp:Aj->Prop}{gw:Nat->Prop}{Px:Obj->Obj->Prop}{St:Nat->Af->Prop}{R:Result->Af->Prop}{ρs:Nat->AQ}{zs:Nat->List V}
  (hq:(Code.compLoop e d (.ref σ) (.ref D) env).quiet=Ab) (hden:(An pw w).den (.compLoop e d (.ref σ) (.ref D) env)=(Gk e d (.ref σ) (.ref D) env).onRaise (λ x=>do Jc x env;IB x))
  (hun:∀(m:Sem Fin) (Q:Fin->Af->Prop) (E:Ad->Af->Prop) (s:Af),As (An pw w) A m Q E s->As (An pw w) (A.under (.compLoop e d (.ref σ) (.ref D) env)) m Q E s)
  (hturn:∀(s:Af) (P:Fin->Af->Prop) (E:Ad->Af->Prop),As (An pw w) A (D7 (.ref σ)) (λ r s'1=>match r with
    |none=>P (.done .next) s'1
    |some v=>As (An pw w) A (Bh tg (.ref σ) v) (λ z s'2=>As (An pw w) A (EH tg env v) (λ z s'3=>RT (λ s'4=>P (.again (.compLoop e d (.ref σ) (.ref D) env)) s'4) E s'3) E s'2) E s'1) E s->
   As (An pw w) A (Gk e d (.ref σ) (.ref D) env) P E s)
  (W:xJ mg mb w A C J (ρs 0) K t tg D Y wr P Wp Px s'0) (T:G5 mg mb w A tg σ xs Y C.base s'0 wr gw St) (hbind:∀i x,xs[i]?=Aa x->∃U'1,Ck t x (ρs i)=Aa U'1) (hav:∀i b,Am C J (ρs i) b->Am C J (ρs 0) b)
  (hrest:∀i x U'1 s',xs[i]?=Aa x->Ck t x (ρs i)=Aa U'1->AX mg mb (C.plus wr) J U'1 s'->Gy (C.plus wr) J (ρs 0) D (zs i) s'->Nh Wp Px s.heap s'.heap->∀(Q:Af->Prop) (E:Ad->Af->Prop),
   (∀s'',AX mg mb (C.plus wr) J (ρs (i+1)) s''->Gy (C.plus wr) J (ρs 0) D (zs (i+1)) s''->Mv (λ b=>b=D\/P b\/Wp b) (λ z=>False) s' s''->Nh Wp Px s'.heap s''.heap->Q s'')->RT Q E s')
  (I:AX mg mb (C.plus wr) J (ρs 0) s) (st:St 0 s) (ac:Gy (C.plus wr) J (ρs 0) D (zs 0) s) (fr:LG Y s'0 s)
  (k:∀s',AX mg mb C J (ρs xs.length) s'->Gy C J (ρs 0) D (zs xs.length) s'->Mv (λ b=>b=D\/P b\/Wp b\/wr b) gw s s'->Nh Wp Px s.heap s'.heap->R (.ok .next) s'):
  Qv (An pw w) A (.compLoop e d (.ref σ) (.ref D) env) R s:=by
 refine codeAny_loop hq (λ n s'=>∃i,i<=xs.length/\n=xs.length+1 - i/\yU mg mb C J (ρs 0) (ρs i) D (zs i) Y wr (λ b=>b=D\/P b\/Wp b\/wr b) Wp gw Px s'0 s s' (St i)) ?_ (xs.length+1)
  ⟨0,Bj _,rfl,I,st,ac,fr,⟨λ z z z z e=>e,λ z z z e=>e,rfl⟩,λ b o z e=>⟨o,e,W.hPr o⟩⟩
 rintro n s' ⟨i,hi,rfl,L⟩
 refine hun _ _ _ _ ?_;rw[hden];refine wpAny_noted ?_;rcases CV i xs.length with hlt|hge
 ·have hx:=Ar hlt;refine Aw (hbind i xs[i] hx) λ U'1 hb=>?_;refine cF N hh W T hx hb (hav i) (λ h=>hturn s' _ _ (A2 h (λ r s'1 h'1=>by
   induction r with
   |none=>exact False.elim h'1
   |some v=>exact h'1) λ z z h=>h)) (λ s'3 I'3 ac3 w'3 Q kk=>hrest i xs[i] U'1 s'3 hx hb I'3 ac3 w'3 Q _ kk) L λ s'4 L'=>?_
  exact⟨rfl,_,by omega,i+1,hlt,rfl,L'⟩
 ·have hie:=EP hi hge;subst hie;exact hturn s' _ _ (cG W T L λ s'2 h1 h2 h3 h4=>k s'2 h1 h2 h3 h4)
theorem MM{f:V->Option (List V)}:∀{xs:List V} {rs zs0:List V},Eb f xs=Aa rs->∃zs:Nat->List V,zs 0=zs0/\zs xs.length=zs0++rs/\∀i x,xs[i]?=Aa x->∃ys,f x=Aa ys/\zs (i+1)=zs i++ys/\(zs (i+1)).length<=(zs0++rs).length:=@λ I0=>by
 induction I0 with
 |nil=>intro rs zs0 h;obtain rfl:=sj h;exact⟨λ z=>zs0,rfl,(DT _).symm,nofun⟩
 |cons x xs IH=>
  intro rs zs0 h;refine bK h λ ys h1 h2=>?_;refine mE h2 λ ts h3=>?_;refine E3 (IH (zs0:=zs0++ys) h3) λ zs e1 e2 e3=>?_;rw[A0] at e2 e3;refine⟨λ n=>match n with|0=>zs0|n+1=>zs n,rfl,e2,λ i y hy=>?_⟩
  induction i using A5 with
  |zero=>obtain rfl:=sj hy;exact⟨ys,h1,e1,by show(zs 0).length<=_;rw[e1,<-A0,AB (as:=zs0++ys)];exact Cr _ _⟩
  |succ i=>exact e3 i y hy
end
noncomputable def LO{Z:Type}(i:Nat):List (Nat×Z)->Option Z
 |[]=>Ae
 |p::r=>if AG i p.1 then Aa p.2 else LO i r
def Er.comp(C:Er)(vl:List (Nat×Qp))(Dl L:Aj):Er:=
 {loc:=λ j=>(LO j vl).getD (C.loc j),Y0:=λ b=>C.Y0 b\/C.mine b\/b=Dl\/b=L,base:=C.base}
theorem Ju:∀{vs:List Nat} {U:AQ} {j:Nat},(j∈vs->rd (Du vs U) j=.u)/\(rd (Du vs U) j=rd U j\/rd (Du vs U) j=.u):=@λ I0=>by
 induction I0 with
 |nil=>exact@λ U j=>⟨(λ h=>by cases h),.inl rfl⟩
 |cons v vs IH=>
  intro U j;have ih:=IH (U:=wr U v .u) (j:=j);have e:rd (wr U v .u) j=rd U j\/rd (wr U v .u) j=.u:=by
   by_cases h:j=v
   ·subst h;rcases CY with e|e<;>exact .inr e
   ·exact .inl (AU h)
  refine⟨λ h=>?_,?_⟩
  ·rcases AL.mp h with h2|h2
   ·subst h2;show rd (Du vs (wr U j .u)) j=.u;rcases ih.2 with q|q
    ·rw[q];rcases CY with e|e<;>exact e
    ·exact q
   ·exact ih.1 h2
  ·show rd (Du vs (wr U v .u)) j=rd U j\/_;rcases ih.2 with q|q
   ·rcases e with e|e
    ·exact .inl (q.trans e)
    ·exact .inr (q.trans e)
   ·exact .inr q
section
variable{vl:List (Nat×Qp)}{D Dl:Aj}
theorem Ep{i:Nat}{l:Qp}(h:(C.comp vl Dl D).loc i=l):LO i vl=Aa l\/(LO i vl=Ae/\C.loc i=l):=by
 unfold Er.comp at h
 cases e:LO i vl with
 |none=>simp only [e] at h;exact .inr ⟨rfl,h⟩
 |some l'=>simp only [e] at h;exact .inl (by rw[<-h];rfl)
theorem AX.comp(I'0:AX mg mb C J U s'0)(t:C7 s'0 s'1)(g:GI mg mb s'1)(hvl:∀i l,LO i vl=Aa l->(∃n,l=.dict D n)\/(∃c,l=.cell c/\s'1.heap.IsCell c Ae/\s'0.heap.get? c=Ae))
  (hD:s'1.heap.Ns D λ w=>Ae) (hD0:s'0.heap.get? D=Ae) (hDl:s'0.heap.get? Dl=Ae) (hDl1:∃o,s'1.heap.get? Dl=Aa o) (hinj:∀i j l,LO i vl=Aa l->LO j vl=Aa l->i=j)
  (hun:∀i l,LO i vl=Aa l->rd U'0 i=.u) (hρ:∀i,rd U'0 i=rd U i\/rd U'0 i=.u):AX mg mb (C.comp vl Dl D) J U'0 s'1:=by
 have I:=I'0.step t g;have none0:∀{b:Aj},s'0.heap.get? b=Ae->(∃o,s'0.heap.get? b=Aa o)->False:=λ h ⟨o,e⟩=>by rw[h] at e;exact nn e
 have own:∀j xs,rd U'0 j=.x xs->rd U j=.x xs:=λ j xs e=>by
  rcases hρ j with q|q
  ·rw[<-q];exact e
  ·rw[q] at e;cases e
 have mine':∀b,(C.comp vl Dl D).mine b->C.mine b\/s'0.heap.get? b=Ae:=λ b h=>by
  rcases h with⟨i,x,e⟩|⟨i,e⟩
  ·rcases Ep e with h|⟨_,h⟩
   ·rcases hvl i _ h with⟨n,q⟩|⟨c,q,_⟩
    ·cases q;exact .inr hD0
    ·cases q
   ·exact .inl (.inl ⟨i,x,h⟩)
  ·rcases Ep e with h|⟨_,h⟩
   ·rcases hvl i _ h with⟨n,q⟩|⟨c,q,_,h0⟩
    ·cases q
    ·cases q;exact .inr h0
   ·exact .inl (.inr ⟨i,h⟩)
 have hY:∀b o,s'0.heap.get? b=Aa o->Am (C.comp vl Dl D) J U'0 b->Am C J U b:=λ b o e y=>by
  rcases y with(y|y|y)|y|⟨j,xs,e1,e2⟩
  ·exact .inl y
  ·exact .inr (.inl y)
  ·rcases y with y|y<;>subst y
   ·rw[hDl] at e;exact nn e
   ·rw[hD0] at e;exact nn e
  ·rcases mine' b y with h|h
   ·exact .inr (.inl h)
   ·rw[h] at e;exact nn e
  ·exact .inr (.inr ⟨j,xs,own j xs e1,e2⟩)
 have up:∀V u,A6 s'0.heap (Am C J U) V u->A6 s'1.heap (Am (C.comp vl Dl D) J U'0) V u:=λ V u r=>r.mono t.keep I'0.gi.cls hY;have slot:∀j o,Slot s'0.heap (Am C J U) (J j) (rd U j) o->Slot s'1.heap (Am (C.comp vl Dl D) J U'0) (J j) (rd U'0 j) o:=λ j o q=>by
  rcases hρ j with e|e
  ·rw[e];exact q.mono up
  ·rw[e];trivial
 exact{
  gi:=g,keep:=I.keep,wd0:=I.wd0
  y0:=λ b h=>by
   rcases h with h|h|h
   ·exact I.y0 b h
   ·exact I.mine_there h
   ·rcases h with h|h<;>subst h
    ·exact hDl1
    ·refine Lc hD λ o w w ho w=>?_;exact⟨o,ho⟩
  tb:=I.tb
  new:=λ b h=>by
   rcases mine' b h with h|h
   ·exact I.new b h
   ·exact DY I'0 h
  inj:=λ i j e1 e2=>by
   cases e:(C.comp vl Dl D).loc i with
   |no=>exact absurd e e2
   |dict D' x=>
    rw[e] at e1;rcases Ep e with h|⟨h0,h⟩<;>rcases Ep e1.symm with h'|⟨h0',h'⟩
    ·exact hinj i j _ h h'
    ·exfalso
     rcases hvl i _ h with⟨n,q⟩|⟨c,q,_⟩
     ·cases q;exact none0 hD0 (I'0.mine_there (.inl ⟨j,_,h'⟩))
     ·cases q
    ·exfalso
     rcases hvl j _ h' with⟨n,q⟩|⟨c,q,_⟩
     ·cases q;exact none0 hD0 (I'0.mine_there (.inl ⟨i,_,h⟩))
     ·cases q
    ·exact I'0.inj i j (h.trans h'.symm) (by rw[h];nofun)
   |cell c=>
    rw[e] at e1;rcases Ep e with h|⟨h0,h⟩<;>rcases Ep e1.symm with h'|⟨h0',h'⟩
    ·exact hinj i j _ h h'
    ·exfalso
     rcases hvl i _ h with⟨n,q⟩|⟨c',q,_,h3⟩
     ·cases q
     ·cases q;exact none0 h3 (I'0.mine_there (.inr ⟨j,h'⟩))
    ·exfalso
     rcases hvl j _ h' with⟨n,q⟩|⟨c',q,_,h3⟩
     ·cases q
     ·cases q;exact none0 h3 (I'0.mine_there (.inr ⟨i,h⟩))
    ·exact I'0.inj i j (h.trans h'.symm) (by rw[h];nofun)
  dicts:=λ D' hD'=>by
   by_cases q:D'=D
   ·subst q;refine⟨_,hD,λ i x e=>?_⟩;rcases Ep e with h|⟨_,h⟩
    ·rw[hun i _ h];trivial
    ·exact(none0 hD0 (I'0.mine_there (.inl ⟨i,x,h⟩))).elim
   ·refine F1 hD' λ i x e=>?_;rcases Ep e with h|⟨_,h⟩
    ·rcases hvl i _ h with⟨n,z⟩|⟨c,z,_⟩
     ·cases z;exact absurd rfl q
     ·cases z
    ·refine AF (I'0.dicts D' ⟨i,x,h⟩) λ m n hm=>⟨m,EF t.keep (I'0.mineTb (.inl ⟨i,x,h⟩)) n,λ j y e'=>?_⟩;rcases Ep e' with h'|⟨_,h'⟩
     ·rw[hun j _ h'];trivial
     ·exact slot j _ (hm j y h')
  cells:=λ i c e=>by
   rcases Ep e with h|⟨_,h⟩
   ·rcases hvl i _ h with⟨n,z⟩|⟨c',z,hc,_⟩
    ·cases z
    ·cases z;exact⟨Ae,hc,by rw[hun i _ h];trivial⟩
   ·refine AF (I'0.cells i c h) λ v H2 h3=>?_;refine AF H2 λ o h1 h2=>?_;exact⟨v,⟨o,t.keep _ _ (I'0.mineTb (.inr ⟨i,h⟩)) h1,h2⟩,slot i _ h3⟩
  owns:=λ i xs e=>by
   have e':=own i xs e;refine CA (I'0.owns i xs e') λ h1 h2 h3 H=>?_;refine AF H λ vs H2 h5=>?_;obtain⟨n,h4⟩:=H2;refine⟨h1,λ h=>?_,h3,vs,⟨n,t.keep _ _ (I'0.ownTb e') h4⟩,AI.mono t.keep I'0.gi.cls hY h5⟩;rcases mine' _ h with h|h
   ·exact h2 h
   ·rw[h] at h4;exact nn h4
  ownY:=λ i xs e h=>by
   have e':=own i xs e;rcases h with h|h|h
   ·exact I'0.ownY i xs e' h
   ·exact(I'0.owns i xs e').2.1 h
   ·rcases h with h|h
    ·exact none0 hDl (h▸I'0.own_there e')
    ·exact none0 hD0 (h▸I'0.own_there e')
  apart:=λ i j xs ys e1 e2 e3=>I'0.apart i j xs ys (own i xs e1) (own j ys e2) e3}
end
theorem HV{Z:Type}(x:Str):∀l:List (Str×Z),lk x l=l.lookup x:=λ I0=>by
 induction I0 with
 |nil=>exact rfl
 |cons p r IH=>
  show(if Mi x p.1 then Aa p.2 else lk x r)=_;rw[CP,IH]
  by_cases q:Mi x p.1=Ab
  ·rw[if_pos q,Dj q,show(p.1==p.1)=Ab from beq_self_eq_true _]
  ·rw[if_neg q,Qo (OA _ |>.mp q)]
theorem BE{l:List (Str×Bq)}(h:L5 l=Ab){x:Str}{k:Bq}(hm:(x,k)∈l):l.lookup x=Aa k:=by rw[<-HV];exact of_decide_eq_true (Al.mp h _ hm)
theorem Lo{x:Nat}{l:List Nat}:SF x l=Ab↔x∈l:=decide_eq_true_iff
theorem Jz{v:Nat}{vs:List Nat}(h:KQ (v::vs)=Ab):v∉vs/\KQ vs=Ab:=
 have h:=HI.mp (of_decide_eq_true h)
 ⟨h.1,decide_eq_true h.2⟩
theorem GN{Z:Type}{x:Str}{a:Z}{l:List (Str×Z)}(h:lk x l=Aa a):(x,a)∈l:=by refine E1 (List.lookup_eq_some_iff.mp (HV x l▸h)) λ p q h z=>?_;rw[h];exact List.mem_append_right _ (.head _)
theorem cI{Z:Type}{f:Str×Nat->Z}{i:Nat}{x:Z}:∀{l:List (Str×Nat)},LO i (l.map λ p=>(p.2,f p))=Aa x->∃p,p∈l/\p.2=i/\f p=x:=@λ I0=>by
 induction I0 with
 |nil=>exact@λ h=>nn h
 |cons p r IH=>
  intro h;have h':(if AG i p.2 then Aa (f p) else LO i (r.map λ p=>(p.2,f p)))=Aa x:=h
  by_cases q:AG i p.2=Ab
  ·rw[if_pos q] at h';exact⟨p,.head _,(Av q).symm,sj h'⟩
  ·rw[if_neg q] at h';exact E3 (IH h') λ p hp e1 e2=>⟨p,.tail _ hp,e1,e2⟩
theorem lW{Z:Type}{f:Str×Nat->Z}:∀{l:List (Str×Nat)},KQ (l.map (·.2))=Ab->∀{p},p∈l->LO p.2 (l.map λ p=>(p.2,f p))=Aa (f p):=@λ I0=>by
 induction I0 with
 |nil=>exact@λ _ _ h=>(absurd h List.not_mem_nil)
 |cons q r IH=>
  intro hn p h;have hn:=Jz hn;rcases AL.mp h with h|h
  ·rw[h];exact if_pos (VV _)
  ·exact(if_neg λ e:AG p.2 q.2=Ab=>hn.1 (List.mem_map.mpr ⟨p,h,Av e⟩)).trans (IH hn.2 h)
def gO(D:Aj)(cells:List (Str×Aj))(sc:List (Str×Bq))(n:Str):Qp:=if lk n sc=Aa .local then .dict D n else .cell ((cells.lookup n).getD 0)
def Ke(D:Aj)(cells:List (Str×Aj))(sc:List (Str×Bq))(acc:List (Str×Nat)):List (Nat×Qp):=(Td sc acc).map λ p=>(p.2,gO D cells sc p.1)
structure UD(K:Kx)(sc:List (Str×Bq))(vs:List Nat)(acc:List (Str×Nat)):Prop where
 ent:∀n i,(n,i)∈acc->((lk n sc=Aa .local\/lk n sc=Aa .cell)/\i∈vs)\/(lk n sc=Aa .free/\lk n K.acc=Aa i/\(lk n K.sc=Aa .cell\/lk n K.sc=Aa .free))
 self:∀p,p∈acc->lk p.1 acc=Aa p.2
 nd:KQ ((Td sc acc).map (·.2))=Ab
 fr:∀n,(n,NameKind.free)∈sc->∃i,lk n K.acc=Aa i/\(lk n K.sc=Aa .cell\/lk n K.sc=Aa .free)
theorem PF{sc:List (Str×Bq)}{vs:List Nat}{acc:List (Str×Nat)}(h:Zj K sc vs acc=Ab):UD K sc vs acc:=by
 refine CJ h λ h1 h2=>CJ h2 λ h2 h3=>?_;rw[Al] at h1 h3;refine⟨λ n i hm=>?_,λ p hp=>of_decide_eq_true (B6 (h1 p hp)).2,h2,λ n hn=>?_⟩
 ·refine((qL _ _).mp (B6 (h1 _ hm)).1).imp (λ q=>?_) λ q=>?_
  ·exact⟨of_decide_eq_true (B6 q).1,Lo.mp (B6 q).2⟩
  ·exact CJ q λ q1 q=>CJ q λ q2 q3=>⟨of_decide_eq_true q1,of_decide_eq_true q2,of_decide_eq_true q3⟩
 ·have q:=h3 _ hn;exact CJ (show((lk n K.acc).isSome&&Yp K n)=Ab from q) λ q1 q2=>Aw (Option.isSome_iff_exists.mp q1) λ i hi=>⟨i,hi,of_decide_eq_true q2⟩
section
variable{D:Aj}{cells:List (Str×Aj)}{names:List (Str×Bq)}{vs:List Nat}{acc:List (Str×Nat)}(Ao:UD K names vs acc)
include Ao
theorem Nl{i:Nat}{l:Qp}(h:LO i (Ke D cells names acc)=Aa l){gC:Prop}(gk:∀n,lk n acc=Aa i->i∈vs->(((lk n names=Aa .local/\l=.dict D n)\/(lk n names=Aa .cell/\l=.cell ((cells.lookup n).getD 0))))->gC):gC:=by
 refine E3 (cI h) λ p hp e1 e2=>?_;subst e1 e2;refine A9 (List.mem_filter.mp hp) λ h1 h2=>?_;have h2:=of_decide_eq_true h2;refine gk p.1 (Ao.self p h1) ?_ ?_
 ·rcases Ao.ent _ _ h1 with q|q
  ·exact q.2
  ·rw[q.1] at h2;exact h2.elim (λ h=>by cases h) (λ h=>by cases h)
 ·exact h2.imp (λ q=>⟨q,if_pos q⟩) λ q=>⟨q,if_neg (by rw[q];nofun)⟩
theorem Ik{i:Nat}{l:Qp}(h:LO i (Ke D cells names acc)=Aa l):i∈vs/\((∃n,l=.dict D n/\(n,NameKind.local)∈names)\/∃n,l=.cell ((cells.lookup n).getD 0)/\(n,Cb)∈names):=
 Nl Ao h λ n z h2 h3=>⟨h2,h3.imp (λ q=>⟨n,q.2,GN q.1⟩) λ q=>⟨n,q.2,GN q.1⟩⟩
theorem HA{n:Str}{i:Nat}(h:lk n acc=Aa i):
  ((n,NameKind.local)∈names/\i∈vs/\LO i (Ke D cells names acc)=Aa (.dict D n))\/((n,Cb)∈names/\i∈vs/\LO i (Ke D cells names acc)=Aa (.cell ((cells.lookup n).getD 0)))\/
   ((n,NameKind.free)∈names/\lk n K.acc=Aa i/\(lk n K.sc=Aa .cell\/lk n K.sc=Aa .free)):=by
 have q:(lk n names=Aa .local\/lk n names=Aa .cell)->LO i (Ke D cells names acc)=Aa (gO D cells names n):=λ q=>lW Ao.nd (List.mem_filter.mpr ⟨GN h,decide_eq_true q⟩);rcases Ao.ent n i (GN h) with⟨h1|h1,h2⟩|⟨h1,h2⟩
 ·exact .inl ⟨GN h1,h2,(q (.inl h1)).trans (congrArg Aa (if_pos h1))⟩
 ·exact .inr (.inl ⟨GN h1,h2,(q (.inr h1)).trans (congrArg Aa (if_neg (by rw[h1];nofun)))⟩)
 ·exact .inr (.inr ⟨GN h1,h2⟩)
theorem QG(hc:∀n n',(n,Cb)∈names->(n',Cb)∈names->(cells.lookup n).getD 0=(cells.lookup n').getD 0->n=n')
  {i j:Nat} {l:Qp} (h:LO i (Ke D cells names acc)=Aa l) (h':LO j (Ke D cells names acc)=Aa l):i=j:=by
 refine Nl Ao h λ n a z h3=>Nl Ao h' λ n' a' z h3'=>?_;have fin:n=n'->i=j:=λ e=>by rw[e,a'] at a;exact(sj a).symm
 rcases h3 with⟨q,rfl⟩|⟨q,rfl⟩
 ·rcases h3' with⟨q',e⟩|⟨q',e⟩
  ·injection e with _ e;exact fin e
  ·exact(by cases e)
 ·rcases h3' with⟨q',e⟩|⟨q',e⟩
  ·exact(by cases e)
  ·injection e with e;exact fin (hc n n' (GN q) (GN q') e)
end
noncomputable def Ji(env:Env):List (Str×Bq)->List (Str×Aj)->List (Str×Aj)
 |[],acc=>acc
 |(n,k)::r,acc=>Ji env r (if k==.free then(n,(env.cells.lookup n).getD 0)::acc else acc)
theorem VD(env:Env)(f:Str×Bq->List (Str×Aj)->Sem (ForInStep (List (Str×Aj))))(hf:∀n k cs,f (n,k) cs=if k==.free then(do let c <-cellOf env n;pure (.yield ((n,c)::cs))) else pure (.yield cs)):
  ∀(names:List (Str×Bq)) (acc:List (Str×Aj)),(∀n,(n,NameKind.free)∈names->∃c,env.cells.lookup n=Aa c)->forIn names acc f=(pure (Ji env names acc):Sem _):=λ I0=>by
 induction I0 with
 |nil=>intro acc _;rw[La];rfl
 |cons Z0 r IH=>
  obtain⟨n,k⟩:=Z0;intro acc h;rw[PH,hf];have hr:=IH
  cases hk:(k==NameKind.free) with
  |false=>simp only [Ii,if_false];show forIn r acc f=_;rw[hr acc λ m hm=>h m (.tail _ hm)];show _=pure (Ji env r (if(k==NameKind.free)=Ab then(n,(env.cells.lookup n).getD 0)::acc else acc));rw[hk];rfl
  |true=>have e:=eq_of_beq hk;subst e;refine Aw (h n (.head _)) λ c hc=>?_;simp only [if_true];unfold cellOf;rw[hc];show forIn r ((n,c)::acc) f=_;rw[hr _ λ m hm=>h m (.tail _ hm)];show _=pure (Ji env r (if(NameKind.free==NameKind.free)=Ab then(n,(env.cells.lookup n).getD 0)::acc else acc));rw[hc];rfl
theorem eJ{sc:Scope}(h:∀n,(n,NameKind.free)∈sc.names->∃c,env.cells.lookup n=Aa c):VZ sc env=pure (Ji env sc.names []):=by
 simp only [VZ];rw[VD env _ (λ n k cs=>by cases hk:(k==NameKind.free)<;>simp) sc.names [] h]
 rfl
theorem Rr:∀{names:List (Str×Bq)} {acc:List (Str×Aj)} {n:Str},((n,NameKind.free)∈names->(Ji env names acc).lookup n=Aa ((env.cells.lookup n).getD 0))/\
  (∀c,acc.lookup n=Aa c->c=(env.cells.lookup n).getD 0->(Ji env names acc).lookup n=Aa c):=@λ I0=>by
 induction I0 with
 |nil=>exact@λ acc n=>⟨(λ h=>by cases h),λ c h z=>h⟩
 |cons Z0 r IH=>
  obtain⟨m,k⟩:=Z0;intro acc n;have ih:=λ acc=>IH (acc:=acc) (n:=n);have key:∀c,acc.lookup n=Aa c->c=(env.cells.lookup n).getD 0->(if k==NameKind.free then(m,(env.cells.lookup m).getD 0)::acc else acc).lookup n=Aa c:=λ c h e=>by
   split
   ·rw[CP]
    cases hb:(n==m) with
    |true=>rw[e,eq_of_beq hb]
    |false=>exact h
   ·exact h
  refine⟨λ h=>?_,λ c h e=>(ih _).2 c (key c h e) e⟩;rcases AL.mp h with h|h
  ·refine A9 (Prod.mk.inj h) λ e1 e2=>?_;subst e2;refine(ih _).2 _ ?_ rfl;show Hk n ((m,(env.cells.lookup m).getD 0)::acc)=_;rw[CP,<-e1];simp
  ·exact(ih _).1 h
theorem Ff:∀(names:List (Str×Bq)) (b:Nat) (acc:List (Str×Aj)),BU b names acc=BU b names []++acc:=λ I0=>by
 induction I0 with
 |nil=>exact λ b acc=>rfl
 |cons Z0 r IH=>
  obtain⟨n,k⟩:=Z0;intro b acc;unfold BU
  split
  ·rw[IH (b+1) ((n,b)::acc),IH (b+1) [(n,b)],A0];rfl
  ·exact IH b acc
theorem Of:∀{names:List (Str×Bq)} {b:Nat} {n:Str} {c:Aj},(n,c)∈BU b names []->(n,Cb)∈names:=@λ I0=>by
 induction I0 with
 |nil=>exact@λ b n c h=>(absurd h List.not_mem_nil)
 |cons Z0 r IH=>
  obtain⟨m,k⟩:=Z0;intro b n c h;unfold BU at h
  split at h
  ·rename_i hk;rw[Ff] at h;rcases List.mem_append.mp h with h|h
   ·exact .tail _ (IH h)
   ·cases List.mem_singleton.mp h
    rw[eq_of_beq hk];exact .head _
  ·exact .tail _ (IH h)
theorem EM:∀{names:List (Str×Bq)} {b:Nat} {n:Str},(n,Cb)∈names->∃c,(BU b names []).lookup n=Aa c
 |(m,k)::r,b,n,h=>by
  unfold BU;rcases AL.mp h with h|h
  ·refine A9 (Prod.mk.inj h) λ e1 e2=>?_;rw[<-e2,<-e1,if_pos (by decide),Ff]
   cases e:(BU (b+1) r []).lookup n with
   |some c=>exact⟨c,by rw[F0,e];rfl⟩
   |none=>exact⟨b,by rw[F0,e];simp[CP]⟩
  ·refine Aw (EM (b:=b+1) h) λ c hc=>Aw (EM (b:=b) h) λ c' hc'=>?_
   split
   ·rw[Ff];exact⟨c,by rw[F0,hc];rfl⟩
   ·exact⟨c',hc'⟩
section
variable{M:Model}
theorem Xk{scope:Scope}{Q:Env->Af->Prop}
  (h:Q (newEnv scope s.heap.objs.size env.globals (BU (s.heap.objs.size+1) scope.names cl) qual Ae .none (Aa env) Es) {s with heap:=Jd (s.heap.push {cls:=.type "dict",data:=.dict #[]}) scope.names}):
  As M A (newFunctionEnv scope env.globals cl [] qual Ae .none (Aa env)) Q E s:=by
 simp only [newFunctionEnv,Option.isSome_some,if_true];refine Ah (wpAny_alloc ?_);refine Ah (wpAny_layCells _ (λ name kind cells=>by cases hkc:kind==Cb<;>simp[hkc]) _ _ _ _ ?_)
 rw[show({s with heap:=s.heap.push {cls:=.type "dict",data:=.dict #[]}}:Af).heap.objs.size=s.heap.objs.size+1 from K8 ..];refine Ah ?_;rw[La];exact At (At h)
end
theorem Nz{sc:Scope}{x:Str}:(relabel sc env).names.lookup x=(sc.names.lookup x).map λ k=>if(k==.free&&env.scope.kind==.function&&env.kindOf x==Aa .cell) then .cell else k:=by
 unfold relabel;show Hk x (sc.names.map _)=_;generalize sc.names=l
 induction l with
 |nil=>rfl
 |cons p r ih=>
  rw[D3];obtain⟨n,k⟩:=p
  cases hx:(x==n) with
  |true=>
   have:=eq_of_beq hx;subst this;have e2:Hk x ((x,k)::r)=Aa k:=by rw[CP];simp
   rw[e2]
   dsimp only
   split
   ·rename_i h;have e3:∀(c:Bq) (l:List (Str×Bq)),Hk x ((x,c)::l)=Aa c:=λ c l=>by rw[CP];simp
    rw[e3,JN,if_pos h]
   ·rename_i h;have e3:∀(c:Bq) (l:List (Str×Bq)),Hk x ((x,c)::l)=Aa c:=λ c l=>by rw[CP];simp
    rw[e3,JN,if_neg h]
  |false=>
   have e2:Hk x ((n,k)::r)=Hk x r:=by rw[CP,hx]
   rw[e2,<-ih]
   dsimp only
   split<;>(rw[CP,hx])
theorem JB{sc:Scope}{vs:List Nat}(h:IM K sc vs=Aa K'):sc.kind=.function/\L5 sc.names=Ab/\(∀p∈K.acc,SF p.2 vs=Ai)/\UD K sc.names vs K'.acc/\K'.sc=sc.names:=by refine iK h λ hc h=>CJ hc λ hk hc=>CJ hc λ h1 h2=>bK h λ a z h=>iK h λ h3 h=>?_;obtain rfl:=sj h;exact⟨L9 hk,h1,λ p hp=>(BG _).mp (Al.mp h2 p hp),PF h3,rfl⟩
abbrev Mo(sc:Scope)(env:Env)(L:Aj):Env:=
 {newEnv sc L env.globals (BU (L+1) sc.names (Ji env sc.names [])) env.qual Ae .none (Aa env) Es with scope:=relabel sc env}
section
variable{sc:Scope}{vs:List Nat}
theorem Pq(N:AJ K C env){n:Str}{i:Nat}(h:lk n K.acc=Aa i)(hk:lk n K.sc=Aa .cell\/lk n K.sc=Aa .free){gC:Prop}(gk:∀c,C.loc i=.cell c->env.cells.lookup n=Aa c->((env.kindOf n=Aa .cell\/env.kindOf n=Aa .free))->gC):gC:=by
 have hk':=hk.elim (λ h=>.inl (N.cell n h)) (N.free n);have a:=N.acc n i h
 cases e:C.loc i with
 |no=>rw[e] at a;induction a
 |dict D y=>rw[e] at a;refine Db a λ z h1 z=>?_;rcases hk' with q|q<;>rw[h1] at q<;>cases q
 |cell c=>rw[e] at a;exact gk c e a.2 hk'
theorem VB(N:AJ K C env)(hK:IM K sc vs=Aa K'):VZ sc env=pure (Ji env sc.names []):=eJ λ n hn=>AF ((JB hK).2.2.2.1.fr n hn) λ i h1 h2=>Pq N h1 h2 λ c z h3 z=>⟨c,h3⟩
theorem Oe{L:Aj}{n:Str}(h:(n,Cb)∈sc.names){gC:Prop}(gk:∀c,(BU (L+1) sc.names (Ji env sc.names [])).lookup n=Aa c->(n,c)∈BU (L+1) sc.names []->gC):gC:=Aw (EM h) λ c hc=>gk c (by rw[Ff,F0,hc];rfl) (mem_of_lookup hc)
theorem Ta{L:Aj}{n:Str}(hn:L5 sc.names=Ab)(h:(n,NameKind.free)∈sc.names):(BU (L+1) sc.names (Ji env sc.names [])).lookup n=Aa ((env.cells.lookup n).getD 0):=by
 rw[Ff,F0];have:(BU (L+1) sc.names []).lookup n=Ae:=by
  cases e:(BU (L+1) sc.names []).lookup n with
  |none=>rfl
  |some c=>have q:=BE hn (Of (mem_of_lookup e));rw[BE hn h] at q;cases q
 rw[this];exact Rr.1 h
theorem S1(N:AJ K C env)(hK:IM K sc vs=Aa K')(L Dl:Aj):AJ K' (C.comp (Ke L (BU (L+1) sc.names (Ji env sc.names [])) sc.names K'.acc) Dl L) (Mo sc env L):=by
 refine R4 (JB hK) λ hk hn hd ha hsc=>?_;have kind:∀x,(Mo sc env L).kindOf x=(sc.names.lookup x).map λ k=>if(k==.free&&env.scope.kind==.function&&env.kindOf x==Aa .cell) then .cell else k:=λ x=>Nz;have look:∀x k,lk x K'.sc=Aa k->sc.names.lookup x=Aa k:=λ x k h=>by rw[<-HV,<-hsc];exact h
 refine⟨?_,λ x i h=>?_,λ x h=>?_,λ x h=>?_,λ x h=>?_,λ x h=>?_,N.gl,N.bi⟩
 ·exact hk
 ·rcases HA ha h with⟨hm,hi,hl⟩|⟨hm,hi,hl⟩|⟨hm,h1,h2⟩
  ·have e:(C.comp (Ke L (BU (L+1) sc.names (Ji env sc.names [])) sc.names K'.acc) Dl L).loc i=.dict L x:=by unfold Er.comp;dsimp only;rw[hl];rfl
   rw[e];refine⟨rfl,?_,rfl⟩;rw[kind,BE hn hm];rfl
  ·refine Oe (env:=env) (L:=L) hm λ c hc z=>?_;have e:(C.comp (Ke L (BU (L+1) sc.names (Ji env sc.names [])) sc.names K'.acc) Dl L).loc i=.cell c:=by unfold Er.comp;dsimp only;rw[hl,hc];rfl
   rw[e];refine⟨.inl ?_,hc⟩;rw[kind,BE hn hm];rfl
  ·refine Pq N h1 h2 λ c h3 h4 h5=>?_;have hi:i∉vs:=λ q=>by
    have:=hd _ (GN h1);rw[Lo.mpr q] at this;cases this
   have e:(C.comp (Ke L (BU (L+1) sc.names (Ji env sc.names [])) sc.names K'.acc) Dl L).loc i=.cell c:=by
    unfold Er.comp;dsimp only
    cases e:LO i (Ke L (BU (L+1) sc.names (Ji env sc.names [])) sc.names K'.acc) with
    |none=>exact h3
    |some l=>exact absurd (Ik ha e).1 hi
   rw[e];refine⟨?_,by show(BU (L+1) sc.names (Ji env sc.names [])).lookup x=_;rw[Ta hn hm,h4];rfl⟩;rw[kind,BE hn hm,JN];exact iP (P:=λ k:Bq=>Aa k=Aa .cell\/Aa k=Aa .free) (λ z=>.inl rfl) λ z=>.inr rfl
 ·rw[kind,look x _ h];rfl
 ·rw[kind,look x _ h];rfl
 ·rw[kind,look x _ h];rfl
 ·rw[kind,look x _ h,JN];exact iP (P:=λ k:Bq=>Aa k=Aa .cell\/Aa k=Aa .free) (λ z=>.inl rfl) λ z=>.inr rfl
end
theorem VA{W:Aj->Prop}{vl:List (Nat×Qp)}{Dl L:Aj}:(C.plus W).comp vl Dl L=(C.comp vl Dl L).plus W:=by
 unfold Er.comp Er.plus
 congr 1
 funext b
 apply propext;constructor
 ·rintro ((h|h)|h|h)
  ·exact .inl (.inl h)
  ·exact .inr h
  ·exact .inl (.inr (.inl h))
  ·exact .inl (.inr (.inr h))
 ·rintro ((h|h|h)|h)
  ·exact .inl (.inl h)
  ·exact .inr (.inl h)
  ·exact .inr (.inr h)
  ·exact .inl (.inr h)
theorem UU:∀{is:List Nat} {vs:List V} {U U':AQ},KM is vs U=Aa U'->∀j,(j∉is->rd U' j=rd U j)/\(∀ys,rd U' j=.x ys->rd U j=.x ys)
:=@λ is=>by
 induction is with
 |nil=>
  intro vs U U' h j
  induction vs using Aq with
  |nil=>obtain rfl:=sj h;exact⟨λ z=>rfl,λ z h=>h⟩
  |cons v vs=>exact nn h
 |cons i is IH=>
  intro vs U U' h j
  induction vs using Aq with
  |nil=>exact nn h
  |cons v vs=>have ih:=IH (show KM is vs (wr U i (.w v))=Aa U' from h) j;exact⟨λ hj=>(ih.1 λ q=>hj (.tail _ q)).trans (AU λ q=>hj (q▸.head _)),λ ys e=>(Gm (ih.2 ys e)).2⟩
theorem Hx{t:Tg}{x:V}(h:Ck t x U=Aa U'):∀j,(j∉t.vars->rd U' j=rd U j)/\(∀ys,rd U' j=.x ys->rd U j=.x ys):=λ j=>by
 induction t with
 |one i=>obtain rfl:=sj h;exact⟨λ hj=>AU λ q=>hj (q▸.head _),λ ys e=>(Gm e).2⟩
 |m is=>
  induction x using V.casesOn<;>first|exact nn h|skip
  exact UU h j
theorem VF{is:List Nat}{es:List Ac}(h:F9 K is es=Ab):∀i∈is,∃x,F8 K x i=Ab:=
 Mm (P:=λ is z=>∀i∈is,∃x,F8 K x i=Ab) (λ _ h=>absurd h List.not_mem_nil) (λ x p i is es hx z ih j hj=>(AL.mp hj).elim (λ e=>⟨x,e▸hx⟩) (ih j)) h
theorem RA{t:Tg}(h:F5 K t tg=Ab):∀i∈t.vars,∃x,F8 K x i=Ab:=by
 induction t with
 |one i=>intro j hj;refine aK h λ x z hx=>?_;exact⟨x,List.mem_singleton.mp hj▸hx⟩
 |m is=>refine aK h λ es z hx=>?_;exact VF hx
theorem lO{sc:Scope}{vs:List Nat}{D:Aj}{cells:List (Str×Aj)}{x:Str}{i:Nat}(hK:IM K sc vs=Aa K')(hx:F8 K' x i=Ab):∃l,LO i (Ke D cells sc.names K'.acc)=Aa l:=by
 refine R4 (JB hK) λ hk hn hd ha hsc=>CJ hx λ hx h2=>?_;rcases HA ha (Gb hx).1 with⟨_,_,hl⟩|⟨_,_,hl⟩|⟨hm,_⟩
 ·exact⟨_,hl⟩
 ·exact⟨_,hl⟩
 ·exfalso
  have h3:lk x K'.sc=Aa .free:=by rw[hsc,HV];exact BE hn hm
  rcases of_decide_eq_true h2 with e|e<;>cases h3.symm.trans e
noncomputable abbrev IF(ifs:List Ac)(env:Env)(b:Bool):Sem Bool:=forIn ifs b λ c r=>if r=Ab then do let ok <-isTrue c env (AM c env);pure (ForInStep.yield ok) else pure (ForInStep.yield r)
def Mw(mg mb:Str->Option Ad)(w:B2)(C:Er)(A:Br)(U:AQ)(ifs:List Ac)(env:Env)(b:Bool):Prop:=
 ∀J s,AX mg mb C J U s->Ok mg mb w A s (IF ifs env Ab) λ z d=>d=b
theorem QM{Q:Bool->Af->Prop}:∀(ifs:List Ac),Q Ai s->As (An pw w) A (IF ifs env Ai) Q E s:=λ I0=>by
 induction I0 with
 |nil=>intro h;unfold IF;rw[La];exact At h
 |cons c cs IH=>intro h;unfold IF;rw[PH];simp only [Ii,if_false];exact Ah (At (IH h))
theorem Mw.nil:Mw mg mb w C A U [] env Ab:=λ J s I Q E k=>by unfold IF;rw[La];exact At (k s Ab I.gi (.refl s) rfl)
theorem Mw.cons{c:Ac}{cs:List Ac}{b d:Bool}(h:Ni mg mb w C A U (isTrue c env (AM c env)) b)(hr:b=Ab->Mw mg mb w C A U cs env d)(hf:b=Ai->d=Ai):Mw mg mb w C A U (c::cs) env d:=λ J s I Q E k=>by
 unfold IF;rw[PH];simp only [if_true];refine Ah (Ah (h J s I _ _ λ s'1 e g t q=>At ?_));subst q
 induction e with
 |true=>exact hr rfl J s'1 (I.step t g) Q E λ s'2 d g'2 t'2 e=>k s'2 d g'2 (t.trans t'2) e
 |false=>exact QM cs (k s'1 Ai g t (hf rfl).symm)
theorem Qb{D:Aj}{zs:List V}{v:Ad}{V:V}{U'1:AQ}{W:Aj->Prop}(I:AX mg mb (C.plus W) J U'1 s)(hD:C.Y0 D)(hDm:¬C.mine D)(hDB:C.base.get? D=Ae)(hDT:¬Tb D)(hown:∀b,Am (C.plus W) J U'0 b->Am (C.plus W) J U'1 b)(ac:Gy (C.plus W) J U'0 D zs s)
  (hv:A6 s.heap (Am (C.plus W) J U'1) V v) (hz:(zs++[V]).length<=CN) {Q:Ad->Af->Prop} {E:Ad->Af->Prop}
  (k:∀s' u,AX mg mb (C.plus W) J U'1 s'->Gy (C.plus W) J U'0 D (zs++[V]) s'->Mv (λ b=>b=D) (λ z=>False) s s'->Q u s'):As (An pw w) A (C2 (.builtin "list.append") [.ref D,v]) Q E s:=by
 refine A9 ac λ hzs H=>?_;refine AF H λ ys hp hr=>?_;have e:ys.size=zs.length:=by rw[<-Ax];exact hr.length
 refine wpAny_list_append_plain hp (λ h' hp' hs'=>?_) (by rw[e,<-Fn];exact hzs);have hk:∀b o,b≠D->s.heap.get? b=Aa o->h'.get? b=Aa o:=λ b o q e=>hs'.extBut b o q e;have g':GI mg mb {s with heap:=h'}:=I.gi.to1 I.wd0 I.keep hk hDB hDT (.plain hp);have m:Mv (λ b=>b=D) (λ z=>False) s {s with heap:=h'}:=⟨λ b o z q e=>hk b o q e,λ z z z e=>e,rfl⟩;have I':=I.mvY m g' (λ b q=>q▸hDm) (λ b q=>q▸.inl hD) (λ b q=>q▸hDB) λ b q=>by refine Aw hp' λ n e=>?_;exact⟨_,q▸e⟩
 refine k _ _ I' ⟨hz,_,hp',?_⟩ m;rw[Array.toList_push];have up:∀(Y:Aj->Prop),(∀b,Am (C.plus W) J U'0 b->Y b)->∀{V v},A6 s.heap Y V v->A6 h' (Am (C.plus W) J U'0) V v:=λ Y hY V v r=>r.monoY (λ b o z y e=>hk b o (λ q=>y (hY b (q▸.inl (.inl hD)))) e) I.gi.cls λ b o z y=>hY b y;exact AI.snoc (AI.monoY (λ b o z y e=>hk b o (λ q=>y (q▸.inl (.inl hD))) e) I.gi.cls (λ b o z y=>y) hr) (up _ hown hv)
def JL(mg mb:Str->Option Ad)(w:B2)(A:Br)(K':Kx)(t:Tg)(U'0:AQ)(g:AQ->Option (List V))(RT:Env->Aj->Aj->(Af->Prop)->(Ad->Af->Prop)->Af->Prop):Prop:=
 ∀(C'1:Er) (env':Env) (D σ:Aj) (W P:Aj->Prop) (J:Nat->Aj) x U'1 ys zs s',AJ K' C'1 env'->C'1.Y0 D->¬C'1.mine D->C'1.base.get? D=Ae->¬Tb D->(∀x i,F8 K' x i=Ab->∀a,(C'1.loc i).at=Aa a->P a)->(∀b,P b->C'1.mine b)->
  Ck t x U'0=Aa U'1->g U'1=Aa ys->AX mg mb (C'1.plus W) J U'1 s'->Gy (C'1.plus W) J U'0 D zs s'->(zs++ys).length<=CN->∀(Q:Af->Prop) (E:Ad->Af->Prop),
  (∀s'',AX mg mb (C'1.plus W) J U'1 s''->Gy (C'1.plus W) J U'0 D (zs++ys) s''->Mv (λ b=>b=D\/P b) (λ z=>False) s' s''->Q s'')->RT env' D σ Q E s'
theorem L1:∀{vs:List Nat} {U:AQ} {j:Nat},j∉vs->rd (Du vs U) j=rd U j:=@λ I0=>by
 induction I0 with
 |nil=>exact@λ U j _=>rfl
 |cons v vs IH=>intro U j h;exact(IH λ q=>h (.tail _ q)).trans (AU λ e=>h (e▸.head _))
structure Qr(mg mb:Str->Option Ad)(C:Er)(J:Nat->Aj)(ρc:AQ)(K':Kx)(sc:Scope)(env:Env)(wr:Aj->Prop)(s'1:Af)(D L:Aj)(hp:AV)(C'1:Er)(P:Aj->Prop):Prop where
 keep:∀b o,s'1.heap.get? b=Aa o->hp.get? b=Aa o
 inv:AX mg mb (C'1.plus wr) J ρc {s'1 with heap:=hp}
 env:AJ K' C'1 (Mo sc env L)
 pn:∀b,P b->s'1.heap.get? b=Ae
 pm:∀b,P b->C'1.mine b
 mine:∀b,C'1.mine b->P b\/C.mine b
 names:∀x i,F8 K' x i=Ab->∀a,(C'1.loc i).at=Aa a->P a
 y0:∀b,C'1.Y0 b↔C.Y0 b\/C.mine b\/b=D\/b=L
 base:C'1.base=C.base
 dn:s'1.heap.get? D=Ae
 ln:s'1.heap.get? L=Ae
 dl:D≠L
 pd:¬P D
 pl:P L->∃i x,C'1.loc i=.dict L x
 list:hp.get? D=Aa {cls:=.type "list",dict:=Ae,data:=.seq ([]:List Ad).toArray}
 nsL:hp.Ns L λ z=>Ae
theorem YS(N:AJ K C env){sc:Scope}{vs:List Nat}(hK:IM K sc vs=Aa K'){wr:Aj->Prop}(I'1:AX mg mb (C.plus wr) J U s'1){ξ2 ξ3:AV}(hH2:s'1.heap.push {cls:=.type "list",dict:=Ae,data:=.seq ([]:List Ad).toArray}=ξ2) (hH3:ξ2.push {cls:=.type "dict",data:=.dict #[]}=ξ3):
  ∃C'1 P,Qr mg mb C J (Du vs U) K' sc env wr s'1 s'1.heap.objs.size ξ2.objs.size (Jd ξ3 sc.names) C'1 P:=by
 refine R4 (JB hK) λ hkind hnod hdis hacc hK'=>?_;generalize hL:ξ2.objs.size=L;generalize hDl:s'1.heap.objs.size=D;have zL:L=D+1:=by rw[<-hL,<-hH2,K8,hDl]
 have zH3:ξ3.objs.size=L+1:=by rw[<-hH3,K8,hL]
 have k12:∀b o,s'1.heap.get? b=Aa o->ξ2.get? b=Aa o:=λ b o e=>hH2▸AS _ e;have k23:∀b o,ξ2.get? b=Aa o->ξ3.get? b=Aa o:=λ b o e=>hH3▸AS _ e;have k34:=pushCells_keeps sc.names ξ3;have k14:∀b o,s'1.heap.get? b=Aa o->(Jd ξ3 sc.names).get? b=Aa o:=λ b o e=>k34 b o (k23 b o (k12 b o e));have none1:∀b,D<=b->s'1.heap.get? b=Ae:=λ b hb=>by
  cases e:s'1.heap.get? b with
  |none=>rfl
  |some o=>have:=AT e;rw[hDl] at this;exact absurd this (Nat.not_lt.mpr hb)
 have hDat:ξ2.get? D=Aa {cls:=.type "list",dict:=Ae,data:=.seq ([]:List Ad).toArray}:=by rw[<-hH2,<-hDl];exact AW _ rfl
 have hLat:ξ3.Ns L λ z=>Ae:=by rw[<-hH3,<-hL];exact Heap.Ns.new ξ2 (.type "dict")
 have cok:=cellsFrom_ok sc.names ξ3 (L+1) [] ⟨λ z z hm=>((absurd hm List.not_mem_nil)),List.Pairwise.nil⟩ (by rw[zH3];exact A1 _);rw[zH3] at cok;generalize hcl:BU (L+1) sc.names (Ji env sc.names [])=cells';generalize hvl0:Ke L cells' sc.names K'.acc=vl;have hLn:=none1 L (RV (zL.symm));have hDn:=none1 D (A1 _);have cellNew:∀n,(n,Cb)∈sc.names->∃c,(cells'.lookup n).getD 0=c/\(Jd ξ3 sc.names).IsCell c Ae/\L+1<=c/\(n,c)∈BU (L+1) sc.names []:=λ n hn=>by exact Oe hn λ c h1 h2=>⟨c,by rw[<-hcl,h1];rfl,(cok.empty n c h2).1,(cok.empty n c h2).2,h2⟩
 have hvl:∀i l,LO i vl=Aa l->(∃n,l=.dict L n)\/(∃c,l=.cell c/\(Jd ξ3 sc.names).IsCell c Ae/\s'1.heap.get? c=Ae):=λ i l h=>by
  rcases(Ik hacc (hvl0▸h)).2 with⟨n,e,_⟩|⟨n,e,hn⟩
  ·exact .inl ⟨n,e⟩
  ·exact ZF (cellNew n hn) λ c h1 h2 h3 z=>.inr ⟨c,by rw[e,h1],h2,none1 c (by omega)⟩
 have hinj:∀i j l,LO i vl=Aa l->LO j vl=Aa l->i=j:=λ i j l h h'=>by
  refine QG hacc (λ n n' hn hn' e=>?_) (hvl0▸h) (hvl0▸h');refine ZF (cellNew n hn) λ c h1 z z h2=>ZF (cellNew n' hn') λ c' h1' z z h2'=>?_
  cases (show c=c' by rw[<-h1,<-h1',e])
  exact name_of_addr cok.apart h2 h2'
 have t14:C7 s'1 {s'1 with heap:=Jd ξ3 sc.names}:=.all k14 s'1.toks;have I'4:AX mg mb ((C.comp vl D L).plus wr) J (Du vs U) {s'1 with heap:=Jd ξ3 sc.names}:=by rw[<-VA];exact I'1.comp t14 (I'1.gi.all k14 s'1.toks) hvl (hLat.keeps k34) hLn hDn ⟨_,k34 _ _ (k23 _ _ hDat)⟩ hinj (λ i l h=>Ju.1 (Ik hacc (hvl0▸h)).1) λ i=>Ju.2
 have Ploc:∀i l,LO i vl=Aa l->(C.comp vl D L).loc i=l:=λ i l h=>by unfold Er.comp;dsimp only;rw[h];rfl
 refine⟨C.comp vl D L,λ b=>∃i l,LO i vl=Aa l/\l.at=Aa b,k14,I'4,by rw[<-hvl0,<-hcl];exact S1 N hK L D,λ b ⟨i,l,h1,h2⟩=>?_,λ b ⟨i,l,h1,h2⟩=>Er.mine_of (by rw[Ploc i l h1];exact h2),λ b h=>?_,λ x i hx a ha=>?_,λ b=>?_,rfl,hDn,hLn,λ e=>Dx D (zL.symm.trans e.symm),λ ⟨i,l,h1,h2⟩=>?_,λ ⟨i,l,h1,h2⟩=>?_,k34 _ _ (k23 _ _ hDat),hLat.keeps k34⟩
 ·rcases hvl i l h1 with⟨n,e⟩|⟨c,e,_,h3⟩
  ·subst e;obtain rfl:=sj h2;exact hLn
  ·subst e;obtain rfl:=sj h2;exact h3
 ·rcases h with⟨i,x,e⟩|⟨i,e⟩
  ·rcases Ep e with h|⟨_,h⟩
   ·exact .inl ⟨i,_,h,rfl⟩
   ·exact .inr (.inl ⟨i,x,h⟩)
  ·rcases Ep e with h|⟨_,h⟩
   ·exact .inl ⟨i,_,h,rfl⟩
   ·exact .inr (.inr ⟨i,h⟩)
 ·refine Aw (lO (D:=L) (cells:=cells') hK hx) λ l hl=>?_;rw[hvl0] at hl;rw[Ploc i l hl] at ha;exact⟨i,l,hl,ha⟩
 ·exact VY
 ·rcases hvl i l h1 with⟨n,e⟩|⟨c,e,⟨o,h3,h4⟩,_⟩
  ·subst e
   cases (AE h2)
   exact absurd zL (Ci (G9 _))
  ·subst e
   cases (AE h2)
   rw[k34 _ _ (k23 _ _ hDat)] at h3;obtain rfl:=sj h3;cases h4
 ·rcases hvl i l h1 with⟨n,e⟩|⟨c,e,⟨o,h3,h4⟩,_⟩
  ·subst e;exact⟨i,n,Ploc i _ h1⟩
  ·subst e
   cases (AE h2)
   refine Lb (hLat.keeps k34) λ o3 es ep h5 h6 z=>?_;rw[h3] at h5;obtain rfl:=sj h5;rw[h4] at h6;cases h6
theorem NS{h:AV}{b:Aj}(e:h.get? b=Ae):¬∃o,h.get? b=Aa o:=λ ⟨o,e'⟩=>by rw[e] at e';exact nn e'
theorem Hn(g:GI mg mb s'1)(t:C7 s s'1){b:Aj}(h:s'1.heap.get? b=Ae):s.heap.get? b=Ae:=by
 cases e:s.heap.get? b with
 |none=>rfl
 |some o=>exact absurd (FC g t ⟨o,e⟩) (NS h)
theorem Qr.lpw{sc:Scope}{vs:List Nat}{t:Tg}{wr P Wp:Aj->Prop}{gw:Nat->Prop}{Px:Obj->Obj->Prop}{D L σ:Aj}{hp:AV}{C'1:Er}{xs:List V}{St:Nat->Af->Prop}(X:Qr mg mb C J (Du vs U) K' sc env wr s'1 D L hp C'1 P)(ht:F5 K' t tg=Ab)(I'0:AX mg mb C J U s'0)(t1:C7 s'0 s'1)(g1:GI mg mb s'1)(T:G5 mg mb w A tg σ xs (Am C J U) C.base s'0 wr gw St)(st0:St 0 s'1)
  (hWp:∀b,Wp b->Am C J U b/\(∀v∈vs,∀ys,rd U v≠.x ys)/\¬Tb b) (hPr:∀o,Px o o) (hPt:∀{a b c},Px a b->Px b c->Px a c):xJ mg mb w A C'1 J (Du vs U) K' t tg D (Am C J U) wr P Wp Px s'0:=by
 refine CA (Hg I'0 T.new) λ hm h0 hB hTb=>?_;have wrEx:=T.there 0 s'1 st0;have thr:∀{b},Am C J U b->∃o,s'1.heap.get? b=Aa o:=λ y=>FC g1 t1 (I'0.there _ y);refine⟨ht,λ i hi a ha=>?_,X.pm,(X.y0 D).mpr (.inr (.inr (.inl rfl))),λ h=>(X.mine D h).elim X.pd λ h=>NS X.dn (FC g1 t1 (I'0.mine_there h)),(λ h=>by refine Aw (g1.wd.tb D h) λ vs e=>?_;rw[X.dn] at e;exact nn e),λ b y=>?_,λ b q h=>?_,λ b q h=>?_,by rw[X.base];exact hB,hTb,λ b q=>?_,hPr,hPt⟩
 ·exact Aw (RA ht i hi) λ x hx=>X.names x i hx a ha
 ·rcases y with y|y|⟨j,ys,e1,e2⟩
  ·rcases(X.y0 b).mp y with y|y|y|y
   ·exact .inl (.inl y)
   ·exact .inl (.inr (.inl y))
   ·exact .inr (Hn g1 t1 (y▸X.dn))
   ·exact .inr (Hn g1 t1 (y▸X.ln))
  ·exact(X.mine b y).elim (λ h=>.inr (Hn g1 t1 (X.pn b h))) λ h=>.inl (.inr (.inl h))
  ·rcases Ju |>.2 with q|q
   ·exact .inl (.inr (.inr ⟨j,ys,by rw[<-q];exact e1,e2⟩))
   ·rw[q] at e1;cases e1
 ·exact(X.mine b h).elim (λ h=>NS (X.pn b h) (wrEx b q)) (hm b q)
 ·rcases(X.y0 b).mp h with h|h|h|h
  ·exact h0 b q h
  ·exact hm b q h
  ·exact NS X.dn (h▸wrEx b q)
  ·exact NS X.ln (h▸wrEx b q)
 ·refine Db (hWp b q) λ y hno hT=>⟨?_,λ h=>?_,λ h=>NS (X.pn b h) (thr y),λ e=>NS X.dn (e▸thr y),hT⟩
  ·rcases y with y|y|⟨j,ys,e1,e2⟩
   ·exact .inl ((X.y0 b).mpr (.inl y))
   ·exact .inl ((X.y0 b).mpr (.inr (.inl y)))
   ·refine .inr (.inr ⟨j,ys,?_,e2⟩)
    by_cases hj:j∈vs
    ·exact absurd e1 (hno j hj ys)
    ·rw[L1 hj];exact e1
  ·exact NS (T.new b h) (I'0.there b y)
def xN(mg mb:Str->Option Ad)(w:B2)(A:Br)(C:Er)(J:Nat->Aj)(U ρe:AQ)(s:Af)(Wp:Aj->Prop)(Px:Obj->Obj->Prop)(all:List V)(use:Option (Ad->Sem Unit))(Q:Ad->Af->Prop)(E:Ad->Af->Prop):Prop:=
 ∀s' D L C'1,AX mg mb C'1 J ρe s'->(∀b,Am (C.plus λ b=>b=L) J U b->Am C'1 J ρe b)->(∀b o,¬Tb b->¬Wp b->s.heap.get? b=Aa o->s'.heap.get? b=Aa o)->Nh Wp Px s.heap s'.heap->(∀(j:Nat) x,s.gens[j]?=Aa x->s'.gens[j]?=Aa x)->s'.os=s.os->s.heap.get? L=Ae->(∃m,s'.heap.Ns L m)->
  A6 s'.heap (Am (C.plus λ b=>b=L) J U) (.list all) (.ref D)->compPost (An pw w) A E use Q (.ref D) L (.ok .next) s'
def Zo(mg mb:Str->Option Ad)(K':Kx)(J:Nat->Aj)(t:Tg)(B h0:AV)(ρs:Nat->AQ)(zs:Nat->List V)(xs:List V)(Wp:Aj->Prop)(Px:Obj->Obj->Prop)(RT:Env->Aj->Aj->(Af->Prop)->(Ad->Af->Prop)->Af->Prop):Prop:=
 ∀(C'1:Er) (env':Env) (D σ:Aj) (W P:Aj->Prop) i x U'1 s',AJ K' C'1 env'->C'1.Y0 D->¬C'1.mine D->C'1.base=B->B.get? D=Ae->¬Tb D->(∀x i,F8 K' x i=Ab->∀a,(C'1.loc i).at=Aa a->P a)->(∀b,P b->C'1.mine b)->
  xs[i]?=Aa x->Ck t x (ρs i)=Aa U'1->AX mg mb (C'1.plus W) J U'1 s'->Gy (C'1.plus W) J (ρs 0) D (zs i) s'->Nh Wp Px h0 s'.heap->∀(Q:Af->Prop) (E:Ad->Af->Prop),
  (∀s'',AX mg mb (C'1.plus W) J (ρs (i+1)) s''->Gy (C'1.plus W) J (ρs 0) D (zs (i+1)) s''->Mv (λ b=>b=D\/P b\/Wp b) (λ z=>False) s' s''->Nh Wp Px s'.heap s''.heap->Q s'')->RT env' D σ Q E s'
theorem YT(N:AJ K C env)(hh:A.handled=Ae){elt itx:Ac}{ifs:List Ac}{more:List Cm}{sc:Scope}{pos pos':Pos}{vs:List Nat}{t:Tg}{xs:List V}{RT:Env->Aj->Aj->(Af->Prop)->(Ad->Af->Prop)->Af->Prop}{ρj:Nat->AQ}{zs:Nat->List V}{Wp:Aj->Prop}{Px:Obj->Obj->Prop}
  (hK:IM K sc vs=Aa K') (ht:F5 K' t tg=Ab) (hit:H9 mg mb w C A U tg (AM itx env) xs) (hs:∀x,BB itx env x=pure x) (hno:∀v∈vs,∀ys,rd U v≠.x ys)
  (hturn:∀env' D σ (s:Af) (P:Fin->Af->Prop) (E:Ad->Af->Prop),As (An pw w) A (D7 (.ref σ)) (λ r s'1=>match r with
    |none=>P (.done .next) s'1
    |some v=>As (An pw w) A (Bh tg (.ref σ) v) (λ z s'2=>As (An pw w) A (EH tg env' v) (λ z s'3=>RT env' D σ (λ s'4=>P (.again (.compLoop (.ListComp elt (⟨tg,itx,ifs,0⟩::more) sc pos) 0 (.ref σ) (.ref D) env')) s'4) E s'3) E s'2) E s'1) E s->
   As (An pw w) A (Gk (.ListComp elt (⟨tg,itx,ifs,0⟩::more) sc pos) 0 (.ref σ) (.ref D) env') P E s)
  (hρ0:ρj 0=U) (hz0:zs 0=[]) (hjo:∀i j ys,rd (ρj i) j=.x ys->∃zs,rd U j=.x zs) (hje:∀j ys,rd U j=.x ys->∃zs,rd (ρj xs.length) j=.x zs) (hPr:∀o,Px o o) (hPt:∀{a b c},Px a b->Px b c->Px a c)
  (hbind:∀i x,xs[i]?=Aa x->∃U'1,Ck t x (Du vs (ρj i))=Aa U'1) (use:Option (Ad->Sem Unit)) (J:Nat->Aj) (s:Af) (I:AX mg mb C J U s) (hWp:∀b,Wp b->Am C J U b/\¬Tb b)
  (hin:Zo mg mb K' J t C.base s.heap (λ i=>Du vs (ρj i)) zs xs Wp Px RT) (Q:Ad->Af->Prop) (E:Ad->Af->Prop) (kpost:xN mg mb w A C J U (Du vs (ρj xs.length)) s Wp Px (zs xs.length) use Q E):
  As (An pw w) A (comprehension (.ListComp elt (⟨tg,itx,ifs,0⟩::more) sc pos) sc env pos' (newList []) Ai (AM itx env) use) Q E s:=by
 subst hρ0;refine Db (JB hK) λ hkind hnod z=>wpAny_comprehension_free rfl hs (VB N hK) hkind (λ x hx e=>BE hnod (by rw[<-e];exact hx)) (hit J s I _ _ λ s'0 s'1 σ wr gw St t0 g0 t1 g1 T st0=>?_);have I'0:=I.step t0 g0;refine Hb (Xk ?_) (by size_fits);refine F1 (YS N hK (I'0.more t1 g1 T.new (T.there 0 s'1 st0)) rfl rfl) λ C'1 P X=>?_
 revert X
 generalize Jd _ sc.names=hp;generalize Array.size (Heap.objs (Heap.push _ _))=L;generalize s'1.heap.objs.size=D;intro X;have W:=X.lpw ht I'0 t1 g1 T st0 (λ b q=>⟨(hWp b q).1,hno,(hWp b q).2⟩) hPr hPt;have av:∀i b,Am C'1 J (Du vs (ρj i)) b->Am C'1 J (Du vs (ρj 0)) b:=λ i b y=>by
  rcases y with y|y|⟨j,ys,e1,e2⟩
  ·exact .inl y
  ·exact .inr (.inl y)
  ·rcases Ju |>.2 with q|q
   ·rw[q] at e1;refine Aw (hjo i j ys e1) λ zs e3=>?_
    by_cases hj:j∈vs
    ·exact absurd e3 (hno j hj zs)
    ·exact .inr (.inr ⟨j,zs,by rw[L1 hj];exact e3,e2⟩)
   ·rw[q] at e1;cases e1
 have fr:St 0 {s'1 with heap:=hp}:=T.frame 0 s'1 _ st0 (λ b o z e=>X.keep b o e) λ j x z e=>e;have fm:LG (Am C J (ρj 0)) s'0 {s'1 with heap:=hp}:=λ b o n y e=>X.keep b o (t1.keep b o n e);have loop:∀(R:Result->Af->Prop),(∀s',AX mg mb C'1 J (Du vs (ρj xs.length)) s'->Gy C'1 J (Du vs (ρj 0)) D (zs xs.length) s'->Mv (λ b=>b=D\/P b\/Wp b\/wr b) gw {s'1 with heap:=hp} s'->Nh Wp Px hp s'.heap->R (.ok .next) s')->
   Qv (An pw w) A (.compLoop (.ListComp elt (⟨tg,itx,ifs,0⟩::more) sc pos) 0 (.ref σ) (.ref D) (Mo sc env L)) R {s'1 with heap:=hp}:=λ R k=>
  Pv X.env hh rfl rfl (λ z z z z h=>h) (hturn (Mo sc env L) D σ) W (by rw[X.base];exact T) hbind av
   (λ i x U'1 s' hx hb I' ac' w' Q E kk=>hin C'1 (Mo sc env L) D σ wr P i x U'1 s' X.env W.hD W.hDm X.base (DY I'0 (Hn g1 t1 X.dn)) W.hDT X.names X.pm hx hb I' ac' (λ b o q e=>w' b o q (X.keep b o (t1.keep b o (hWp b q).2 (t0.keep b o (hWp b q).2 e)))) Q E kk) X.inv fr ⟨by rw[hz0];exact Bj _,#[],⟨0,X.list⟩,by rw[hz0];rfl⟩ fm k
 have post:∀s',AX mg mb C'1 J (Du vs (ρj xs.length)) s'->Gy C'1 J (Du vs (ρj 0)) D (zs xs.length) s'->Mv (λ b=>b=D\/P b\/Wp b\/wr b) gw {s'1 with heap:=hp} s'->Nh Wp Px hp s'.heap->compPost (An pw w) A E use Q (.ref D) L (.ok .next) s':=λ s' I' ac' m wp=>by
  refine A9 ac' λ hz H=>?_;refine AF H λ ys H2 hr=>?_;obtain⟨n,hpl⟩:=H2;have sL:=Hn g0 t0 (Hn g1 t1 X.ln);have avo:∀b,Am (C.plus λ b=>b=L) J (ρj 0) b->(∀j ys,j∉vs->rd (ρj 0) j=.x ys->∃zs,rd (Du vs (ρj xs.length)) j=.x zs)->Am C'1 J (Du vs (ρj xs.length)) b:=λ b y hj=>by
   rcases Be.mp y with(y|y|⟨j,ys,e1,e2⟩)|y
   ·exact .inl ((X.y0 b).mpr (.inl y))
   ·exact .inl ((X.y0 b).mpr (.inr (.inl y)))
   ·exact Aw (hj j ys (λ h=>hno j h ys e1) e1) λ zs e=>.inr (.inr ⟨j,zs,e,e2⟩)
   ·exact .inl ((X.y0 b).mpr (.inr (.inr (.inr y))))
  have own:∀j ys,j∉vs->rd (ρj 0) j=.x ys->∃zs,rd (Du vs (ρj xs.length)) j=.x zs:=λ j ys hj e=>by exact Aw (hje j ys e) λ zs e'=>⟨zs,by rw[L1 hj];exact e'⟩
  have keepW:∀b o,¬Tb b->¬Wp b->s.heap.get? b=Aa o->s'.heap.get? b=Aa o:=λ b o nt nw e=>by
   have e0:=t0.keep b o nt e;have e1:=t1.keep b o nt e0;refine m.heap b o nt (λ h=>?_) (X.keep b o e1);rcases h with h|h|h|h
   ·rw[h,X.dn] at e1;exact nn e1
   ·rw[X.pn b h] at e1;exact nn e1
   ·exact nw h
   ·rw[T.new b h] at e0;exact nn e0
  refine kpost s' D L C'1 I' (λ b y=>avo b y own) keepW (λ b o q e=>?_) (λ j x e=>?_) (m.os.trans (t1.os.trans t0.os)) sL ?_ ⟨hz,D,ys,rfl,λ y=>?_,⟨n,hpl⟩,AI.mono (.refl _) I'.gi.cls (λ b o z y=>av _ b (avo b y own)) hr⟩
  ·have hT:=(hWp b q).2;exact wp b o q (X.keep b o (t1.keep b o hT (t0.keep b o hT e)))
  ·have e1:=t0.gens j x e;refine m.gens j x (λ h=>?_) (t1.gens j x e1);rw[T.newg j h] at e1;exact nn e1
  ·by_cases q:P L
   ·exact AF (I'.dicts L (X.pl q)) λ m n z=>⟨m,n⟩
   ·refine⟨_,X.nsL.at λ o e=>m.heap L o (λ t=>by refine Aw (g1.wd.tb L t) λ vs e2=>?_;rw[X.ln] at e2;exact nn e2) (λ h=>?_) e⟩;rcases h with h|h|h|h
    ·exact X.dl h.symm
    ·exact q h
    ·exact NS X.ln (FC g1 t1 (I'0.there _ (hWp L h).1))
    ·exact NS X.ln (T.there 0 s'1 st0 L h)
  ·rcases Be.mp y with y|y
   ·exact NS (Hn g1 t1 X.dn) (I'0.there D y)
   ·exact X.dl y
 exact codeAny_compStart_list (loop _ post) (T.self 0 {s'1 with heap:=hp} (Bj _) fr fm _ _ (loop _ post))
theorem hJ(N:AJ K C env)(hh:A.handled=Ae){elt itx:Ac}{ifs:List Ac}{more:List Cm}{sc:Scope}{pos pos':Pos}{vs:List Nat}{t:Tg}{xs all:List V}{g:AQ->Option (List V)}{RT:Env->Aj->Aj->(Af->Prop)->(Ad->Af->Prop)->Af->Prop}
  (hK:IM K sc vs=Aa K') (htin:∀i∈t.vars,i∈vs) (ht:F5 K' t tg=Ab) (hit:H9 mg mb w C A U tg (AM itx env) xs) (hs:∀x,BB itx env x=pure x) (hno:∀v∈vs,∀ys,rd U v≠.x ys)
  (hturn:∀env' D σ (s:Af) (P:Fin->Af->Prop) (E:Ad->Af->Prop),As (An pw w) A (D7 (.ref σ)) (λ r s'1=>match r with
    |none=>P (.done .next) s'1
    |some v=>As (An pw w) A (Bh tg (.ref σ) v) (λ z s'2=>As (An pw w) A (EH tg env' v) (λ z s'3=>RT env' D σ (λ s'4=>P (.again (.compLoop (.ListComp elt (⟨tg,itx,ifs,0⟩::more) sc pos) 0 (.ref σ) (.ref D) env')) s'4) E s'3) E s'2) E s'1) E s->
   As (An pw w) A (Gk (.ListComp elt (⟨tg,itx,ifs,0⟩::more) sc pos) 0 (.ref σ) (.ref D) env') P E s)
  (hin:JL mg mb w A K' t (Du vs U) g RT)
  (hall:Eb (λ x=>(Ck t x (Du vs U)).bind g) xs=Aa all) (hsz:all.length<=CN) (use:Option (Ad->Sem Unit)) (J:Nat->Aj) (s:Af) (I:AX mg mb C J U s) (Q:Ad->Af->Prop) (E:Ad->Af->Prop)
  (kpost:∀s' D L,GI mg mb s'->C7 s s'->s.heap.get? L=Ae->(∃m,s'.heap.Ns L m)->A6 s'.heap (Am (C.plus λ b=>b=L) J U) (.list all) (.ref D)->compPost (An pw w) A E use Q (.ref D) L (.ok .next) s'):
  As (An pw w) A (comprehension (.ListComp elt (⟨tg,itx,ifs,0⟩::more) sc pos) sc env pos' (newList []) Ai (AM itx env) use) Q E s:=by
 refine E3 (MM (zs0:=[]) hall) λ zs z0 z1 z2=>?_;rw[Ko] at z1 z2;refine YT N hh hK ht hit hs hno hturn rfl z0 (λ z j ys e=>⟨ys,e⟩) (λ j ys e=>⟨ys,e⟩) (λ z=>trivial) (λ z z=>trivial) (λ i x hx=>?_) use J s I (λ z h=>h.elim) ?_ Q E λ s' D L C'1 I' z hk z hg ho hL hn hr=>kpost s' D L I'.gi ⟨λ b o n e=>hk b o n id e,hg,ho⟩ hL hn (z1▸hr)
 ·exact AF (z2 i x hx) λ ys h1 z=>bK h1 λ U'1 h2 z=>⟨U'1,h2⟩
 ·intro C'1 env' D σ W P i x U'1 s' N' hD hDm hB hDB hDT hP hPm hx hb I' ac z Q E k;refine E3 (z2 i x hx) λ ys h1 h2 h3=>?_;rw[hb] at h1;refine hin C'1 env' D σ W P J x U'1 ys (zs i) s' N' hD hDm (hB▸hDB) hDT hP hPm hb h1 I' ac (h2▸Ak h3 hsz) Q E λ s'' I'' ac'' m=>k s'' (I''.forget λ j=>?_) (h2▸ac'') (m.weak (λ b h=>h.elim .inl λ h=>.inr (.inl h)) λ z h=>h) λ z z h=>h.elim
  by_cases hj:j∈t.vars
  ·exact .inr (Ju.1 (htin j hj))
  ·exact .inl ((Hx hb j).1 hj).symm
theorem AX.letGo{L:Aj}{h':AV}(I:AX mg mb (C.plus λ b=>b=L) J U s)(hm:¬C.mine L)(h0:¬C.Y0 L)(hb:C.base.get? L=Ae)(hT:¬Tb L)(hs:B8 L s.heap h')(hn:EO s.heap L):AX mg mb C J U {s with heap:=h'}:=by have hk:∀b o,b≠L->s.heap.get? b=Aa o->h'.get? b=Aa o:=λ b o q e=>hs.extBut b o q e;have g':GI mg mb {s with heap:=h'}:=I.gi.to1 I.wd0 I.keep hk hb hT hn;have m:Mv (λ b=>b=L) (λ z=>False) s {s with heap:=h'}:=⟨λ b o z q e=>hk b o q e,λ z z z e=>e,rfl⟩;have I'2:AX mg mb (C.plus λ z=>False) J U {s with heap:=h'}:=I.mv0 m g' (λ b q=>q▸hm) (λ b q=>q▸h0) (λ b q=>q▸hb) (λ b h=>h.elim) λ b h=>h.elim;exact I'2.less
theorem AX.fresh_facts(I:AX mg mb C J U s){L:Aj}(h:s.heap.get? L=Ae):¬C.mine L/\¬C.Y0 L/\C.base.get? L=Ae/\¬Tb L:=CA (Hg (W:=λ b=>b=L) I λ b q=>q▸h) λ h1 h2 h3 h4=>⟨h1 L rfl,h2 L rfl,h3 L rfl,h4 L rfl⟩
theorem TO(N:AJ K C env)(hh:A.handled=Ae){elt itx:Ac}{ifs:List Ac}{more:List Cm}{sc:Scope}{pos:Pos}{vs:List Nat}{t:Tg}{xs all:List V}{g:AQ->Option (List V)}{RT:Env->Aj->Aj->(Af->Prop)->(Ad->Af->Prop)->Af->Prop}
  (hK:IM K sc vs=Aa K') (htin:∀i∈t.vars,i∈vs) (ht:F5 K' t tg=Ab) (hit:H9 mg mb w C A U tg (AM itx env) xs) (hs:∀x,BB itx env x=pure x) (hno:∀v∈vs,∀ys,rd U v≠.x ys)
  (hturn:∀env' D σ (s:Af) (P:Fin->Af->Prop) (E:Ad->Af->Prop),As (An pw w) A (D7 (.ref σ)) (λ r s'1=>match r with
    |none=>P (.done .next) s'1
    |some v=>As (An pw w) A (Bh tg (.ref σ) v) (λ z s'2=>As (An pw w) A (EH tg env' v) (λ z s'3=>RT env' D σ (λ s'4=>P (.again (.compLoop (.ListComp elt (⟨tg,itx,ifs,0⟩::more) sc pos) 0 (.ref σ) (.ref D) env')) s'4) E s'3) E s'2) E s'1) E s->
   As (An pw w) A (Gk (.ListComp elt (⟨tg,itx,ifs,0⟩::more) sc pos) 0 (.ref σ) (.ref D) env') P E s)
  (hin:JL mg mb w A K' t (Du vs U) g RT)
  (hall:Eb (λ x=>(Ck t x (Du vs U)).bind g) xs=Aa all) (hsz:all.length<=CN):Cg mg mb w C A U (AM (.ListComp elt (⟨tg,itx,ifs,0⟩::more) sc pos) env) (.list all):=λ J s I Q E k=>by
 rw[Zq];refine hJ N hh hK htin ht hit hs hno hturn hin hall hsz Ae J s I Q E λ s' D L g' t' hL ⟨m,hn⟩ rv=>⟨m,hn,λ h' hsb=>?_⟩;refine CA (I.fresh_facts hL) λ hm h0 hb hT=>?_;have I':AX mg mb (C.plus λ b=>b=L) J U s':=I.more t' g' (λ b q=>q▸hL) λ b q=>by refine Lc hn λ o z z ho z=>?_;exact⟨o,q▸ho⟩
 have I'2:=I'.letGo hm h0 hb hT hsb (.ns hn);have hYY:∀b o,s'.heap.get? b=Aa o->Am C J U b->Am (C.plus λ b=>b=L) J U b:=λ b o z y=>Be.mpr (.inl y);have rv':=A6.monoY (Y:=Am (C.plus λ b=>b=L) J U) (λ b o n y e=>hsb.extBut b o (λ q=>y (Be.mpr (.inr q))) e) g'.cls hYY rv;exact k _ _ I'2.gi ⟨λ b o n e=>hsb.extBut b o (λ q=>by rw[q,hL] at e;exact nn e) (t'.keep b o n e),t'.gens,t'.os⟩ rv'
theorem WH(N:AJ K C env)(hh:A.handled=Ae){elt itx:Ac}{ifs:List Ac}{more:List Cm}{sc:Scope}{pos p spos:Pos}{z:Str}{i:Nat}{vs:List Nat}{t:Tg}{xs all:List V}{g:AQ->Option (List V)}{RT:Env->Aj->Aj->(Af->Prop)->(Ad->Af->Prop)->Af->Prop}
  (hz:F8 K z i=Ab) (hsw:DQ (.ListComp elt (⟨tg,itx,ifs,0⟩::more) sc pos) (Aa (.Name z p)) spos.line env=pure Ab)
  (hK:IM K sc vs=Aa K') (htin:∀i∈t.vars,i∈vs) (ht:F5 K' t tg=Ab) (hit:H9 mg mb w C A U tg (AM itx env) xs) (hs:∀x,BB itx env x=pure x) (hno:∀v∈vs,∀ys,rd U v≠.x ys)
  (hturn:∀env' D σ (s:Af) (P:Fin->Af->Prop) (E:Ad->Af->Prop),As (An pw w) A (D7 (.ref σ)) (λ r s'1=>match r with
    |none=>P (.done .next) s'1
    |some v=>As (An pw w) A (Bh tg (.ref σ) v) (λ y s'2=>As (An pw w) A (EH tg env' v) (λ y s'3=>RT env' D σ (λ s'4=>P (.again (.compLoop (.ListComp elt (⟨tg,itx,ifs,0⟩::more) sc pos) 0 (.ref σ) (.ref D) env')) s'4) E s'3) E s'2) E s'1) E s->
   As (An pw w) A (Gk (.ListComp elt (⟨tg,itx,ifs,0⟩::more) sc pos) 0 (.ref σ) (.ref D) env') P E s)
  (hin:JL mg mb w A K' t (Du vs U) g RT)
  (hall:Eb (λ x=>(Ck t x (Du vs U)).bind g) xs=Aa all) (hsz:all.length<=CN):D1 mg mb w C A U (DP (.Assign [.Name z p] (.ListComp elt (⟨tg,itx,ifs,0⟩::more) sc pos) spos) env) (.next,wr U i (.w (.list all))):=λ J s I Q E k=>by
 rw[exec_Assign_Name_used _ _ _ _ hsw];refine Ah (DJ (Ah ?_));rw[arm_evalThenUse_ListComp];refine Ah (hJ N hh hK htin ht hit hs hno hturn hin hall hsz _ J s I _ E λ s' D L g' t' hL hn rv=>?_);refine CA (I.fresh_facts hL) λ hm h0 hb hT=>?_;have I':AX mg mb (C.plus λ b=>b=L) J U s':=I.more t' g' (λ b q=>q▸hL) λ b q=>by refine iJ hn λ m o y y ho y=>?_;exact⟨o,q▸ho⟩
 refine Fk (Mr N.plus hz I' rv λ s'2 I'2 f'2 m'2=>?_);refine Aw hn λ m n=>?_;have nL:¬(C.loc i).at=Aa L:=λ h=>hm (C.mine_of h);refine⟨m,n.at λ o e=>m'2.heap L o hT (λ q=>nL q) e,λ h' hsb=>?_⟩;have I'3:=I'2.letGo hm h0 hb hT hsb (.ns (n.at λ o e=>m'2.heap L o hT (λ q=>nL q) e));refine At (At (k J _ .next I'3 ?_ rfl));have f':=(CT.of_stp t' g').trans f'2.unplus;refine f'.mv (gw:=λ y=>False) ⟨λ b o y q e=>hsb.extBut b o q e,λ y y y e=>e,rfl⟩ I'3.gi (λ b q=>q▸hL) λ y h=>h.elim
def fF(w:B2)(A:Br)(ifs:List Ac)(elt:Ac)(env:Env)(D σ:Aj)(Q:Af->Prop)(E:Ad->Af->Prop)(s:Af):Prop:=
 As (An pw w) A (IF ifs env Ab) (λ ok s'1=>if ok=Ab then As (An pw w) A (AM elt env) (λ x s'2=>As (An pw w) A (C2 (.builtin "list.append") [.ref D,x]) (λ z s'3=>Q s'3) E s'2) E s'1 else Q s'1) E s
theorem Wu{elt itx:Ac}{ifs:List Ac}{sc:Scope}{pos:Pos}(env':Env)(D σ:Aj)(s:Af)(P:Fin->Af->Prop)(E:Ad->Af->Prop)
  (h:As (An pw w) A (D7 (.ref σ)) (λ r s'1=>match r with
    |none=>P (.done .next) s'1
    |some v=>As (An pw w) A (Bh tg (.ref σ) v) (λ z s'2=>As (An pw w) A (EH tg env' v) (λ z s'3=>fF w A ifs elt env' D σ (λ s'4=>P (.again (.compLoop (.ListComp elt [⟨tg,itx,ifs,0⟩] sc pos) 0 (.ref σ) (.ref D) env')) s'4) E s'3) E s'2) E s'1) E s):
  As (An pw w) A (Gk (.ListComp elt [⟨tg,itx,ifs,0⟩] sc pos) 0 (.ref σ) (.ref D) env') P E s:=by
 rw[compTurn_list];refine Ah (DJ (Ah (A2 h (λ r s'1 h'1=>?_) λ z z h'=>h')))
 induction r with
 |none=>exact At h'1
 |some v=>
  refine Ah (A2 h'1 (λ z s'2 h'2=>Ah (A2 h'2 (λ z s'3 h'3=>Ah (A2 h'3 (λ ok s'4 h'4=>?_) λ z z h'=>h')) λ z z h'=>h')) λ z z h'=>h')
  induction ok with
  |false=>exact At h'4
  |true=>exact Ah (Ah (A2 h'4 (λ x s'5 h'5=>Ah (A2 h'5 (λ z s'6 h'6=>At (At h'6)) λ z z h'=>h')) λ z z h'=>h'))
theorem QW{t:Tg}{x:V}{vs:List Nat}{U'1:AQ}(htin:∀i∈t.vars,i∈vs)(h:Ck t x (Du vs U)=Aa U'1):∀j ys,rd (Du vs U) j=.x ys->rd U'1 j=.x ys:=λ j ys e=>by
 by_cases hj:j∈t.vars
 ·rw[Ju.1 (htin j hj)] at e;cases e
 ·rw[(Hx h j).1 hj];exact e
theorem vF{t:Tg}{ifs:List Ac}{elt:Ac}{g:AQ->Option (List V)}(hos:∀x U'1,Ck t x U'0=Aa U'1->∀j ys,rd U'0 j=.x ys->rd U'1 j=.x ys)
  (hg:∀C' env' U'1 ys,AJ K' C' env'->g U'1=Aa ys->∃b,Mw mg mb w C' A U'1 ifs env' b/\(b=Ab->∃v,ys=[v]/\Cg mg mb w C' A U'1 (AM elt env') v)/\(b=Ai->ys=[])):
  JL mg mb w A K' t U'0 g (fF w A ifs elt):=by
 intro C'1 env' D σ W P J x U'1 ys zs s' N hD hDm hDB hDT hP hPm hb hgy I ac hlen Q E k;refine E3 (hg (C'1.plus W) env' U'1 ys N.plus hgy) λ b h1 h2 h3=>?_;have hown:∀b,Am (C'1.plus W) J U'0 b->Am (C'1.plus W) J U'1 b:=λ b y=>by
  rcases y with y|y|⟨j,us,e1,e2⟩
  ·exact .inl y
  ·exact .inr (.inl y)
  ·exact .inr (.inr ⟨j,us,hos x U'1 hb j us e1,e2⟩)
 have acStp:∀{s'1 s'2:Af} {zs:List V},Gy (C'1.plus W) J U'0 D zs s'1->GI mg mb s'1->C7 s'1 s'2->Gy (C'1.plus W) J U'0 D zs s'2:=λ ac g t=>ac.mv (W:=λ z=>False) (gw:=λ z=>False) g (Mv.of_stp t) (λ h=>h) hDT λ b h=>h.elim;refine h1 J s' I _ _ λ s'1 d g'1 t'1 e=>?_;subst e
 induction d with
 |false=>rw[if_neg (by decide)];rw[h3 rfl,DT] at k;exact k s'1 (I.step t'1 g'1) (acStp ac I.gi t'1) (Mv.of_stp t'1)
 |true=>rw[if_pos rfl];refine AF (h2 rfl) λ v H2 hv=>?_;subst H2;refine hv J s'1 (I.step t'1 g'1) _ _ λ s'2 u g'2 t'2 ru=>?_;have I'2:=(I.step t'1 g'1).step t'2 g'2;exact Qb I'2 hD hDm hDB hDT hown (acStp (acStp ac I.gi t'1) g'1 t'2) ru hlen λ s'3 z I'3 ac3 m'3=>k s'3 I'3 ac3 (((Mv.of_stp (W:=λ z=>False) (t'1.trans t'2)).trans m'3).weak (λ b h=>h.elim (λ h=>h.elim) .inl) λ j h=>h.elim id id)
theorem in1{t:Tg}{ifs:List Ac}{elt:Ac}{vs:List Nat}{g:AQ->Option (List V)}(htin:∀i∈t.vars,i∈vs)
  (hg:∀C' env' U'1 ys,AJ K' C' env'->g U'1=Aa ys->∃b,Mw mg mb w C' A U'1 ifs env' b/\(b=Ab->∃v,ys=[v]/\Cg mg mb w C' A U'1 (AM elt env') v)/\(b=Ai->ys=[])):
  JL mg mb w A K' t (Du vs U) g (fF w A ifs elt):=vF (λ x U'1 h=>QW htin h) hg
def RT2(w:B2)(A:Br)(e itx:Ac)(env:Env)(D σ:Aj)(Q:Af->Prop)(E:Ad->Af->Prop)(s:Af):Prop:=
 As (An pw w) A (AM itx env) (λ x s'1=>As (An pw w) A (MZ x) (λ it s'2=>Qv (An pw w) A (.compStart e 1 it (.ref D) env) (λ r s'3=>match r with
  |.ok _=>Q s'3
  |.error x=>cameBackBy (An pw w) A env E x s'3) s'2) E s'1) E s
theorem rT{elt itx tg2 itx2:Ac}{ifs:List Ac}{sc:Scope}{pos:Pos}(hs:∀env x,BB itx2 env x=pure x)(env':Env)(D σ:Aj)(s:Af)(P:Fin->Af->Prop)(E:Ad->Af->Prop)
  (h:As (An pw w) A (D7 (.ref σ)) (λ r s'1=>match r with
    |none=>P (.done .next) s'1
    |some v=>As (An pw w) A (Bh tg (.ref σ) v) (λ z s'2=>As (An pw w) A (EH tg env' v) (λ z s'3=>RT2 w A (.ListComp elt [⟨tg,itx,[],0⟩,⟨tg2,itx2,ifs,0⟩] sc pos) itx2 env' D σ (λ s'4=>P (.again (.compLoop (.ListComp elt [⟨tg,itx,[],0⟩,⟨tg2,itx2,ifs,0⟩] sc pos) 0 (.ref σ) (.ref D) env')) s'4) E s'3) E s'2) E s'1) E s):
  As (An pw w) A (Gk (.ListComp elt [⟨tg,itx,[],0⟩,⟨tg2,itx2,ifs,0⟩] sc pos) 0 (.ref σ) (.ref D) env') P E s:=by
 have eq:Gk (.ListComp elt [⟨tg,itx,[],0⟩,⟨tg2,itx2,ifs,0⟩] sc pos) 0 (.ref σ) (.ref D) env'=(do
   HZ itx.pos
   match <-D7 (.ref σ) with
   |none=>pure (.done .next)
   |some v=>
    Bh tg (.ref σ) v
    EH tg env' v
    let x <-AM itx2 env'
    HZ itx2.pos
    let x <-BB itx2 env' x
    let _ <-runOwn (.compStart (.ListComp elt [⟨tg,itx,[],0⟩,⟨tg2,itx2,ifs,0⟩] sc pos) 1 (<-UE [x] (MZ x)) (.ref D) env') env'
    again (.compLoop (.ListComp elt [⟨tg,itx,[],0⟩,⟨tg2,itx2,ifs,0⟩] sc pos) 0 (.ref σ) (.ref D) env')):=by rfl
 rw[eq];refine Ah (DJ (Ah (A2 h (λ r s'1 h'1=>?_) λ z z h'=>h')))
 induction r with
 |none=>exact At h'1
 |some v=>
  refine Ah (A2 h'1 (λ z s'2 h'2=>Ah (A2 h'2 (λ z s'3 h'3=>Ah (A2 h'3 (λ x s'4 h'4=>?_) λ z z h'=>h')) λ z z h'=>h')) λ z z h'=>h');refine Ah (DJ (Ah (qM (hs env' x) (Ah (DI (A2 h'4 (λ it s'5 h'5=>?_) λ z z h'=>h'))))));refine Ah (wpAny_runOwn (codeAny_mono h'5 λ r s'6 h'6=>?_))
  induction r with
  |ok f=>exact At h'6
  |error x=>exact h'6
theorem iZ{elt itx tg2 itx2:Ac}{ifs:List Ac}{sc:Scope}{pos:Pos}{it acc:Ad}{R:Result->Af->Prop}
  (h0:Qv (An pw w) A (.compLoop (.ListComp elt [⟨tg,itx,[],0⟩,⟨tg2,itx2,ifs,0⟩] sc pos) 1 it acc env) R s)
  (h:As (An pw w) A (MZ it) (λ it' s'=>Qv (An pw w) A (.compLoop (.ListComp elt [⟨tg,itx,[],0⟩,⟨tg2,itx2,ifs,0⟩] sc pos) 1 it' acc env) R s')
   (notedBy (An pw w) A env λ x s'=>R (.error x) s') s):
  Qv (An pw w) A (.compStart (.ListComp elt [⟨tg,itx,[],0⟩,⟨tg2,itx2,ifs,0⟩] sc pos) 1 it acc env) R s:=by
 refine codeAny_of_tree ?_;refine wpAny_notedAt ?_;unfold compStart;refine Ah (wpAny_askSetting (wpAny_ite ?_))
 split
 ·first
   |exact Ah (At (At (UF rfl h0)))
   |exact At (UF rfl h0)
 ·first
   |exact Ah (OZ (Ah (DJ (Ah (A2 h (λ it' s' h'=>At (UF rfl h')) λ z z x=>x)))))
   |(refine Ah (OZ ?_);show As _ _ (HZ itx2.pos>>=_) _ _ s;exact Ah (DJ (Ah (A2 h (λ it' s' h'=>At (UF rfl h')) λ z z x=>x))))
theorem ZM{elt itx tg2 itx2:Ac}{ifs:List Ac}{sc:Scope}{pos:Pos}(env':Env)(D σ:Aj)(s:Af)(P:Fin->Af->Prop)(E:Ad->Af->Prop)
  (h:As (An pw w) A (D7 (.ref σ)) (λ r s'1=>match r with
    |none=>P (.done .next) s'1
    |some v=>As (An pw w) A (Bh tg2 (.ref σ) v) (λ z s'2=>As (An pw w) A (EH tg2 env' v) (λ z s'3=>fF w A ifs elt env' D σ (λ s'4=>P (.again (.compLoop (.ListComp elt [⟨tg,itx,[],0⟩,⟨tg2,itx2,ifs,0⟩] sc pos) 1 (.ref σ) (.ref D) env')) s'4) E s'3) E s'2) E s'1) E s):
  As (An pw w) A (Gk (.ListComp elt [⟨tg,itx,[],0⟩,⟨tg2,itx2,ifs,0⟩] sc pos) 1 (.ref σ) (.ref D) env') P E s:=by
 have eq:Gk (.ListComp elt [⟨tg,itx,[],0⟩,⟨tg2,itx2,ifs,0⟩] sc pos) 1 (.ref σ) (.ref D) env'=(do
   HZ itx2.pos
   match <-D7 (.ref σ) with
   |none=>pure (.done .next)
   |some v=>
    Bh tg2 (.ref σ) v
    EH tg2 env' v
    let mut ok:=Ab
    for c in ifs do
     if ok then ok <-isTrue c env' (AM c env')
    if ok then
     (do let _ <-C2 (.builtin "list.append") [.ref D,<-AM elt env'])
    again (.compLoop (.ListComp elt [⟨tg,itx,[],0⟩,⟨tg2,itx2,ifs,0⟩] sc pos) 1 (.ref σ) (.ref D) env')):=by rfl
 rw[eq];refine Ah (DJ (Ah (A2 h (λ r s'1 h'1=>?_) λ z z h'=>h')))
 induction r with
 |none=>exact At h'1
 |some v=>
  refine Ah (A2 h'1 (λ z s'2 h'2=>Ah (A2 h'2 (λ z s'3 h'3=>Ah (A2 h'3 (λ ok s'4 h'4=>?_) λ z z h'=>h')) λ z z h'=>h')) λ z z h'=>h')
  induction ok with
  |false=>exact At h'4
  |true=>exact Ah (Ah (A2 h'4 (λ x s'5 h'5=>Ah (A2 h'5 (λ z s'6 h'6=>At (At h'6)) λ z z h'=>h')) λ z z h'=>h'))
theorem aW(N:AJ K C env)(S:HC mg mb w G n)(hA:BQ n A){f:Nat}{key:Option Nat}{fx:Str}{p pos:Pos}{xs:List Ac}{ks:List Ka}{us:List V}(hf:EC K f fx=Ab)(hk:VT K key ks)(hne:xs≠[])
  (hx:DG mg mb w C A U xs env us) (hp:∀x∈xs,Bo x) (hG:G f us key=Aa r):Cg mg mb w C A U (AM (.Call (.Name fx p) xs ks pos) env) r:=λ J s I=>by
 refine Db (Ir hf) λ h1 h2 H=>?_;exact AF H λ i h3 h4=>C6 N I hp hk (λ e=>absurd e hne) (λ Q E k=>CQ N h1 h2 I (Iu I.gi h3 h4) k) (hx pos J s I) (λ s' g=>Dy g h3) λ s'1 vs I'1 t'1 r'1=>S.ok f us key r hG A s'1 _ vs hA I'1.gi I'1.there r'1
theorem TP(N:AJ K C env)(S:HC mg mb w G n)(hA:BQ n A){f i:Nat}{fx:Str}{p pos:Pos}{xs:List Ac}{us:List V}(hv:EI K fx i=Ab)(hi:rd U i=.w (.fn f))(hne:xs≠[])
  (hx:DG mg mb w C A U xs env us) (hp:∀x∈xs,Bo x) (hG:G f us Ae=Aa r):Cg mg mb w C A U (AM (.Call (.Name fx p) xs [] pos) env) r:=λ J s I=>by
 refine Aw (S.fn f us Ae r hG) λ j hj=>A9 (Gb hv) λ h1 h2=>C6 (key:=Ae) N I hp rfl (λ e=>absurd e hne) (λ Q E k=>?_) (hx pos J s I) (λ s' g=>Dy g hj) λ s'1 vs I'1 t'1 r'1=>?_
 ·refine Jm (Hu N h1 (by rw[hi];nofun) I (λ v q=>?_) h2) (H6 h2).1;rw[hi] at q;have:v=.ref f:=q;subst this;exact k
 ·exact S.ok f us Ae r hG A s'1 _ vs hA I'1.gi I'1.there r'1
theorem WY(N:AJ K C env){fx bx:Str}{p q pos:Pos}(hf:HJ K fx "isinstance"=Ab) (hb:HJ K bx "bool"=Ab) (hx:Cg mg mb w C A U (AM x env) a) (hp:Bo x) (he:QA .isBool a=Aa r):
  Cg mg mb w C A U (AM (.Call (.Name fx p) [x,.Name bx q] [] pos) env) r:=λ J s I=>by
 refine U7 hf λ h1 h2=>U7 hb λ h3 h4=>?_;refine C6 (key:=Ae) (AR:=λ s' vs=>∃v,vs=[v,.type "bool"]/\A6 s'.heap (Am C J U) a v) N I (OQ hp λ z z=>rfl) rfl (λ h=>by cases h)
  (λ Q E k=>Ee N h1 h2 I (by decide+kernel) (by decide+kernel) (by decide+kernel) k) (λ Q E k=>?_) (λ s' g=>CM (f:=.builtin "isinstance") (λ z e=>(by cases e)) _) λ s'1 vs I'1 t'1 h=>?_
 ·refine BA (hx J s I _ _ λ s'1 v g'1 t'1 r'1=>BA (Ee (v:=.type "bool") N h3 h4 (I.step t'1 g'1) (by decide+kernel) (by decide+kernel) (by decide+kernel) (Ec ?_)) rfl) (hp _ env);exact k s'1 _ g'1 t'1 ⟨v,rfl,r'1⟩
 ·refine AF h λ v H2 ra=>?_;subst H2
  induction a using V.casesOn<;>first|exact nn he|skip
  ·subst ra;obtain rfl:=sj he;exact λ Q E k=>PySem.IsiPair.bool_bool (k _ _ I'1.gi (.refl _) rfl)
  ·refine iE ra λ t=>?_;obtain rfl:=sj he;exact λ Q E k=>PySem.IsiPair.int_bool (k _ _ (I'1.gi.toks _) (.toks _) rfl)
theorem CZ(N:AJ K C env){z:Str}{i:Nat}{pos}{xs:List V}(hz:EI K z i=Ab)(hi:rd U i=.x xs)(I:AX mg mb C J U s)(h:Q (.ref (J i)) s):As (An pw w) A (AM (.Name z pos) env) Q E s:=by refine A9 (Gb hz) λ h1 h2=>Jm (Hu N h1 (by rw[hi];nofun) I (λ v q=>?_) h2) (H6 h2).1;rw[hi] at q;have:v=.ref (J i):=q;subst this;exact h
theorem JX(I:AX mg mb C J U s){i:Nat}{xs:List V}(hi:rd U i=.x xs):A6 s.heap (λ b=>Am C J U b/\b≠J i) (.list xs) (.ref (J i)):=by refine CA (I.owns i xs hi) λ z z hz H=>?_;refine AF H λ vs hl hr=>?_;exact⟨hz,J i,vs,rfl,λ h=>h.2 rfl,hl,AI.mono (.refl _) I.gi.cls (λ b o z y=>y.1) hr⟩
theorem kJ(N:AJ K C env){fx:Str}{p pos:Pos}{i:Nat}{xs:List V}(hv:EI K fx i=Ab)(hi:rd U i=.x xs)(hx:Cg mg mb w C A U (AM x env) a)(he:Cj .i (.list xs) a=Aa r):
  Cg mg mb w C A U (AM (.Subscript (.Name fx p) x pos) env) r:=λ J s I Q E k=>by
 refine xU (CZ N hv hi I (hx J s I _ _ λ s'1 v g'1 t'1 ra=>?_));have I'1:=I.step t'1 g'1
 induction a using V.casesOn<;>first|exact nn he|skip
 refine iE ra λ t=>?_;refine CA (I'1.owns i xs hi) λ z z hz H=>?_;exact AF H λ vs hl hr=>JR hl.isList.typeIs F.slot_list_getitem.lookup (ML hl.isList hr hz he g'1 Q E λ s'2 v g'2 t'2 r'2=>k s'2 v g'2 (t'1.trans t'2) r'2)
theorem TQ(N:AJ K C env)(S:HC mg mb w G n)(hA:BQ n A){f i:Nat}{fx zx:Str}{p q pos:Pos}{ys:List Ac}{us:List V}{xs:List V}{j:Int}(hf:EC K f fx=Ab)(hv:EI K zx i=Ab)(hi:rd U i=.x xs)
  (hx:DG mg mb w C A U ys env us) (hp:∀x∈ys,Bo x) (hG:G f (.list xs::us) Ae=Aa (.int j)):Cg mg mb w C A U (AM (.Call (.Name fx p) (.Name zx q::ys) [] pos) env) (.int j):=λ J s I=>by
 refine Db (Ir hf) λ h1 h2 H=>?_;refine AF H λ k h3 h4=>?_;refine C6 (key:=Ae) (AR:=λ s' vs=>AI s'.heap (λ b=>Am C J U b/\b≠J i) (.list xs::us) vs) N I (λ x hx=>(AL.mp hx).elim (λ e=>e▸λ z z=>rfl) (hp x)) rfl (λ h=>by cases h)
  (λ Q E k=>CQ N h1 h2 I (Iu I.gi h3 h4) k) (λ Q E k=>?_) (λ s' g=>Dy g h3) λ s'1 vs I'1 t'1 r'1=>?_
 ·refine BA (CZ N hv hi I (hx pos J s I _ _ λ s'1 vs g'1 t'1 r'1=>?_)) rfl;exact k s'1 _ g'1 t'1 ⟨_,_,rfl,JX (I.step t'1 g'1) hi,AI.mono (.refl _) g'1.cls (λ b o z y=>y.1) r'1⟩
 ·refine(S.ok f _ Ae _ hG A s'1 _ vs hA I'1.gi (λ b h=>I'1.there b h.1) r'1).mono λ s'2 v g'2 t'2 r'2=>iE r'2 λ t=>?_;exact⟨t,rfl⟩
theorem sR(N:AJ K C env){fx:Str}{p pos:Pos}{i:Nat}{xs:List V}(hv:EI K fx i=Ab)(hi:rd U i=.x xs)(hx:Cg mg mb w C A U (AM x env) a)(he:Cj .ne (.list xs) a=Aa r)(hA:A.units+64<Qt)(hs:∀o,behindInMarks o x=Ai):
  Cg mg mb w C A U (AM (.Compare (.Name fx p) [.NotEq] [x] pos) env) r:=λ J s I Q E k=>by
 refine Jn (CZ N hv hi I (hx J s I _ _ λ s'1 v g'1 t'1 ra=>?_)) (hs _);have I'1:=I.step t'1 g'1;have q:Ok mg mb w A s'1 (GG .NotEq (.ref (J i)) v) λ s' v=>A6 s'.heap (λ b=>Am C J U b/\b≠J i) r v:=Mk rfl he (JX I'1 hi) (ra.mono (.refl _) g'1.cls λ b o z y=>y.1) g'1 hA;refine q Q E λ s'2 u g'2 t'2 r'2=>k s'2 u g'2 (t'1.trans t'2) ?_;have h2:(if V.ok 8 (.list xs)&&V.ok 8 a then Aa (V.bool (!V.beq (.list xs) a)) else Ae)=Aa r:=by induction a using V.casesOn<;>exact he
 refine iK h2 λ z h2=>?_;obtain rfl:=sj h2;exact r'2
theorem aV(N:AJ K C env){fx gx:Str}{p q pos:Pos}{i:Nat}{xs ys:List V}(hv:EI K fx i=Ab)(hi:rd U i=.x xs)(hw:EI K gx j=Ab)(hj:rd U j=.w (.list ys)):
  Cg mg mb w C A U (AM (.Compare (.Name fx p) [.Is] [.Name gx q] pos) env) (.bool Ai):=λ J s I Q E k=>by
 refine Jn (CZ N hv hi I ?_) rfl;refine FN N hw hj J s I _ _ λ s'1 v g'1 t'1 rv=>?_;have I'1:=I.step t'1 g'1;refine CA (I'1.owns i xs hi) λ z z z H=>?_;refine AF H λ us H2 z=>?_;obtain⟨n,ho⟩:=H2;refine A9 rv λ z H=>?_;refine Hm H λ l vs H3 hy ξ5 z=>?_;subst H3;obtain⟨n',ho'⟩:=ξ5;refine wpAny_is_ref_other (λ e=>hy (.inr (.inr ⟨i,xs,hi,e⟩))) ho ho' (λ e=>by injection e with e;exact absurd e (by decide)) (k s'1 _ g'1 t'1 rfl)
theorem Yn(N:AJ K C env)(hh:A.handled=Ae){i j c:Int}{xs:List V}{f g:Str}{p p' pos pos':Pos}(hg:HJ K g "list"=Ab) (hf:HJ K f "range"=Ab) (hx:Cg mg mb w C A U (AM x env) (.int i)) (hp:Bo x) (hy:Cg mg mb w C A U (AM y env) (.int j)) (hq:Bo y)
  (hz:Cg mg mb w C A U (AM z env) (.int c)) (hq':Bo z) (hr:Dc i j c=Aa xs) (hlen:xs.length<=CN) (I:AX mg mb C J U s):
  Ok mg mb w A s (AM (.Call (.Name g p') [.Call (.Name f p) [x,y,z] [] pos] [] pos') env) λ s' v=>iH C J U s xs s' v:=by
 refine U7 hg λ h3 h4=>?_;refine A9 (Pa hr) λ ξ1 ok=>?_;subst ξ1;refine C6 (key:=Ae) (AR:=λ s' vs=>∃v,vs=[v]/\Zl i j c s' v) N I (OR λ l l=>rfl) rfl (λ h=>by cases h)
  (λ Q E k=>Ee N h3 h4 I (by decide+kernel) (by decide+kernel) (by decide+kernel) k) (λ Q E k=>?_) (λ s' g=>CM (f:=.type "list") (λ l e=>(by cases e)) _) λ s'1 vs I'1 t'1 h=>?_
 ·exact BA (TL N hf (.inr (.inr rfl)) ok (Dz hx hp (DG.two hy hq hz hq')) (Tm hp hq hq') I _ _ λ s'1 v g'1 t'1 h=>Ec (k s'1 _ g'1 t'1 ⟨v,rfl,h⟩)) rfl
 ·refine AF h λ v e h=>iJ h λ r t u t' e' hr=>?_;subst e e';intro Q E k;refine call_list_range hh hr ok.sm ok.sz (by rw[<-KO];exact hlen) λ h' tk acc c' hk hat hit=>k _ _ (I'1.gi.all hk tk) (.all hk tk) ⟨hlen,_,acc,rfl,?_,⟨c',hat⟩,?_⟩
  ·cases e:s.heap.get? s'1.heap.objs.size with
   |none=>rfl
   |some o=>refine Aw (FC I'1.gi t'1 ⟨o,e⟩) λ o' e'=>?_;exact absurd (AT e') (Ch _)
  ·have hs:acc.size=(Hq i j c).length:=by rw[KO];exact hit.1
   refine AI.of_get (by rw[Ax];exact hs) λ m x v hx hv=>?_;refine Aw (hit.2 m v (by rw[<-A8];exact hv)) λ t H2=>?_;subst H2;rw[NA hx];exact⟨t,rfl⟩
section
variable{res:Fl×AQ}
theorem jB:D1 mg mb w C A U (B4 [] env) (.next,U):=λ J s I Q E k=>CO (k J s .next I .refl rfl)
theorem ZX{st:CU}{rest:List CU}{r:Fl×AQ}(h:D1 mg mb w C A U (DP st env) r)(hn:r.1=.next->D1 mg mb w C A r.2 (B4 rest env) res)(he:r.1≠.next->res=r):D1 mg mb w C A U (B4 (st::rest) env) res:=λ J s I Q E k=>by
 refine Ay (h J s I _ _ λ J'1 s'1 f I'1 f'1 ok=>?_);obtain⟨fl,U'1⟩:=r
 induction fl with
 |next=>subst ok;exact hn rfl J'1 s'1 I'1 Q E λ J2 s'2 f I'2 f'2 ok=>k J2 s'2 f I'2 (f'1.trans f'2) ok
 |ret V=>
  have e:=he (λ h=>by cases h)
  subst e;refine AF ok λ v H2 hv=>?_;subst H2;exact k J'1 s'1 _ I'1 f'1 ⟨v,rfl,hv⟩
 |reto xs=>
  have e:=he (λ h=>by cases h)
  subst e;refine AF ok λ i hi H3=>?_;subst H3;exact k J'1 s'1 _ I'1 f'1 ⟨i,hi,rfl⟩
theorem sC{test:Ac}{body orelse:List CU}{pos:Pos}{c:Bool}(ht:Ni mg mb w C A U (isTrue test env (AM test env)) c)(h1:c=Ab->D1 mg mb w C A U (B4 body env) res)(h2:c=Ai->D1 mg mb w C A U (B4 orelse env) res):
  D1 mg mb w C A U (DP (.If test body orelse pos) env) res:=λ J s I Q E k=>by
 refine KZ (ht J s I _ _ λ s'1 d g t e=>?_);subst e
 induction d with
 |true=>exact h1 rfl J s'1 (I.step t g) Q E λ J2 s'2 f I'2 f'2 ok=>k J2 s'2 f I'2 ((CT.of_stp t g).trans f'2) ok
 |false=>exact h2 rfl J s'1 (I.step t g) Q E λ J2 s'2 f I'2 f'2 ok=>k J2 s'2 f I'2 ((CT.of_stp t g).trans f'2) ok
theorem WD{test:Ac}{body:List CU}{pos:Pos}{t:AQ->Option Bool}{b:AQ->Option (Fl×AQ)}(ht:∀U c,t U=Aa c->Ni mg mb w C A U (isTrue test env (AM test env)) c)(hb:∀U r,b U=Aa r->D1 mg mb w C A U (B4 body env) r)
  (h:G2 F t b U=Aa res):D1 mg mb w C A U (DP (.While test body [] pos) env) res:=λ J s I Q E k=>by
 refine wpAny_While (codeAny_whileLoop (λ n s'=>∃J' U',AX mg mb C J' U' s'/\CT C J U s J' U' s'/\G2 n t b U'=Aa res) ?_ F ⟨J,U,I,.refl,h⟩)
 rintro n s' ⟨J',U',I',f',h'⟩
 induction n using A5 with
 |zero=>exact nn h'
 |succ n=>
  refine bK h' λ c hc h2=>A9 (HU h2) λ h3 h4=>ht U' c hc J' s' I' _ _ λ s'1 d g t'1 e=>?_;subst e;have I'1:=I'.step t'1 g;have f'1:=f'.trans (CT.of_stp t'1 g)
  induction d with
  |false=>obtain rfl:=sj (h4 rfl);exact CO (k J' s'1 _ I'1 f'1 rfl)
  |true=>
   refine bK (h3 rfl) λ r hb2 h5=>hb U' r hb2 J' s'1 I'1 _ _ λ J2 s'2 f I'2 f'2 ok=>?_;rcases QL h5 ok with⟨rfl,h⟩|⟨v,rfl,rfl⟩
   ·exact⟨n,G9 n,J2,r.2,I'2,f'1.trans f'2,h⟩
   ·exact k J2 s'2 _ I'2 (f'1.trans f'2) ok
end
section
variable{res:Fl×AQ}
theorem WF{pos:Pos}(hx:Cg mg mb w C A U (AM x env) a):D1 mg mb w C A U (DP (.Return (Aa x) pos) env) (.ret a,U):=λ J s I Q E k=>Dk (hx J s I _ _ λ s'1 v g'1 t'1 r'1=>k J s'1 _ (I.step t'1 g'1) (CT.of_stp t'1 g'1) ⟨v,rfl,r'1⟩)
theorem TE(N:AJ K C env){z:Str}{i:Nat}{p pos:Pos}{xs:List V}(hz:EI K z i=Ab)(hi:rd U i=.x xs):D1 mg mb w C A U (DP (.Return (Aa (.Name z p)) pos) env) (.reto xs,U):=λ J s I Q E k=>Dk (CZ N hz hi I (k J s _ I .refl ⟨i,hi,rfl⟩))
theorem jE(N:AJ K C env){z:Str}{i:Nat}{p pos:Pos}(hz:F8 K z i=Ab)(hx:Cg mg mb w C A U (AM x env) a)(hs:DQ x (Aa (.Name z p)) pos.line env=pure Ai):
  D1 mg mb w C A U (DP (.Assign [.Name z p] x pos) env) (.next,wr U i (.w a)):=λ J s I Q E k=>
 CG (hx J s I _ _ λ s'1 v g'1 t'1 r'1=>Mr N hz (I.step t'1 g'1) r'1 λ s'2 I'2 f'2 y=>k J s'2 .next I'2 ((CT.of_stp t'1 g'1).trans f'2) rfl) hs
theorem PN(N:AJ K C env){z:Str}{i:Nat}{p pos:Pos}{xs:List V}(hz:F8 K z i=Ab)(hx:∀J s,AX mg mb C J U s->Ok mg mb w A s (AM x env) λ s' v=>iH C J U s xs s' v)(hs:DQ x (Aa (.Name z p)) pos.line env=pure Ai):
  D1 mg mb w C A U (DP (.Assign [.Name z p] x pos) env) (.next,wr U i (.x xs)):=λ J s I Q E k=>by
 refine CG (hx J s I _ _ λ s'1 v g'1 t'1 fr=>?_) hs;refine Db (NK hz N) λ h1 h2 h3=>JT N h1 (I.step t'1 g'1) (λ h' tk st=>?_) h3;exact ZF (I.set_own t'1 g'1 st fr) λ a e h0 I' f'=>k (EW J i a) _ .next I' f' rfl
theorem Rk{xs:List Ac}{us:List V}{pos}(hx:DG mg mb w C A U xs env us)(hz:us.length<=CN)(I:AX mg mb C J U s):Ok mg mb w A s (AM (.List xs pos) env) λ s' v=>iH C J U s us s' v:=λ Q E k=>
 wpAny_List (hx pos J s I _ _ λ s'1 vs g t r=>⟨by rw[<-Fn,r.length];exact hz,by
  refine k _ _ (g.push _ s'1.toks) (t.trans (.push _ s'1.toks)) ⟨hz,_,vs.toArray,rfl,?_,⟨0,AW _ rfl⟩,?_⟩
  ·cases e:s.heap.get? s'1.heap.objs.size with
   |none=>rfl
   |some o=>refine Aw (FC g t ⟨o,e⟩) λ o' e'=>?_;exact absurd (AT e') (Ch _)
  ·rw[Cy];exact AI.mono (.push _ _) g.cls (λ b o e y=>y.elim id λ y=>by subst y;exact absurd (AT e) (Ch _)) r⟩)
end
theorem dD{t1 t2:Tg}{elt itx tg2 itx2:Ac}{ifs:List Ac}{sc:Scope}{pos:Pos}{vs:List Nat}{evI:AQ->Option (List V)}{g2:AQ->Option (List V)}(hh:A.handled=Ae)
  (htin:∀i∈t1.vars,i∈vs) (htin2:∀i∈t2.vars,i∈vs) (hdis:∀i∈t2.vars,i∉t1.vars) (ht2:F5 K' t2 tg2=Ab)
  (hit:∀C' env' U'1 xs,AJ K' C' env'->evI U'1=Aa xs->H9 mg mb w C' A U'1 tg2 (AM itx2 env') xs)
  (hin:∀x U'1,Ck t1 x (Du vs U)=Aa U'1->JL mg mb w A K' t2 U'1 g2 (fF w A ifs elt)):
  JL mg mb w A K' t1 (Du vs U) (λ U'1=>(evI U'1).bind λ xs2=>Eb (λ y=>(Ck t2 y U'1).bind g2) xs2) (RT2 w A (.ListComp elt [⟨tg,itx,[],0⟩,⟨tg2,itx2,ifs,0⟩] sc pos) itx2):=by
 intro C'1 env' D σ W P J x U'1 ys zs s' N hD hDm hDB hDT hP hPm hb hgy I ac hlen Q E k
 dsimp only at hgy
 cases hxs:evI U'1 with
 |none=>rw[hxs] at hgy;exact nn hgy
 |some xs=>
  have hgy:Eb (λ y=>(Ck t2 y U'1).bind g2) xs=Aa ys:=by rw[hxs] at hgy;exact hgy
  have hun:∀i∈t2.vars,rd U'1 i=.u:=λ i hi=>by rw[(Hx hb i).1 (hdis i hi)];exact Ju.1 (htin2 i hi)
  have hav:∀b,Am (C'1.plus W) J (Du vs U) b↔Am (C'1.plus W) J U'1 b:=λ b=>⟨λ y=>by
   rcases y with y|y|⟨j,us,e1,e2⟩
   ·exact .inl y
   ·exact .inr (.inl y)
   ·exact .inr (.inr ⟨j,us,QW htin hb j us e1,e2⟩),λ y=>by
   rcases y with y|y|⟨j,us,e1,e2⟩
   ·exact .inl y
   ·exact .inr (.inl y)
   ·exact .inr (.inr ⟨j,us,(Hx hb j).2 us e1,e2⟩)⟩
  refine hit (C'1.plus W) env' U'1 xs N.plus hxs J s' I _ _ λ s'0 s'1 σ2 wr gw St t0 g0 t1 g1 T st0=>?_;have I'0:=I.step t0 g0;refine CA (Hg I'0 T.new) λ hm h0 hB hTb=>?_;have ac0:=ac.mv (W:=λ z=>False) (gw:=λ z=>False) I.gi (Mv.of_stp t0) (λ h=>h) hDT λ b h=>h.elim;have ac1:Gy ((C'1.plus W).plus wr) J U'1 D zs s'1:=by
   refine A9 ac0 λ hz H=>?_;refine AF H λ us H2 hr=>?_;obtain⟨n,hp⟩:=H2;refine⟨hz,us,⟨n,t1.keep _ _ hDT hp⟩,AI.mono t1.keep g0.cls (λ b o e y=>?_) hr⟩;rcases Be.mp y with y|y
   ·exact(hav b).mpr y
   ·rw[T.new b y] at e;exact nn e
  have loop:Qv (An pw w) A (.compLoop (.ListComp elt [⟨tg,itx,[],0⟩,⟨tg2,itx2,ifs,0⟩] sc pos) 1 (.ref σ2) (.ref D) env') (λ r s'3=>match r with
    |.ok _=>Q s'3
    |.error x=>cameBackBy (An pw w) A env' E x s'3) s'1:=by
   refine E3 (MM (zs0:=zs) hgy) λ zz z0 z1 z2=>?_;have LW:xJ mg mb w A (C'1.plus W) J U'1 K' t2 tg2 D (Am (C'1.plus W) J U'1) wr P (λ z=>False) (λ z z=>True) s'0:=⟨ht2,λ i hi a ha=>by refine Aw (RA ht2 i hi) λ x hx=>?_;exact hP x i hx a ha,hPm,.inl hD,hDm,hDT,λ b y=>.inl y,hm,h0,hB,hTb,λ z h=>h.elim,λ z=>trivial,λ z z=>trivial⟩;refine Pv (ρs:=λ z=>U'1) N.plus hh rfl rfl (λ z z z z h=>h) (ZM env' D σ2) LW T (λ i x hx=>?_) (λ z z y=>y) ?_ (I'0.more t1 g1 T.new (T.there 0 s'1 st0)) st0 (z0▸ac1) (λ b o n y e=>t1.keep b o n e) λ s'' I'' ac'' m z=>?_
   ·exact AF (z2 i x hx) λ ys h1 z=>bK h1 λ U'2 h2 z=>⟨U'2,h2⟩
   ·intro i x' U'2 s'2 hx hb2 I2 ac2 z Q2 E2 kk;refine E3 (z2 i x' hx) λ ys' h1 h2 h3=>?_;rw[hb2] at h1;refine hin x U'1 hb (C'1.plus W) env' D σ2 wr P J x' U'2 ys' (zz i) s'2 N.plus (.inl hD) hDm hDB hDT hP hPm hb2 h1 I2 ac2 (h2▸Ak h3 hlen) Q2 E2 λ s'' I'' ac'' m=>kk s'' (I''.forget λ j=>?_) (h2▸ac'') (m.weak (λ b h=>h.elim .inl λ h=>.inr (.inl h)) λ z h=>h) λ z z h=>h.elim
    by_cases hj:j∈t2.vars
    ·exact .inr (hun j hj)
    ·exact .inl ((Hx hb2 j).1 hj).symm
   ·rw[z1] at ac'';refine k s'' I'' ?_ ⟨λ b o n hbP e=>?_,λ j x hj e=>?_,m.os.trans (t1.os.trans t0.os)⟩
    ·refine A9 ac'' λ hz H=>?_;refine AF H λ us hp hr=>?_;exact⟨hz,us,hp,AI.mono (.refl _) I''.gi.cls (λ b o z y=>(hav b).mp y) hr⟩
    ·have e0:=t0.keep b o n e;refine m.heap b o n (λ h=>?_) (t1.keep b o n e0);rcases h with h|h|h|h
     ·exact hbP (.inl h)
     ·exact hbP (.inr h)
     ·exact h.elim
     ·rw[T.new b h] at e0;exact nn e0
    ·have e0:=t0.gens j x e;exact m.gens j x (λ h=>by rw[T.newg j h] at e0;exact nn e0) (t1.gens j x e0)
  exact iZ loop (T.self 0 s'1 (Bj _) st0 (λ b o n y e=>t1.keep b o n e) _ _ loop)
theorem RJ{a b:Ic}(h:lB a b=Ab):a=b:=of_decide_eq_true h
theorem J5{a b:RS}(h:Ut a b=Ab):a=b:=of_decide_eq_true h
theorem RI{a b:LI}(h:iR a b=Ab):a=b:=of_decide_eq_true h
theorem IG(h:L3 x=Ab):Bo x/\(∀env v,BB x env v=pure v)/\∀o,behindInMarks o x=Ai:=by induction x using Expr.casesOn<;>first|exact⟨λ z z=>rfl,λ z z=>rfl,λ z=>rfl⟩|exact nf h
theorem pH{e:Ex}(h:chk K e x=Ab):L3 x=Ab:=by induction e using Ex.casesOn<;>exact(B6 h).1
theorem AH{e:Ex}(h:chk K e x=Ab):Bo x:=(IG (pH h)).1
theorem Ge{e:Ex}(h:chk K e x=Ab):∀o,behindInMarks o x=Ai:=(IG (pH h)).2.2
theorem Ix{it:It}(h:Mn K it x=Ab)(env:Env)(v:Ad):BB x env v=pure v:=(IG (show L3 x=Ab by induction it using It.casesOn<;>exact(B6 h).1)).2.1 env v
@[elab_as_elim] theorem Hh{e:Ex}{es:Fu}{xs:List Ac}(h:Gw K (.cons e es) xs=Ab){gC:List Ac->Prop}(gk:∀x r,chk K e x=Ab->Gw K es r=Ab->gC (x::r)):gC xs:=by refine aK h λ r h1 h2=>?_;rw[Fp h1];exact CJ h2 (gk _ _)
theorem Iv{xs:List Ac}(h:Gw K .nil xs=Ab):xs=[]:=BC h
theorem P8{P:Fu->Prop}(nil:P .nil)(cons:∀e es,P es->P (.cons e es)):∀es,P es
 |.nil=>nil
 |.cons e es=>cons e es (P8 nil cons es)
theorem IT:∀{es:Fu} {xs:List Ac},Gw K es xs=Ab->∀x∈xs,Bo x
:=@λ es=>by
 induction es using P8 with
 |nil=>intro xs h x hx;rw[Iv h] at hx;exact(absurd hx List.not_mem_nil)
 |cons e es IH=>intro xs h y hy;refine Hh h (λ x r h1 h2 hy=>?_) hy;exact(AL.mp hy).elim (λ q=>q▸AH h1) (IH h2 y)
theorem JQ{t:Tg}{vs:List Nat}(h:R8 t vs=Ab):∀i∈t.vars,i∈vs:=λ i hi=>Lo.mp (Al.mp h i hi)
theorem gJ{Z:Type}{l:List Z}(h:(!Df l)=Ab):l≠[]:=λ e=>by rw[e] at h;exact nf h
theorem Q4{vs:List Nat}(h:noOwn vs U=Ab):∀v∈vs,∀ys,rd U v≠.x ys:=λ v hv ys e=>by have:=Al.mp h v hv;rw[e] at this;exact nf this
theorem N4{vs:List Nat}{t:Tg}{f:AQ->Option (List V)}{xs:List V}(h:JK vs t f U xs=Aa v):
  (∀u∈vs,∀ys,rd U u≠.x ys)/\∃ys,Eb (λ x=>(Ck t x (Du vs U)).bind f) xs=Aa ys/\ys.length<=CN/\v=.list ys:=by
 exact iK h λ h1 h2=>bK h2 λ ys h3 h4=>iK h4 λ h5 h6=>⟨Q4 h1,ys,h3,h5,(AE h6).symm⟩
@[elab_as_elim] theorem NX{e:Ex}{es:Fu}{us:List V}(h:IS G (.cons e es) U=Aa us){gC:List V->Prop}(gk:∀v vs,ev G e U=Aa v->IS G es U=Aa vs->gC (v::vs)):gC us:=by exact bK (show((ev G e U).bind λ v=>(IS G es U).map λ vs=>v::vs)=Aa us from h) λ v h1 h2=>mE h2 λ vs h3=>gk v vs h1 h3
theorem Nc:∀{es:Fu} {xs:List Ac} {K:Kx} {U:AQ} {us:List V},Gw K es xs=Ab->IS G es U=Aa us->us.length=xs.length
:=@λ es=>by
 induction es using P8 with
 |nil=>intro xs K U us h' h;rw[Iv h'];obtain rfl:=sj h;rfl
 |cons e es IH=>intro xs K U us h h';exact Hh h λ x r z h2=>NX h' λ v vs z h3=>congrArg (·+1) (IH h2 h3)
@[elab_as_elim] theorem S6(h:chk K (.c v) x=Ab){gC:Ac->Prop}(gk:∀c k p,yS v c=Ab->gC (.Constant c k p)):gC x:=by refine aK (B6 h).2 λ c h1 h2=>?_;refine F1 (NT h1) λ k p H3=>?_;subst H3;exact gk c k p h2
theorem Q3{z:Str}{p:Pos}{l:Nat}(h:chk K (.c v) x=Ab):DQ x (Aa (.Name z p)) l env=pure Ai:=by
 refine S6 h λ c k p y=>?_
 rfl
theorem eY{i:Int}{c:Const}(h:yS (.int i) c=Ab):c=.int i:=by induction c<;>first|exact nf h|exact congrArg Const.int (of_decide_eq_true h).symm
theorem Y7{i:Bool}{c:Const}(h:yS (.bool i) c=Ab):c=.bool i:=by induction c<;>first|exact nf h|exact congrArg Const.bool (eq_of_beq h).symm
def OS(it:It)(tg:Ac):Prop:=(∃a b,it=.zip a b)->∃elts n tp,tg=.Tuple elts n tp
theorem OS.of{it:It}{t:Tg}(h:PL it t=Ab)(ht:F5 K t tg=Ab):OS it tg:=λ ⟨a,b,e⟩=>by
 subst e
 induction t with
 |one i=>exact nf h
 |m is=>exact aK ht λ xs h1 z=>F1 (JE h1) λ k p h2=>⟨xs,k,p,h2⟩
theorem J4{g:Cm}{l:List Ac}(h:g.is_async=0)(h':g.ifs=l):g=⟨g.target,g.iter,l,0⟩:=by induction g using Comprehension.casesOn;subst h;subst h';rfl
theorem Ry{vs:List Nat}{t:Tg}{it:It}{cond:Fu}{elt:Ex}(h:chk K (.comp vs t it cond elt) x=Ab){gC:Prop}(gk:∀K' elt' tg itx ifs sc p,x=.ListComp elt' [⟨tg,itx,ifs,0⟩] sc p->PL it t=Ab->Mn K it itx=Ab->IM K sc vs=Aa K'->R8 t vs=Ab->F5 K' t tg=Ab->Gw K' cond ifs=Ab->chk K' elt elt'=Ab->gC):gC:=by refine aK (B6 h).2 λ q h1 h=>?_;refine Aw (Mf h1) λ p H2=>?_;subst H2;refine aK h λ g h2 h=>bK h2 λ g' h3 h4=>iK h4 λ h5 h6=>?_;obtain rfl:=sj h6;exact Zh h λ h h8 h7 h6=>aK h6 λ K' h9 h10=>Zh h10 λ h10 h13 h12 h11=>gk K' q.1 _ _ _ q.2.2 p (by rw[Fp h3,BC h,J4 (of_decide_eq_true h5) rfl]) h8 h7 h9 h10 h13 h12 h11
theorem Pw{vs:List Nat}{t1 t2:Tg}{it1 it2:It}{cond:Fu}{elt:Ex}(h:chk K (.comp2 vs t1 it1 t2 it2 cond elt) x=Ab){gC:Prop}(gk:∀K' elt' tg1 itx1 tg2 itx2 ifs sc p,x=.ListComp elt' [⟨tg1,itx1,[],0⟩,⟨tg2,itx2,ifs,0⟩] sc p->PL it1 t1=Ab->PL it2 t2=Ab->Mn K it1 itx1=Ab->IM K sc vs=Aa K'->R8 t1 vs=Ab->R8 t2 vs=Ab->t2.vars.all (λ i=>!SF i t1.vars)=Ab->F5 K' t1 tg1=Ab->Mn K' it2 itx2=Ab->F5 K' t2 tg2=Ab->Gw K' cond ifs=Ab->chk K' elt elt'=Ab->gC):gC:=by refine aK (B6 h).2 λ q h1 h=>?_;refine Aw (Mf h1) λ p H2=>?_;subst H2;refine aK h λ g h2 h=>bK h2 λ g' h3 h4=>iK h4 λ h5 h6=>?_;obtain rfl:=sj h6;refine CJ h λ h h'=>aK h' λ r h6 h'=>bK h6 λ r' h7 h8=>iK h8 λ h9 h10=>?_;obtain rfl:=sj h10;exact an5 h' λ h' h13 h12 h11 h10=>aK h10 λ K' h14 h10=>an8 h10 λ h10 a7 a6 a5 a4 a3 a2 a1=>gk K' q.1 _ _ _ _ _ q.2.2 p (by rw[Fp h3,Fp h7,BC h',J4 (of_decide_eq_true h5) (BC h),J4 (of_decide_eq_true h9) rfl]) h13 h12 h11 h14 h10 a7 a6 a5 a4 a3 a2 a1
set_option maxHeartbeats 4000000
def RK(mg mb:Str->Option Ad)(w:B2)(G:EZ)(A:Br):Prop:=
 ∀{K:Kx} {C:Er} {env:Env} {U:AQ} {x:Ac} {f y:Str} {g:Nat} {xs ys:List V} {ks:List (Int×V)} {p q u r:Pos},AJ K C env->HJ K f "sorted"=Ab->EC K g y=Ab->Bo x->Cg mg mb w C A U (AM x env) (.list xs)->
  xs.length<64->Lq G g xs=Aa ks->Nr (ks.map (·.1)) xs=Aa ys->Cg mg mb w C A U (AM (.Call (.Name f p) [x] [⟨Aa "key",.Name y q,u⟩] r) env) (.list ys)
structure Cx(mg mb:Str->Option Ad)(w:B2)(G:EZ)(n:Nat)(A:Br):Prop where
 S:HC mg mb w G n
 hA:BQ n A
 so:RK mg mb w G A
theorem BQ.cline(h:BQ n A):A.units+64<Qt:=by have:=h.un;have e:Qt=9900:=rfl;omega
theorem rW(N:AJ K C env){fx:Str}{p pos:Pos}{i:Nat}{xs:List V}{c:Bool}(hv:EI K fx i=Ab)(hi:rd U i=.x xs)(hx:Cg mg mb w C A U (AM x env) a)(he:Cj .ne (.list xs) a=Aa r)(hc:truthy r=Aa c)(hA:A.units+64<Qt)(hs:∀o,behindInMarks o x=Ai):
  Ni mg mb w C A U (isTrue (.Compare (.Name fx p) [.NotEq] [x] pos) env (AM (.Compare (.Name fx p) [.NotEq] [x] pos) env)) c:=λ J s I Q E k=>by
 refine HH (CZ N hv hi I (hx J s I _ _ λ s'1 v g'1 t'1 ra=>?_)) (hs _);have I'1:=I.step t'1 g'1;have q:Ok mg mb w A s'1 (GG .NotEq (.ref (J i)) v) λ s' v=>A6 s'.heap (λ b=>Am C J U b/\b≠J i) r v:=Mk rfl he (JX I'1 hi) (ra.mono (.refl _) g'1.cls λ b o z y=>y.1) g'1 hA;exact q _ E λ s'2 u g'2 t'2 r'2=>Ga g'2 r'2 hc _ _ λ s'3 d g'3 t'3 e=>k s'3 d g'3 ((t'1.trans t'2).trans t'3) e
theorem ZS(N:AJ K C env){fx gx:Str}{p q pos:Pos}{i:Nat}{xs ys:List V}(hv:EI K fx i=Ab)(hi:rd U i=.x xs)(hw:EI K gx j=Ab)(hj:rd U j=.w (.list ys)):
  Ni mg mb w C A U (isTrue (.Compare (.Name fx p) [.Is] [.Name gx q] pos) env (AM (.Compare (.Name fx p) [.Is] [.Name gx q] pos) env)) Ai:=λ J s I Q E k=>by
 refine HH (CZ N hv hi I ?_) rfl;refine FN N hw hj J s I _ _ λ s'1 v g'1 t'1 rv=>?_;have I'1:=I.step t'1 g'1;refine CA (I'1.owns i xs hi) λ z z z H=>?_;refine AF H λ us H2 z=>?_;obtain⟨n,ho⟩:=H2;refine A9 rv λ z H=>?_;refine Hm H λ l vs H3 hy ξ5 z=>?_;subst H3;obtain⟨n',ho'⟩:=ξ5;exact wpAny_is_ref_other (λ e=>hy (.inr (.inr ⟨i,xs,hi,e⟩))) ho ho' (λ e=>by injection e with e;exact absurd e (by decide))<|Ga (a:=.bool Ai) (Y:=λ z=>False) g'1 rfl rfl _ _ λ s'2 d g'2 t'2 e=>k s'2 d g'2 (t'1.trans t'2) e
theorem sV{t:Sem Ad}{xs:List V}(h:∀J s,AX mg mb C J U s->Ok mg mb w A s t λ s' v=>iH C J U s xs s' v):Cg mg mb w C A U t (.list xs):=λ J s I=>
 (h J s I).mono λ s' v g t hf=>by refine A9 hf λ hz H=>?_;refine Hm H λ a us e h0 hl hr=>?_;refine⟨hz,a,us,e,λ y=>?_,hl,AI.mono (.refl _) g.cls (λ b o z y=>.inl y) hr⟩;refine Aw (I.there a y) λ o e=>?_;rw[h0] at e;exact nn e
theorem eV{o:O1}{z:Str}(hz:Uu o=Aa z):∃n,xP z (.builtin n):=by
 induction o using O1.casesOn<;>first|exact nn hz|obtain rfl:=sj hz
 ·exact⟨"len",I9 (by decide+kernel)⟩
 ·exact⟨"sum",I9 (by decide+kernel)⟩
 ·exact⟨"chr",I9 (by decide+kernel)⟩
theorem eU{o:O2}{z:Str}(hz:Ql o=Aa z):∃n,xP z (.builtin n):=by
 induction o using O2.casesOn<;>first|exact nn hz|obtain rfl:=sj hz
 ·exact⟨"min",I9 (by decide+kernel)⟩
 ·exact⟨"max",I9 (by decide+kernel)⟩
 ·exact⟨"divmod",I9 (by decide+kernel)⟩
theorem Y4(N:AJ K C env){o:O1}{z f:Str}{p q:Pos}(hh:A.handled=Ae)(hz:Uu o=Aa z)(hf:HJ K f z=Ab)(he:QA o a=Aa r)(hx:Cg mg mb w C A U (AM x env) a)(hp:Bo x):Cg mg mb w C A U (AM (.Call (.Name f p) [x] [] q) env) r:=λ J s I=>by
 refine U7 hf λ h1 h2=>Aw (eV hz) λ n hb=>?_;refine C6 (key:=Ae) N I (OR hp) rfl (λ h=>by cases h) (λ Q E k=>Ee N h1 h2 I hb.2.1 hb.1 hb.2.2.1 k)
  (λ Q E k=>DG.one hx hp q J s I Q E λ s'1 vs g t r=>k s'1 vs g t r.one) (λ s' g=>CM hb.2.2.2 _) λ s'1 vs I'1 t'1 ⟨v,e,ra⟩=>?_
 subst e;refine AF (Y6 (w:=w) hz he I'1.gi ra hh) λ f' hb' h7=>?_;rw[AE (hb.1.symm.trans hb'.1)];exact h7
theorem Y3(N:AJ K C env){o:O2}{z f:Str}{p q:Pos}(hh:A.handled=Ae)(hz:Ql o=Aa z)(hf:HJ K f z=Ab)(he:Cj o a b=Aa r)(hx:Cg mg mb w C A U (AM x env) a)(hp:Bo x)(hy:Cg mg mb w C A U (AM y env) b)(hq:Bo y):Cg mg mb w C A U (AM (.Call (.Name f p) [x,y] [] q) env) r:=λ J s I=>by
 refine U7 hf λ h1 h2=>Aw (eU hz) λ n hb=>?_;refine C6 (key:=Ae) N I (OQ hp hq) rfl (λ h=>by cases h) (λ Q E k=>Ee N h1 h2 I hb.2.1 hb.1 hb.2.2.1 k)
  (λ Q E k=>DG.two hx hp hy hq q J s I Q E λ s'1 vs g t r=>k s'1 vs g t r.two) (λ s' g=>CM hb.2.2.2 _) λ s'1 vs I'1 t'1 ⟨v,u,e,ra,rb⟩=>?_
 subst e;refine AF (Y5 (w:=w) hz he I'1.gi I'1.there ra rb hh) λ f' hb' h7=>?_;rw[AE (hb.1.symm.trans hb'.1)];exact h7
structure Res(mg mb:Str->Option Ad)(w:B2)(A:Br)(G:EZ)(e:Ex)(C:Er)(env:Env)(U:AQ)(x:Ac):Prop where
 v:∀v,ev G e U=Aa v->Cg mg mb w C A U (AM x env) v
 t:∀b,Gr G e U=Aa b->Ni mg mb w C A U (isTrue x env (AM x env)) b
def PE(mg mb:Str->Option Ad)(w:B2)(A:Br)(G:EZ)(e:Ex):Prop:=∀K C env U x,AJ K C env->chk K e x=Ab->Res mg mb w A G e C env U x
structure qE(mg mb:Str->Option Ad)(w:B2)(A:Br)(G:EZ)(it:It)(K:Kx)(C:Er)(env:Env)(U:AQ)(x:Ac)(xs:List V):Prop where
 i:∀tg,OS it tg->H9 mg mb w C A U tg (AM x env) xs
 l:aR it=Ab->∀g p p',HJ K g "list"=Ab->xs.length<=CN->∀J s,AX mg mb C J U s->Ok mg mb w A s (AM (.Call (.Name g p) [x] [] p') env) λ s' v=>iH C J U s xs s' v
def PI(mg mb:Str->Option Ad)(w:B2)(A:Br)(G:EZ)(it:It):Prop:=∀K C env U x xs,AJ K C env->Mn K it x=Ab->EU G it U=Aa xs->qE mg mb w A G it K C env U x xs
structure ResS(mg mb:Str->Option Ad)(w:B2)(A:Br)(G:EZ)(es:Fu)(C:Er)(env:Env)(U:AQ)(xs:List Ac):Prop where
 v:∀vs,IS G es U=Aa vs->DG mg mb w C A U xs env vs
 t:∀b,CC G es U=Aa b->Mw mg mb w C A U xs env b
 b:∀and p v,yK G and es U=Aa v->Cg mg mb w C A U (AM (.BoolOp (PV and) xs p) env) v
 bt:∀and p m b,(yK G and es U).bind truthy=Aa b->Ni mg mb w C A U (isTrue (.BoolOp (PV and) xs p) env m) b
def PS(mg mb:Str->Option Ad)(w:B2)(A:Br)(G:EZ)(es:Fu):Prop:=∀K C env U xs,AJ K C env->Gw K es xs=Ab->ResS mg mb w A G es C env U xs
theorem Res.of{e:Ex}(h:∀v,ev G e U=Aa v->Cg mg mb w C A U (AM x env) v)(hx:isTrue x env (AM x env)=(do let v <-AM x env;HZ x.pos;UE [v] (MY v))):Res mg mb w A G e C env U x:=
 ⟨h,λ b hb=>by refine bK hb λ u h1 h2=>?_;exact ZR (h u h1) h2 hx⟩
theorem yL:PE mg mb w A G (.c v):=λ K C env U x N h=>by
 refine aK (B6 h).2 λ c h1 h2=>?_;refine F1 (NT h1) λ k p H3=>?_;subst H3;refine .of (λ u e=>?_) rfl;obtain rfl:=sj e
 induction v using V.casesOn with
 |int i=>induction c<;>first|exact nf h2|(cases of_decide_eq_true h2;exact sS)
 |str s=>induction c<;>first|exact nf h2|exact sQ (B6 h2).1 (AN (B6 h2).2)
 |none=>induction c<;>first|exact nf h2|exact Sq
 |bool b=>induction c<;>first|exact nf h2|(cases eq_of_beq h2;exact kK)
 |_=>exact nf h2
theorem YF{i:Nat}:PE mg mb w A G (.v i):=λ K C env U x N h=>by exact aK (B6 h).2 λ y h1 h2=>nE h1 λ p=>.of (λ u e=>FN N h2 (Hy e)) rfl
theorem e_gv{k:Nat}:PE mg mb w A G (.gv k):=λ K C env U x N h=>by refine aK (B6 h).2 λ y h1 h2=>nE h1 λ p=>aK h2 λ z h3 h4=>.of (λ u e=>?_) rfl;exact mE e λ i h5=>U7 h4 λ h6 h7=>zP N h3 h6 h7 h5
theorem iQ{o:O1}{u:LI}(h:zA o=Aa u):u≠.Not:=by induction o using O1.casesOn<;>first|exact nn h|(obtain rfl:=sj h;exact(λ h=>by cases h))
theorem ZK{op:LI}{p:Pos}(h:op≠.Not):isTrue (.UnaryOp op z p) env (AM (.UnaryOp op z p) env)=(do let v <-AM (.UnaryOp op z p) env;HZ p;UE [v] (MY v)):=by induction op<;>first|rfl|exact absurd rfl h
theorem cX{o:O1}(h:gS o=Ab):o=.isBool:=by induction o using O1.casesOn<;>first|rfl|exact nf h
theorem Vg{o:O2}(h:gT o=Ab):o=.i:=by induction o using O2.casesOn<;>first|rfl|exact nf h
theorem e_o1(X:Cx mg mb w G n A){o:O1}{a:Ex}(ha:PE mg mb w A G a):PE mg mb w A G (.o1 o a):=λ K C env U x N h=>by
 have part:∀v,ev G (.o1 o a) U=Aa v->∃va,ev G a U=Aa va/\QA o va=Aa v:=λ v e=>Hi e;rcases Bool.or_eq_true_iff.mp (B6 h).2 with h|h;rcases Bool.or_eq_true_iff.mp h with h|h
 ·refine aK h λ u h1 h2=>aK h2 λ q h3 h4=>CJ h4 λ h5 h6=>?_;refine Aw (Uh h3) λ p H2=>?_;subst H2;obtain⟨op,z⟩:=q;have e:op=u:=RI h5;subst e;refine .of (λ v e=>?_) (ZK (iQ h1));exact AF (part v e) λ va e1 e2=>zK h1 e2 ((ha _ _ _ _ _ N h6).v _ e1)
 ·refine aK h λ q h1 h2=>cE h1 λ p q'=>CJ h2 λ h3 h4=>?_;rw[BC h3];refine .of (λ v e=>?_) rfl;refine AF (part v e) λ va e1 e2=>?_;rcases Bool.or_eq_true_iff.mp h4 with h|h
  ·refine aK h λ y h5 h6=>CJ h6 λ h6 h7=>aK h7 λ z h8 h9=>?_;rw[Cv h8];exact Y4 N X.hA.hd h5 h6 e2 ((ha _ _ _ _ _ N h9).v _ e1) (AH h9)
  ·refine Ms h λ h5 h7 h6=>aK h6 λ r h8 h9=>CJ h9 λ h9 h10=>aK h10 λ z h11 h12=>aK h12 λ b h13 h14=>?_;refine Aw (BL h13) λ p2 H2=>?_;subst H2;rw[Fp h8,Cv h11];have:=cX h5;subst this;exact WY N h7 h14 ((ha _ _ _ _ _ N h9).v _ e1) (AH h9) e2
 ·refine aK h λ y h1 h2=>aK h2 λ q h3 h4=>?_;refine A9 (Qm h3) λ hl H2=>?_;subst H2;refine Zh h4 λ h4 h7 h6 h5=>?_;rw[BC h7];refine .of (λ v e=>?_) rfl;exact AF (part v e) λ va e1 e2=>zO (by rw[h1,Dj h4]) e2 h5 hl ((ha _ _ _ _ _ N h6).v _ e1)
theorem e_o2(X:Cx mg mb w G n A){o:O2}{a b:Ex}(ha:PE mg mb w A G a)(hb:PE mg mb w A G b):PE mg mb w A G (.o2 o a b):=λ K C env U x N h=>by
 have part:∀v,ev G (.o2 o a b) U=Aa v->∃va vb,ev G a U=Aa va/\ev G b U=Aa vb/\Cj o va vb=Aa v:=λ v e=>by exact bK (show((ev G a U).bind λ x=>(ev G b U).bind (Cj o x))=Aa v from e) λ va h1 h2=>bK h2 λ vb h3 h4=>⟨va,vb,h1,h3,h4⟩
 rcases Bool.or_eq_true_iff.mp (B6 h).2 with h|h;rcases Bool.or_eq_true_iff.mp h with h|h;rcases Bool.or_eq_true_iff.mp h with h|h;rcases Bool.or_eq_true_iff.mp h with h|h
 ·refine aK h λ u h1 h2=>aK h2 λ q h3 h4=>?_;refine Aw (Yl h3) λ p H2=>?_;subst H2;refine Ms h4 λ h4 h6 h5=>.of (λ v e=>?_) rfl;exact El (part v e) λ va vb e1 e2 e3=>sX (by rw[h1,RJ h4]) e3 ((ha _ _ _ _ _ N h6).v _ e1) ((hb _ _ _ _ _ N h5).v _ e2)
 ·refine aK h λ u h1 h2=>aK h2 λ q h3 h4=>?_;refine Aw (Lu h3) λ p H2=>?_;subst H2;refine aK h4 λ c h5 h6=>aK h6 λ y h7 h8=>Ms h8 λ h8 h10 h9=>?_;rw[Cv h5,Cv h7];have hc:Rq o=Aa c:=by rw[h1,J5 h8]
  refine⟨λ v e=>?_,λ d e=>?_⟩
  ·exact El (part v e) λ va vb e1 e2 e3=>sW hc e3 ((ha _ _ _ _ _ N h10).v _ e1) ((hb _ _ _ _ _ N h9).v _ e2) X.hA.cline (Ge h9)
  ·exact bK e λ v e e4=>El (part v e) λ va vb e1 e2 e3=>TC hc e3 e4 ((ha _ _ _ _ _ N h10).v _ e1) ((hb _ _ _ _ _ N h9).v _ e2) X.hA.cline (Ge h9)
 ·refine aK h λ z h1 h2=>aK h2 λ q h3 h4=>cE h3 λ p q'=>Ms h4 λ h4 h6 h5=>aK h5 λ r h7 h8=>CJ h8 λ h8 h9=>aK h9 λ y h10 h11=>?_;rw[BC h6,Fp h7,Cv h10];refine .of (λ v e=>?_) rfl;exact El (part v e) λ va vb e1 e2 e3=>Y3 N X.hA.hd h1 h4 e3 ((ha _ _ _ _ _ N h8).v _ e1) (AH h8) ((hb _ _ _ _ _ N h11).v _ e2) (AH h11)
 ·refine aK h λ z h1 h2=>aK h2 λ q h3 h4=>?_;refine A9 (Qm h3) λ hl H2=>?_;subst H2;refine Zh h4 λ h4 h7 h6 h5=>aK h5 λ y h8 h9=>?_;rw[Cv h8];refine .of (λ v e=>?_) rfl;exact El (part v e) λ va vb e1 e2 e3=>zN (by rw[h1,Dj h4]) e3 h6 hl ((ha _ _ _ _ _ N h7).v _ e1) ((hb _ _ _ _ _ N h9).v _ e2) (AH h9)
 ·refine CJ h λ h1 h2=>aK h2 λ q h3 h4=>?_;refine Aw (Ls h3) λ p H2=>?_;subst H2;refine CJ h4 λ h4 h5=>?_;have:=Vg h1;subst this;refine .of (λ v e=>?_) rfl;exact El (part v e) λ va vb e1 e2 e3=>sU e3 ((ha _ _ _ _ _ N h4).v _ e1) ((hb _ _ _ _ _ N h5).v _ e2)
theorem S2{e:Ex}(he:PE mg mb w A G e){o:Option Ac}{u:V}(N:AJ K C env)(hc:bG (λ y=>chk K e y) e o=Ab)(hu:ev G e U=Aa u):Cg mg mb w C A U (VX o env) u:=by
 refine bC ?_
 induction o with
 |none=>induction e using Ex.casesOn<;>first|exact nf hc|(obtain rfl:=sj hu;rfl)
 |some y=>exact(he _ _ _ _ _ N hc).v _ hu
theorem e_sl{a lo hi st:Ex}(ha:PE mg mb w A G a)(hl:PE mg mb w A G lo)(hh:PE mg mb w A G hi)(hk:PE mg mb w A G st):PE mg mb w A G (.sl a lo hi st):=λ K C env U x N h=>by refine aK (B6 h).2 λ q h1 h2=>?_;refine Aw (Ls h1) λ p H2=>?_;subst H2;refine CJ h2 λ h2 h3=>aK h3 λ r h4 h5=>Aw (SU h4) λ p' h4=>Ms h5 λ h5 h7 h6=>?_;rw[h4];refine .of (λ v e=>?_) rfl;exact bK (show((ev G a U).bind λ x=>(ev G lo U).bind λ l=>(ev G hi U).bind λ h=>(ev G st U).bind (P9 x l h))=Aa v from e) λ va e1 e=>bK e λ vl e2 e=>bK e λ vh e3 e=>bK e λ vk e4 e=>zM e ((ha _ _ _ _ _ N h2).v _ e1) (S2 hl N h5 e2) (S2 hh N h7 e3) (S2 hk N h6 e4)
theorem wC{a:Ex}(ha:PE mg mb w A G a):PE mg mb w A G (.not a):=λ K C env U x N h=>by
 refine aK (B6 h).2 λ q h1 h2=>?_;refine Aw (Uh h1) λ p H2=>?_;subst H2;refine CJ h2 λ h2 h3=>?_;have I:=ha _ _ _ U _ N h3;rw[RI h2];refine⟨λ v e=>?_,λ b e=>?_⟩
 ·refine mK (show((ev G a U).bind truthy).map (λ b=>V.bool (!b))=Aa v from e) λ c h4 H3=>?_;subst H3;exact bK h4 λ u h5 h6=>Cg.notv (I.v u h5) h6
 ·refine bK e λ v e e'=>?_;refine mK (show((ev G a U).bind truthy).map (λ b=>V.bool (!b))=Aa v from e) λ c h4 H3=>?_;subst H3;obtain rfl:=sj e';exact rV (I.t c h4)
theorem oE{and:Bool}{es:Fu}(hs:PS mg mb w A G es):PE mg mb w A G (.bool and es):=λ K C env U x N h=>by
 refine aK (B6 h).2 λ q h1 h2=>?_;refine Aw (Vp h1) λ p H2=>?_;subst H2;refine CJ h2 λ h2 h3=>?_;obtain⟨op,xs⟩:=q;have e:op=PV and:=by induction op<;>induction and<;>first|rfl|exact nf h2
 subst e;have I:=hs _ _ _ U _ N h3;exact⟨λ v e=>I.b and p v e,λ b e=>I.bt and p _ b e⟩
theorem wH{t a b:Ex}(ht:PE mg mb w A G t)(ha:PE mg mb w A G a)(hb:PE mg mb w A G b):PE mg mb w A G (.f t a b):=λ K C env U x N h=>by
 refine aK (B6 h).2 λ q h1 h2=>?_;refine Aw (Yg h1) λ p H2=>?_;subst H2;refine Ms h2 λ h2 h4 h3=>⟨λ v e=>?_,λ d e=>?_⟩
 ·exact bK (show(((ev G t U).bind truthy).bind λ c=>Ca c (ev G a U) (ev G b U))=Aa v from e) λ c h5 h6=>A9 (HU h6) λ h7 h8=>sT ((ht _ _ _ _ _ N h2).t c h5) (λ q=>(ha _ _ _ _ _ N h4).v _ (h7 q)) λ q=>(hb _ _ _ _ _ N h3).v _ (h8 q)
 ·exact bK e λ v e e'=>bK (show(((ev G t U).bind truthy).bind λ c=>Ca c (ev G a U) (ev G b U))=Aa v from e) λ c h5 h6=>A9 (HU h6) λ h7 h8=>rX ((ht _ _ _ _ _ N h2).t c h5) (λ q=>(ha _ _ _ _ _ N h4).t _ (by show(ev G a U).bind truthy=_;rw[h7 q];exact e')) λ q=>(hb _ _ _ _ _ N h3).t _ (by show(ev G b U).bind truthy=_;rw[h8 q];exact e')
theorem L0{es:Fu}{xs:List Ac}{us:List V}(h:Ie xs.length 1000=Ab)(hc:Gw K es xs=Ab)(he:IS G es U=Aa us):us.length<=CN:=by rw[Nc hc he];exact Ak (AN h) (by decide)
theorem wB{es:Fu}(hs:PS mg mb w A G es):PE mg mb w A G (.tup es):=λ K C env U x N h=>by refine aK (B6 h).2 λ q h1 h2=>?_;refine F1 (JE h1) λ k p H3=>?_;subst H3;refine CJ h2 λ h2 h3=>.of (λ v e=>?_) rfl;exact mE (show(IS G es U).map V.tup=Aa v from e) λ vs h4=>sP ((hs _ _ _ _ _ N h3).v _ h4) (L0 h2 h3 h4)
theorem wE{es:Fu}(hs:PS mg mb w A G es):PE mg mb w A G (.l es):=λ K C env U x N h=>by refine aK (B6 h).2 λ q h1 h2=>?_;refine Aw (Me h1) λ p H2=>?_;subst H2;refine CJ h2 λ h2 h3=>.of (λ v e=>?_) rfl;exact mE (show(IS G es U).map V.list=Aa v from e) λ vs h4=>kH ((hs _ _ _ _ _ N h3).v _ h4) (L0 h2 h3 h4)
@[elab_as_elim] theorem Rz{f:Nat}{es:Fu}{key:Option Nat}(h:chk K (.call f es key) x=Ab){gC:Ac->Prop}(gk:∀y xs ks p q,EC K f y=Ab->Gw K es xs=Ab->VT K key ks->xs≠[]->gC (.Call (.Name y p) xs ks q)):gC x:=by exact aK (B6 h).2 λ c h1 h2=>cE h1 λ p q=>Zh h2 λ h2 h5 h4 h3=>gk _ _ _ p q h2 h5 (M6 h4) (gJ h3)
theorem oD(X:Cx mg mb w G n A){f:Nat}{es:Fu}{key:Option Nat}(hs:PS mg mb w A G es):PE mg mb w A G (.call f es key):=λ K C env U x N h=>by refine Rz h λ y xs ks p q h1 h2 h3 h4=>.of (λ v e=>?_) rfl;exact bK (show((IS G es U).bind λ vs=>G f vs key)=Aa v from e) λ vs h5 h6=>aW N X.S X.hA h1 h3 h4 ((hs _ _ _ _ _ N h2).v _ h5) (IT h2) h6
theorem dR(X:Cx mg mb w G n A){i:Nat}{es:Fu}(hs:PS mg mb w A G es):PE mg mb w A G (.callv i es):=λ K C env U x N h=>by refine aK (B6 h).2 λ c h1 h2=>cE h1 λ p q=>Zh h2 λ h2 h5 h4 h3=>?_;rw[BC h2];refine .of (λ v e=>?_) rfl;refine bK (show(((Bv (rd U i)).bind fB).bind λ f=>(IS G es U).bind λ vs=>G f vs Ae)=Aa v from e) λ f e1 e2=>bK e1 λ u e3 e4=>?_;have:=VP e4;subst this;exact bK e2 λ vs e5 e6=>TP N X.S X.hA h5 (Hy e3) (gJ h3) ((hs _ _ _ _ _ N h4).v _ e5) (IT h4) e6
theorem dS(X:Cx mg mb w G n A){f i:Nat}{es:Fu}(hs:PS mg mb w A G es):PE mg mb w A G (.callo f i es):=λ K C env U x N h=>by refine aK (B6 h).2 λ c h1 h2=>cE h1 λ p q=>Ms h2 λ h2 h4 h3=>aK h3 λ r h5 h6=>CJ h6 λ h6 h7=>aK h6 λ y h8 h9=>Aw (BL h8) λ p' h8=>?_;rw[BC h2,Fp h5,h8];refine .of (λ v e=>?_) rfl;refine HX (show((EE (rd U i)).bind λ xs=>(IS G es U).bind λ vs=>((G f (.list xs::vs) Ae).bind Bb).map V.int)=Aa v from e) λ xs e1 e2=>bK e2 λ vs e3 e4=>?_;refine mE e4 λ j e5=>?_;refine bK e5 λ u e6 e7=>?_;have:=B5 e7;subst this;exact TQ N X.S X.hA h4 h9 e1 ((hs _ _ _ _ _ N h7).v _ e3) (IT h7) e6
theorem oB{i:Nat}{a:Ex}(ha:PE mg mb w A G a):PE mg mb w A G (.idxo i a):=λ K C env U x N h=>by refine aK (B6 h).2 λ q h1 h2=>?_;refine Aw (Ls h1) λ p H2=>?_;subst H2;refine CJ h2 λ h2 h3=>aK h2 λ y h4 h5=>Aw (BL h4) λ p' h4=>?_;rw[h4];refine .of (λ v e=>?_) rfl;exact HX (show((EE (rd U i)).bind λ xs=>(ev G a U).bind (Cj .i (.list xs)))=Aa v from e) λ xs e1 e2=>bK e2 λ u e3 e4=>kJ N h5 e1 ((ha _ _ _ _ _ N h3).v _ e3) e4
theorem dP{i:Nat}:PE mg mb w A G (.isown i j):=λ K C env U x N h=>by
 refine aK (B6 h).2 λ q h1 h2=>?_;refine Aw (Lu h1) λ p H2=>?_;subst H2;refine Ms h2 λ h2 h4 h3=>aK h2 λ c h5 h6=>aK h4 λ z h7 h8=>aK h8 λ y h9 h10=>aK h3 λ y' h11 h12=>Aw (BL h9) λ p1 h9=>Aw (BL h11) λ p2 h11=>?_;rw[Cv h5,<-J5 h6,Cv h7,h9,h11];have part:∀v,ev G (.isown i j) U=Aa v->v=.bool Ai/\∃xs ys,rd U i=.x xs/\rd U j=.w (.list ys):=λ v e=>by refine HX (show((EE (rd U i)).bind λ t=>((Bv (rd U j)).bind BD).map λ t=>V.bool Ai)=Aa v from e) λ xs e1 e2=>?_;exact mE e2 λ ys e3=>bK e3 λ u e4 e5=>⟨rfl,xs,ys,e1,by rw[Hy e4,Cu e5]⟩
 refine⟨λ v e=>?_,λ b e=>?_⟩
 ·refine A9 (part v e) λ ξ1 H=>?_;refine E1 H λ xs ys e1 e2=>?_;subst ξ1;exact aV N h12 e1 h10 e2
 ·refine bK e λ v e e'=>?_;refine A9 (part v e) λ ξ1 H=>?_;refine E1 H λ xs ys e1 e2=>?_;subst ξ1;obtain rfl:=sj e';exact ZS N h12 e1 h10 e2
theorem wD(X:Cx mg mb w G n A){i:Nat}{a:Ex}(ha:PE mg mb w A G a):PE mg mb w A G (.neo i a):=λ K C env U x N h=>by
 refine aK (B6 h).2 λ q h1 h2=>?_;refine Aw (Lu h1) λ p H2=>?_;subst H2;refine Ms h2 λ h2 h4 h3=>aK h2 λ c h5 h6=>aK h4 λ y h7 h8=>aK h3 λ z h9 h10=>Aw (BL h7) λ p1 h7=>?_;rw[Cv h5,<-J5 h6,Cv h9,h7];have part:∀v,ev G (.neo i a) U=Aa v->∃xs u,rd U i=.x xs/\ev G a U=Aa u/\Cj .ne (.list xs) u=Aa v:=λ v e=>by exact HX (show((EE (rd U i)).bind λ xs=>(ev G a U).bind (Cj .ne (.list xs)))=Aa v from e) λ xs e1 e2=>bK e2 λ u e3 e4=>⟨xs,u,e1,e3,e4⟩
 refine⟨λ v e=>?_,λ b e=>?_⟩
 ·exact El (part v e) λ xs u e1 e2 e3=>sR N h8 e1 ((ha _ _ _ _ _ N h10).v _ e2) e3 X.hA.cline (Ge h10)
 ·exact bK e λ v e e'=>El (part v e) λ xs u e1 e2 e3=>rW N h8 e1 ((ha _ _ _ _ _ N h10).v _ e2) e3 e' X.hA.cline (Ge h10)
theorem Up{cond:Fu}{elt:Ex}(hc:PS mg mb w A G cond)(he:PE mg mb w A G elt){C':Er}{env':Env}{U'1:AQ}{ys:List V}{ifs:List Ac}(N:AJ K' C' env')(h1:Gw K' cond ifs=Ab)(h2:chk K' elt x=Ab)(h:ED (CC G cond) (ev G elt) U'1=Aa ys):
  ∃b,Mw mg mb w C' A U'1 ifs env' b/\(b=Ab->∃v,ys=[v]/\Cg mg mb w C' A U'1 (AM x env') v)/\(b=Ai->ys=[]):=by
 refine bK h λ b h3 h4=>⟨b,(hc _ _ _ _ _ N h1).t b h3,λ e=>?_,λ e=>?_⟩
 ·rw[e,if_pos rfl] at h4;refine mE h4 λ u h5=>?_;exact⟨u,rfl,(he _ _ _ _ _ N h2).v u h5⟩
 ·rw[e,if_neg nf] at h4;obtain rfl:=sj h4;rfl
structure Mx(mg mb:Str->Option Ad)(w:B2)(A:Br)(K':Kx)(C:Er)(env:Env)(U:AQ)(vs:List Nat)(t:Tg)(elt tg itx:Ac)(ifs:List Ac)(more:List Cm)(sc:Scope)(pos:Pos)(xs all:List V)(g:AQ->Option (List V))(RT:Env->Aj->Aj->(Af->Prop)->(Ad->Af->Prop)->Af->Prop):Prop where
 htin:∀i∈t.vars,i∈vs
 ht:F5 K' t tg=Ab
 hit:H9 mg mb w C A U tg (AM itx env) xs
 hs:∀x,BB itx env x=pure x
 hno:∀v∈vs,∀ys,rd U v≠.x ys
 hturn:∀env' D σ (s:Af) (P:Fin->Af->Prop) (E:Ad->Af->Prop),As (An pw w) A (D7 (.ref σ)) (λ r s'1=>match r with
    |none=>P (.done .next) s'1
    |some v=>As (An pw w) A (Bh tg (.ref σ) v) (λ z s'2=>As (An pw w) A (EH tg env' v) (λ z s'3=>RT env' D σ (λ s'4=>P (.again (.compLoop (.ListComp elt (⟨tg,itx,ifs,0⟩::more) sc pos) 0 (.ref σ) (.ref D) env')) s'4) E s'3) E s'2) E s'1) E s->
   As (An pw w) A (Gk (.ListComp elt (⟨tg,itx,ifs,0⟩::more) sc pos) 0 (.ref σ) (.ref D) env') P E s
 hin:JL mg mb w A K' t (Du vs U) g RT
 hall:Eb (λ x=>(Ck t x (Du vs U)).bind g) xs=Aa all
 hsz:all.length<=CN
theorem N3(hh:A.handled=Ae){vs:List Nat}{t:Tg}{it:It}{cond:Fu}{elt:Ex}(hi:PI mg mb w A G it)(hc:PS mg mb w A G cond)(he:PE mg mb w A G elt)(N:AJ K C env)
  (h:chk K (.comp vs t it cond elt) x=Ab) (e:ev G (.comp vs t it cond elt) U=Aa v) {gC:Prop} (gk:∀K' elt' tg itx ifs more sc pos xs all g RT,x=.ListComp elt' (⟨tg,itx,ifs,0⟩::more) sc pos->v=.list all->IM K sc vs=Aa K'->Mx mg mb w A K' C env U vs t elt' tg itx ifs more sc pos xs all g RT->gC):gC:=by
 refine Ry h λ K' elt' tg itx ifs sc p ex c1 c2 c3 c4 c5 c6 c7=>bK (show(EU G it U).bind (JK vs t (ED (CC G cond) (ev G elt)) U)=Aa v from e) λ xs h1 h2=>?_;refine A9 (N4 h2) λ h3 H=>?_;refine E3 H λ ys h4 h5 ξ4=>?_;subst ξ4;exact gk K' elt' tg itx ifs [] sc p xs ys _ _ ex rfl c3 ⟨JQ c4,c5,(hi _ _ _ _ _ xs N c2 h1).i tg (OS.of c1 c5),Ix c2 env,h3,λ env' D σ s P E h=>Wu env' D σ s P E h,
  in1 (JQ c4) λ C' env' U'1 ys N' hg=>Up hc he N' c6 c7 hg,h4,h5⟩
theorem MN(hh:A.handled=Ae){vs:List Nat}{t1 t2:Tg}{it1 it2:It}{cond:Fu}{elt:Ex}(hi1:PI mg mb w A G it1)(hi2:PI mg mb w A G it2)(hc:PS mg mb w A G cond)(he:PE mg mb w A G elt)(N:AJ K C env)
  (h:chk K (.comp2 vs t1 it1 t2 it2 cond elt) x=Ab) (e:ev G (.comp2 vs t1 it1 t2 it2 cond elt) U=Aa v) {gC:Prop} (gk:∀K' elt' tg itx ifs more sc pos xs all g RT,x=.ListComp elt' (⟨tg,itx,ifs,0⟩::more) sc pos->v=.list all->IM K sc vs=Aa K'->Mx mg mb w A K' C env U vs t1 elt' tg itx ifs more sc pos xs all g RT->gC):gC:=by
 refine Pw h λ K' elt' tg1 itx1 tg2 itx2 ifs sc p ex c1 c1' c2 c3 c4 c4' cd c5 c2' c5' c6 c7=>bK (show(EU G it1 U).bind (JK vs t1 (λ U'1=>(EU G it2 U'1).bind (Eb λ y=>(Ck t2 y U'1).bind (ED (CC G cond) (ev G elt)))) U)=Aa v from e) λ xs h1 h2=>?_;refine A9 (N4 h2) λ h3 H=>?_;refine E3 H λ ys h4 h5 ξ4=>?_;subst ξ4;have cd':∀i∈t2.vars,i∉t1.vars:=λ i hi hj=>by have:=Al.mp cd i hi;rw[Lo.mpr hj] at this;exact nf this
 refine gk K' elt' tg1 itx1 [] [⟨tg2,itx2,ifs,0⟩] sc p xs ys _ _ ex rfl c3 ⟨JQ c4,c5,(hi1 _ _ _ _ _ xs N c2 h1).i tg1 (OS.of c1 c5),Ix c2 env,h3,λ env' D σ s P E h=>rT (λ env x=>Ix c2' env x) env' D σ s P E h,
  dD hh (JQ c4) (JQ c4') cd' c5' (λ C' env' U'1 xs N' hx=>(hi2 _ _ _ _ _ xs N' c2' hx).i tg2 (OS.of c1' c5')) λ x U'1 hb=>vF (λ y U'2 hb2 j us e=>?_) λ C' env' U'1 ys N' hg=>Up hc he N' c6 c7 hg,h4,h5⟩
 by_cases hj:j∈t2.vars
 ·rw[(Hx hb j).1 (cd' j hj),Ju.1 (JQ c4' j hj)] at e;cases e
 ·rw[(Hx hb2 j).1 hj];exact e
theorem oC(hh:A.handled=Ae){vs:List Nat}{t:Tg}{it:It}{cond:Fu}{elt:Ex}(hi:PI mg mb w A G it)(hc:PS mg mb w A G cond)(he:PE mg mb w A G elt):PE mg mb w A G (.comp vs t it cond elt):=λ K C env U x N h=>by refine .of (λ v e=>?_) (Ry h λ _ _ _ _ _ _ _ e _ _ _ _ _ _ _=>by rw[e];rfl);refine N3 hh hi hc he N h e λ K' elt' tg itx ifs more sc pos xs all g RT e1 e2 h1 F=>?_;subst e1 e2;exact TO N hh h1 F.htin F.ht F.hit F.hs F.hno F.hturn F.hin F.hall F.hsz
theorem dQ(hh:A.handled=Ae){vs:List Nat}{t1 t2:Tg}{it1 it2:It}{cond:Fu}{elt:Ex}(hi1:PI mg mb w A G it1)(hi2:PI mg mb w A G it2)(hc:PS mg mb w A G cond)(he:PE mg mb w A G elt):PE mg mb w A G (.comp2 vs t1 it1 t2 it2 cond elt):=λ K C env U x N h=>by refine .of (λ v e=>?_) (Pw h λ _ _ _ _ _ _ _ _ _ e _ _ _ _ _ _ _ _ _ _ _ _=>by rw[e];rfl);refine MN hh hi1 hi2 hc he N h e λ K' elt' tg itx ifs more sc pos xs all g RT e1 e2 h1 F=>?_;subst e1 e2;exact TO N hh h1 F.htin F.ht F.hit F.hs F.hno F.hturn F.hin F.hall F.hsz
@[elab_as_elim] theorem Qg{it:It}(h:chk K (.lof it) x=Ab){gC:Ac->Prop}(gk:∀g y p q,HJ K g "list"=Ab->aR it=Ab->Mn K it y=Ab->gC (.Call (.Name g p) [y] [] q)):gC x:=by refine aK (B6 h).2 λ c h1 h2=>cE h1 λ p q=>Ms h2 λ h2 h4 h3=>aK h3 λ z h5 h6=>CJ h6 λ h6 h7=>?_;rw[BC h4,Cv h5];exact gk _ z p q h2 h6 h7
theorem wF{it:It}(hi:PI mg mb w A G it):PE mg mb w A G (.lof it):=λ K C env U x N h=>by refine Qg h λ g y p q h1 h2 h3=>.of (λ v e=>?_) rfl;refine bK (show((EU G it U).bind λ xs=>if xs.length<=CN then Aa (V.list xs) else Ae)=Aa v from e) λ xs h4 h5=>iK h5 λ h7 h6=>?_;obtain rfl:=sj h6;exact sV ((hi _ _ _ _ _ xs N h3 h4).l h2 g p q h1 h7)
theorem oA(X:Cx mg mb w G n A){g:Nat}{a:Ex}(ha:PE mg mb w A G a):PE mg mb w A G (.sort g a):=λ K C env U x N h=>by refine aK (B6 h).2 λ c h1 h2=>cE h1 λ p q=>Ms h2 λ h2 h4 h3=>aK h3 λ z h5 h6=>Lc (M6 (show eO K (Aa g) c.2.2=Ab from h4)) λ y p1 p2 h7 h8=>?_;rw[h7,Cv h5];refine .of (λ v e=>?_) rfl;refine Oj (show(((ev G a U).bind BD).bind λ xs=>if xs.length<64 then((Lq G g xs).bind λ ks=>Nr (ks.map (·.1)) xs).map V.list else Ae)=Aa v from e) λ xs e1 e2=>iK e2 λ e3 e4=>?_;exact mE e4 λ ys e5=>bK e5 λ ks e6 e7=>X.so N h2 h8 (AH h6) ((ha _ _ _ _ _ N h6).v _ e1) e3 e6 e7
theorem qE.of{it:It}{xs:List V}(hn:aR it=Ai)(h:∀tg,OS it tg->H9 mg mb w C A U tg (AM x env) xs):qE mg mb w A G it K C env U x xs:=⟨h,λ q=>by rw[hn] at q;exact nf q⟩
theorem i_ex(hh:A.handled=Ae){a:Ex}(ha:PE mg mb w A G a):PI mg mb w A G (.ex a):=λ K C env U x xs N h e=>by
 refine bK (show(ev G a U).bind On=Aa xs from e) λ v h1 h2=>.of rfl λ tg z=>?_;have q:=(ha _ _ _ _ _ N (B6 h).2).v v h1;rcases Tk h2 with rfl|rfl
 ·exact T8 hh q
 ·exact mO hh q
@[elab_as_elim] theorem N6{f:Ac->Bool}{nm:Str}(h:AP (cN x) (λ q=>Df q.2.2&&HJ K q.1 nm&&AP (l1 q.2.1) f)=Ab){gC:Ac->Prop}(gk:∀y z p q,HJ K y nm=Ab->f z=Ab->gC (.Call (.Name y p) [z] [] q)):gC x:=by refine aK h λ c h1 h2=>cE h1 λ p q=>Ms h2 λ h2 h4 h3=>aK h3 λ z h5 h6=>?_;rw[BC h2,Cv h5];exact gk _ z p q h4 h6
theorem N5{f g:Ac->Bool}{nm:Str}(h:AP (cN x) (λ q=>Df q.2.2&&HJ K q.1 nm&&AP (l2 q.2.1) λ r=>f r.1&&AP (l1 r.2) g)=Ab){gC:Prop}(gk:∀y z z' p q,x=.Call (.Name y p) [z,z'] [] q->HJ K y nm=Ab->f z=Ab->g z'=Ab->gC):gC:=aK h λ c h1 h2=>Ms h2 λ h2 h4 h3=>aK h3 λ z h5 h6=>CJ h6 λ h6 h7=>aK h7 λ u h8 h9=>F1 (Tc h1) λ p q e=>gk _ z.1 u p q (by rw[e,BC h2,Fp h5,Cv h8]) h4 h6 h9
theorem nA(hh:A.handled=Ae){a:Ex}(ha:PE mg mb w A G a):PI mg mb w A G (.r a):=λ K C env U x xs N h e=>by exact N6 (B6 h).2 λ y z p q h1 h2=>HY (show((ev G a U).bind Bb).bind (λ n=>Dc 0 n 1)=Aa xs from e) λ i h3 h4=>.of rfl λ tg u=>cV N hh h1 ((ha _ _ _ _ _ N h2).v _ h3) (AH h2) h4
theorem vH(hh:A.handled=Ae){a:Ex}(ha:PE mg mb w A G a):PI mg mb w A G (.rev a):=λ K C env U x xs N h e=>by refine N6 (B6 h).2 λ y z p q h1 h2=>?_;refine mK (show((ev G a U).bind BD).map Nj=Aa xs from e) λ i h3 H3=>?_;subst H3;exact bK h3 λ v h4 h5=>.of rfl λ tg u=>mP N hh h1 ((ha _ _ _ _ _ N h2).v _ (Cu h5▸h4)) (AH h2)
theorem mZ(hh:A.handled=Ae){a b:Ex}(ha:PE mg mb w A G a)(hb:PE mg mb w A G b):PI mg mb w A G (.rng2 a b):=λ K C env U x xs N h e=>by refine N5 (B6 h).2 λ y z z' p q H h1 h2 h2'=>?_;subst H;exact HY (show((ev G a U).bind Bb).bind (λ m=>((ev G b U).bind Bb).bind λ n=>Dc m n 1)=Aa xs from e) λ i h3 h4=>HY h4 λ j h5 h6=>.of rfl λ tg u=>cU N hh h1 ((ha _ _ _ _ _ N h2).v _ h3) (AH h2) ((hb _ _ _ _ _ N h2').v _ h5) (AH h2') h6
theorem vG(hh:A.handled=Ae){a b:Ex}(ha:PE mg mb w A G a)(hb:PE mg mb w A G b):PI mg mb w A G (.zip a b):=λ K C env U x xs N h e=>by refine N5 (B6 h).2 λ y z z' p q H h1 h2 h2'=>?_;subst H;refine Oj (show((ev G a U).bind BD).bind (λ xs=>((ev G b U).bind BD).map λ ys=>LS xs ys)=Aa xs from e) λ as h3 h4=>?_;refine mE h4 λ bs h5=>?_;refine bK h5 λ v h5 h6=>.of rfl λ tg ht=>?_;refine yX (ht ⟨a,b,rfl⟩) λ elts k tp ξ4=>?_;subst ξ4;exact mN N hh h1 ((ha _ _ _ _ _ N h2).v _ h3) (AH h2) ((hb _ _ _ _ _ N h2').v _ (Cu h6▸h5)) (AH h2')
theorem mY(hh:A.handled=Ae){a b c:Ex}(ha:PE mg mb w A G a)(hb:PE mg mb w A G b)(hc:PE mg mb w A G c):PI mg mb w A G (.rng3 a b c):=λ K C env U x xs N h e=>by refine aK (B6 h).2 λ d h1 h2=>cE h1 λ p q=>Ms h2 λ h2 h4 h3=>aK h3 λ z h5 h6=>CJ h6 λ h6 h7=>aK h7 λ z' h8 h9=>CJ h9 λ h9 h10=>aK h10 λ u h11 h12=>?_;rw[BC h2,Fp h5,Fp h8,Cv h11];refine HY (show((ev G a U).bind Bb).bind (λ i=>((ev G b U).bind Bb).bind λ j=>((ev G c U).bind Bb).bind λ k=>Dc i j k)=Aa xs from e) λ i e1 e=>HY e λ j e2 e=>HY e λ k e3 e=>?_;have q1:=(ha _ _ _ _ _ N h6).v _ e1;have q2:=(hb _ _ _ _ _ N h9).v _ e2;have q3:=(hc _ _ _ _ _ N h12).v _ e3;exact⟨λ tg y=>cT N hh h4 q1 (AH h6) q2 (AH h9) q3 (AH h12) e,λ y g p1 p2 hg hl J s I=>Yn N hh hg h4 q1 (AH h6) q2 (AH h9) q3 (AH h12) e hl I⟩
theorem sJ:PS mg mb w A G .nil:=λ K C env U xs N h=>by rw[Iv h];exact⟨λ vs e=>by obtain rfl:=sj e;exact Ov,λ b e=>by obtain rfl:=sj e;exact Mw.nil,λ z z z e=>nn e,λ z z z z e=>nn e⟩
theorem jZ{a:Ex}{es:Fu}(ha:PE mg mb w A G a)(hs:PS mg mb w A G es):PS mg mb w A G (.cons a es):=λ K C env U xs N h=>by
 refine Hh h λ x r h1 h2=>?_;have Ia:=ha _ _ _ U _ N h1;have Is:=hs _ _ _ U _ N h2;refine⟨λ vs e=>?_,λ b e=>?_,λ and p v e=>?_,λ and p m b e=>?_⟩
 ·exact NX e λ v us e1 e2=>Dz (Ia.v v e1) (AH h1) (Is.v us e2)
 ·exact bK (show(((ev G a U).bind truthy).bind λ b=>Ca b (CC G es U) (Aa Ai))=Aa b from e) λ c e1 e2=>A9 (HU e2) λ e3 e4=>Mw.cons (Ia.t c e1) (λ q=>Is.t b (e3 q)) λ q=>(AE (e4 q)).symm
 ·induction es using Fu.casesOn with
  |nil=>rw[Iv h2];exact Sr (Ia.v v e)
  |cons e' r'=>obtain⟨y,ys,rfl⟩:∃y ys,r=y::ys:=Hh h2 λ y ys o o=>⟨y,ys,rfl⟩;exact bK (show((ev G a U).bind λ v=>(truthy v).bind λ b=>Ca (b==and) (yK G and (.cons e' r') U) (Aa v))=Aa v from e) λ u e1 e2=>bK e2 λ c e3 e4=>A9 (HU e4) λ e5 e6=>QS (Ia.v u e1) e3 (λ q=>Is.b and p v (e5 (q▸beq_self_eq_true c))) λ q=>(AE (e6 (beq_eq_false_iff_ne.mpr q))).symm
 ·induction es using Fu.casesOn with
  |nil=>rw[Iv h2];exact MA (Ia.t b e) (λ q=>q▸Sa) λ o=>rfl
  |cons e' r'=>refine bK e λ z e0 e7=>bK (show((ev G a U).bind λ v=>(truthy v).bind λ b=>Ca (b==and) (yK G and (.cons e' r') U) (Aa v))=Aa z from e0) λ u e1 e2=>bK e2 λ c e3 e4=>A9 (HU e4) λ e5 e6=>MA (Ia.t c (by show(ev G a U).bind truthy=_;rw[e1];exact e3)) (λ q=>Is.bt and p m b (by rw[e5 (q▸beq_self_eq_true c)];exact e7)) λ q=>?_;obtain rfl:=sj (e6 (beq_eq_false_iff_ne.mpr q));exact AE (e7.symm.trans e3)
mutual
theorem Dg(X:Cx mg mb w G n A):∀e,PE mg mb w A G e
 |.c _=>yL
 |.v _=>YF
 |.gv _=>e_gv
 |.a=>λ z z z z z z h=>nf (B6 h).2
 |.o1 _ a=>e_o1 X (Dg X a)
 |.o2 _ a b=>e_o2 X (Dg X a) (Dg X b)
 |.sl a b c d=>e_sl (Dg X a) (Dg X b) (Dg X c) (Dg X d)
 |.not a=>wC (Dg X a)
 |.bool _ es=>oE (Gd X es)
 |.f a b c=>wH (Dg X a) (Dg X b) (Dg X c)
 |.tup es=>wB (Gd X es)
 |.l es=>wE (Gd X es)
 |.call _ es _=>oD X (Gd X es)
 |.callv _ es=>dR X (Gd X es)
 |.callo _ _ es=>dS X (Gd X es)
 |.idxo _ a=>oB (Dg X a)
 |.isown _ _=>dP
 |.neo _ a=>wD X (Dg X a)
 |.comp _ _ it cond elt=>oC X.hA.hd (Lr X it) (Gd X cond) (Dg X elt)
 |.comp2 _ _ it1 _ it2 cond elt=>dQ X.hA.hd (Lr X it1) (Lr X it2) (Gd X cond) (Dg X elt)
 |.lof it=>wF (Lr X it)
 |.sort _ a=>oA X (Dg X a)
termination_by structural e=>e
theorem Lr(X:Cx mg mb w G n A):∀it,PI mg mb w A G it
 |.ex a=>i_ex X.hA.hd (Dg X a)
 |.r a=>nA X.hA.hd (Dg X a)
 |.rng2 a b=>mZ X.hA.hd (Dg X a) (Dg X b)
 |.rng3 a b c=>mY X.hA.hd (Dg X a) (Dg X b) (Dg X c)
 |.zip a b=>vG X.hA.hd (Dg X a) (Dg X b)
 |.rev a=>vH X.hA.hd (Dg X a)
termination_by structural it=>it
theorem Gd(X:Cx mg mb w G n A):∀es,PS mg mb w A G es
 |.nil=>sJ
 |.cons a es=>jZ (Dg X a) (Gd X es)
termination_by structural es=>es
theorem BP(X:Cx mg mb w G n A)(e:Ex)(K:Kx)(C:Er)(env:Env)(U:AQ)(x:Ac)(v:V)(N:AJ K C env)(h:chk K e x=Ab)(he:ev G e U=Aa v):Cg mg mb w C A U (AM x env) v:=(Dg X e K C env U x N h).v v he
theorem FJ(X:Cx mg mb w G n A)(e:Ex)(K:Kx)(C:Er)(env:Env)(U:AQ)(x:Ac)(b:Bool)(N:AJ K C env)(h:chk K e x=Ab)(he:Gr G e U=Aa b):Ni mg mb w C A U (isTrue x env (AM x env)) b:=(Dg X e K C env U x N h).t b he
theorem SZ(X:Cx mg mb w G n A)(es:Fu)(K:Kx)(C:Er)(env:Env)(U:AQ)(xs:List Ac)(vs:List V)(N:AJ K C env)(h:Gw K es xs=Ab)(he:IS G es U=Aa vs):DG mg mb w C A U xs env vs:=(Gd X es K C env U xs N h).v vs he
theorem Um(X:Cx mg mb w G n A)(it:It)(K:Kx)(C:Er)(env:Env)(U:AQ)(tg x:Ac)(xs:List V)(N:AJ K C env)(h:Mn K it x=Ab)(ht:OS it tg)(he:EU G it U=Aa xs):H9 mg mb w C A U tg (AM x env) xs:=(Lr X it K C env U x xs N h he).i tg ht
end
theorem Zb{Y:Aj->Prop}{x y:List Nat}{va vb:Ad}(h:(if x.length+y.length<=CN then Aa (V.str (x++y)) else Ae)=Aa r)(ra:A6 s.heap Y (.str x) va)(rb:A6 s.heap Y (.str y) vb)(g:GI mg mb s):Ok mg mb w A s (inplaceOp .Add va vb) λ s' v=>A6 s'.heap Y r v:=by refine sE ra λ z t=>?_;refine sE rb λ z t'=>?_;refine iK h λ hz h=>?_;obtain rfl:=sj h;refine λ Q E k=>PySem.SB.iadd (λ t'' tk=>k _ _ (g.toks tk) (.toks tk) ⟨by rw[AB];exact hz,t'',by rw[IJ]⟩) ?_;rw[Ce,Ce,<-Fn];exact hz
theorem pX{Y:Aj->Prop}{o:O2}{u:Ic}{va vb:Ad}(hu:Pz o=Aa u)(hk:Zc o=Ab)(hl:∀l,a≠.list l)(h:Cj o a b=Aa r)(ra:A6 s.heap Y a va)(rb:A6 s.heap Y b vb)(g:GI mg mb s):Ok mg mb w A s (inplaceOp u va vb) λ s' v=>A6 s'.heap Y r v:=by
 induction o using O2.casesOn<;>first|exact nf hk|obtain rfl:=sj hu
 case a=>
  induction a using V.casesOn<;>first|exact nn h|skip
  case int i=>refine mE h λ j h1=>?_;rw[B5 h1] at rb;refine iE ra λ t=>?_;exact iE rb λ t'=>CS g _ ⟨_,rfl⟩ λ Q E k=>PySem.P.iadd_int k
  case str x=>refine bK h λ y h1 h2=>?_;rw[Ft h1] at rb;exact Zb h2 ra rb g
  case list x=>exact absurd rfl (hl x)
 case sub=>exact FS h ra rb g λ i j e=>⟨_,DA e,λ t t' Q E k=>PySem.P.isub_int k⟩
 case mul=>exact FS h ra rb g λ i j e=>have e:=Fd e;⟨_,DA e.2,λ t t' Q E k=>PySem.P.imul_int k (gK e.1)⟩
 case shl=>exact FS h ra rb g λ i j e=>have e:=Fd e;⟨_,DA e.2,λ t t' Q E k=>PyProof.Rows.ilshift_int e.1.1 e.1.2 k⟩
 case shr=>exact FS h ra rb g λ i j e=>have e:=Fd e;⟨_,DA e.2,λ t t' Q E k=>PyProof.Rows.irshift_int e.1 k⟩
theorem jD(N:AJ K C env){o:O2}{u:Ic}{fx:Str}{p pos:Pos}{i:Nat}(hz:F8 K fx i=Ab)(hu:Pz o=Aa u)(hk:Zc o=Ab)(hl:∀l,a≠.list l)(hi:rd U i=.w a)(hx:Cg mg mb w C A U (AM x env) b)(he:Cj o a b=Aa r):
  D1 mg mb w C A U (DP (.AugAssign (.Name fx p) u x pos) env) (.next,wr U i (.w r)):=λ J s I Q E k=>by
 refine Db (NK hz N) λ h1 h2 h3=>wpAny_AugAssign_Name (Hu N h1 (by rw[hi];nofun) I (λ v q=>?_) h2);rw[hi] at q;have q:=q;refine hx J s I _ _ λ s'1 v'1 g'1 t'1 r'1=>pX hu hk hl he (q.step I.gi t'1) r'1 g'1 _ _ λ s'2 v'2 g'2 t'2 r'2=>Mr N hz ((I.step t'1 g'1).step t'2 g'2) r'2 λ s'3 I'3 f'3 z=>k J s'3 .next I'3 ((CT.of_stp (t'1.trans t'2) g'2).trans f'3) rfl
theorem ZZ(N:AJ K C env){z z':Str}{i:Nat}{p p' pos:Pos}(hz:F8 K z i=Ab)(hz':F8 K z' j=Ab)(hx:Cg mg mb w C A U (AM x env) a):
  D1 mg mb w C A U (DP (.Assign [.Name z p,.Name z' p'] x pos) env) (.next,wr (wr U i (.w a)) j (.w a)):=λ J s I Q E k=>
 wpAny_Assign_two (hx J s I _ _ λ s'1 v g'1 t'1 r'1=>Fk (Mr N hz (I.step t'1 g'1) r'1 λ s'2 I'2 f'2 y=>Fk (Mr N hz' I'2 (f'2.rep g'1 r'1) λ s'3 I'3 f'3 y=>k J s'3 .next I'3 ((CT.of_stp t'1 g'1).trans (f'2.trans f'3)) rfl)))
theorem NH{elts:List Ac}{k:Nat}{p:Pos}{l:Nat}:swapsWithSole [.Tuple elts k p] x l env=pure Ai:=by induction x using Expr.casesOn<;>rfl
theorem PW{elts:List Ac}{k:Nat}{p:Pos}(h:Sz x=Ab):OB [.Tuple elts k p] x env=pure Ae:=by induction x using Expr.casesOn<;>first|exact nf h|rfl
theorem ZY(N:AJ K C env)(hh:A.handled=Ae){is:List Nat}{elts:List Ac}{k0:Nat}{p pos:Pos}(hc:F9 K is elts=Ab)(hn:Sz x=Ab)(hx:Cg mg mb w C A U (AM x env) a)(hb:Ck (.m is) a U=Aa U'):
  D1 mg mb w C A U (DP (.Assign [.Tuple elts k0 p] x pos) env) (.next,U'):=λ J s I Q E k=>
 Assign_Tuple (hx J s I _ _ λ s'1 v g'1 t'1 r'1=>Nf (t:=.m is) (tg:=.Tuple elts k0 p) N hh hc hb r'1 (I.step t'1 g'1) λ s'2 I'2 f'2 z=>k J s'2 .next I'2 ((CT.of_stp t'1 g'1).trans f'2) rfl) NH (PW hn)
theorem O6{z:Str}{p:Pos}{l:Nat}(x:Ac):DQ x (Aa (.Name z p)) l env=pure Ai\/(∃elt gens sc q,x=.ListComp elt gens sc q/\DQ x (Aa (.Name z p)) l env=pure Ab)\/(∃e g s q,x=.SetComp e g s q)\/∃k e g s q,x=.DictComp k e g s q:=by
 induction x using Expr.casesOn<;>first|exact .inl rfl|skip
 case ListComp elt gens sc q=>
  have e:DQ (.ListComp elt gens sc q) (Aa (.Name z p)) l env=pure (env.blockKind==.function&&env.kindOf z==Aa .local&&p.line==q.line&&!(sc.names.any λ (n,k)=>n==z&&(k==.local||k==.cell))):=rfl
  cases hb:(env.blockKind==.function&&env.kindOf z==Aa .local&&p.line==q.line&&!(sc.names.any λ (n,k)=>n==z&&(k==.local||k==.cell))) with
  |false=>rw[hb] at e;exact .inl e
  |true=>rw[hb] at e;exact .inr (.inl ⟨_,_,_,_,rfl,e⟩)
 case SetComp=>exact .inr (.inr (.inl ⟨_,_,_,_,rfl⟩))
 case DictComp=>exact .inr (.inr (.inr ⟨_,_,_,_,_,rfl⟩))
theorem TF(X:Cx mg mb w G n A)(N:AJ K C env){i:Nat}{z:Str}{p pos:Pos}(hz:F8 K z i=Ab)(hs:DQ x (Aa (.Name z p)) pos.line env=pure Ab)
  {K' elt' tg itx ifs more sc ps xs all g RT t vs} (e1:x=.ListComp elt' (⟨tg,itx,ifs,0⟩::more) sc ps) (e2:v=.list all) (h1:IM K sc vs=Aa K') (F:Mx mg mb w A K' C env U vs t elt' tg itx ifs more sc ps xs all g RT):D1 mg mb w C A U (DP (.Assign [.Name z p] x pos) env) (.next,wr U i (.w v)):=by
 subst e1 e2;exact WH N X.hA.hd hz hs h1 F.htin F.ht F.hit F.hs F.hno F.hturn F.hin F.hall F.hsz
theorem gI{o:O2}{a b:Ex}{elt:Ac}{gs:List Cm}{sc:Scope}{q:Pos}(h:chk K (.o2 o a b) (.ListComp elt gs sc q)=Ab):False:=by induction o using O2.casesOn<;>exact nf h
theorem oV{e:Ex}{elt:Ac}{gs:List Cm}{sc:Scope}{q:Pos}(h:chk K e (.ListComp elt gs sc q)=Ab):(∃vs t it cond el,e=.comp vs t it cond el)\/∃vs t1 it1 t2 it2 cond el,e=.comp2 vs t1 it1 t2 it2 cond el:=by
 induction e using Ex.casesOn
 case comp=>exact .inl ⟨_,_,_,_,_,rfl⟩
 case comp2=>exact .inr ⟨_,_,_,_,_,_,_,rfl⟩
 case o1 o a=>induction o using O1.casesOn<;>exact nf h
 case o2 o a b=>exact(gI h).elim
 all_goals exact nf h
theorem Lx{e:Ex}(h:chk K e x=Ab):(∀a g s q,x≠.SetComp a g s q)/\∀k a g s q,x≠.DictComp k a g s q:=by have hb:=pH h;exact⟨λ a g s q e=>by subst e;exact nf hb,λ k a g s q e=>by subst e;exact nf hb⟩
theorem Nq(X:Cx mg mb w G n A)(N:AJ K C env){i:Nat}{e:Ex}{z:Str}{p pos:Pos}(hz:F8 K z i=Ab)(h:chk K e x=Ab)(he:ev G e U=Aa v):D1 mg mb w C A U (DP (.Assign [.Name z p] x pos) env) (.next,wr U i (.w v)):=by
 rcases O6 (z:=z) (p:=p) (l:=pos.line) (env:=env) x with hs|⟨elt0,gens,sc0,q,rfl,hs⟩|⟨_,_,_,_,q⟩|⟨_,_,_,_,_,q⟩
 ·exact jE N hz (BP X e K C env U x v N h he) hs
 ·rcases oV h with⟨vs,t,it,cond,el,rfl⟩|⟨vs,t1,it1,t2,it2,cond,el,rfl⟩
  ·exact N3 X.hA.hd (Lr X it) (Gd X cond) (Dg X el) N h he λ _ _ _ _ _ _ _ _ _ _ _ _=>TF X N hz hs
  ·exact MN X.hA.hd (Lr X it1) (Lr X it2) (Gd X cond) (Dg X el) N h he λ _ _ _ _ _ _ _ _ _ _ _ _=>TF X N hz hs
 ·exact absurd q ((Lx h).1 _ _ _ _)
 ·exact absurd q ((Lx h).2 _ _ _ _ _)
theorem Kw{l:Aj}{items:Array Ad}{k:Int}{t:Tok}{v:Ad}{Q:Unit->Af->Prop}(hl:s.heap.PlainList l items)
  (h0:0<=k) (hfit:k<2^63) (hn:k<items.size)
  (hQ:∀h',h'.PlainList l (items.setIfInBounds k.toNat v)->B8 l s.heap h'->Q () {s with heap:=h'}):
  As (An pw w) A (setItem (.ref l) (.int k t) v) Q E s:=by
 refine Aw (id hl) λ n0 ho=>?_;have hd:({cls:=.type "list",data:=.seq items n0}:Obj).data=.seq items n0:=rfl;unfold setItem
 try with_reducible refine DI ?_
 first|refine Ah (At ?_)|skip
 refine Ah (wpAny_sequenceKey hl.isList.typeIs (by decide) ?_);refine Ah (GJ hl.isList.typeIs PySem.F.slot_list_setitem
  (K1 PySem.F.slot_list_setitem hl.isList.typeIs PySem.F.entry_list_setitem ?_ (PySem.F.args_list_setitem_3 _ _ _)))
 show As _ _ (Builtin.List.listSubscript? (.int k t)>>=_) _ _ s;refine Ah (wpAny_listSubscript_int (fL h0 hfit) ?_)
 clear hfit
 refine Aw (Eu h0) λ j H2=>?_;subst H2;have hj:j<items.size:=Int.ofNat_lt.mp hn;have hx':=IA hj;refine Ah (Ah (wpAny_seqItemAt ho hd (At ?_)));rw[hx'];have em:Bn (·.setIfInBounds j v) {cls:=.type "list",data:=.seq items n0}={cls:=.type "list",data:=.seq (items.setIfInBounds j v) n0}:=by simp[Bn]
 have hfin:(s.heap.update l (Bn (·.setIfInBounds j v))).PlainList l (items.setIfInBounds j v):=
  ⟨n0,by rw[ES _ ho (by rw[em];rfl),em]⟩
 refine Ah (wpAny_setSeqItemAt ho hd ?_)
 first
  |exact Ah (At (At ⟨.none,rfl,At (hQ _ hfin (BI ..))⟩))
  |exact At ⟨.none,rfl,At (hQ _ hfin (BI ..))⟩
theorem OL{l:Aj}{its:Array Ad}(hl:s.heap.PlainList l its)(hsz:its.size<=Gg)
  (hQ:∀h',h'.PlainList l its.reverse->B8 l s.heap h'->Q .none {s with heap:=h'}):
  As (An pw w) A (C2 (.builtin "list.reverse") [.ref l]) Q E s:=by
 refine Aw (id hl) λ n0 ho=>LK PySem.F.slot_list_reverse ⟨_,ho,rfl⟩ PySem.F.entry_list_reverse (PySem.F.args_list_reverse_1 _) (AutoSeq1.list_reverse_list_0 l its n0 hsz) ⟨ho,?_⟩;have em:Bn (λ x=>x.reverse) {cls:=.type "list",data:=.seq its n0}={cls:=.type "list",data:=.seq its.reverse n0}:=by simp[Bn]
 exact hQ _ ⟨n0,by rw[ES _ ho (by rw[em];rfl),em]⟩ (BI ..)
theorem Gp{i:Nat}{xs ys:List V}(hi:rd U i=.x xs){b:Aj}(h:Am C J (wr U i (.x ys)) b):Am C J U b:=by
 rcases h with h|h|⟨j,zs,e,rfl⟩
 ·exact .inl h
 ·exact .inr (.inl h)
 ·by_cases hj:j=i
  ·subst hj;exact .inr (.inr ⟨j,xs,hi,rfl⟩)
  ·rw[AU hj] at e;exact .inr (.inr ⟨j,zs,e,rfl⟩)
theorem AX.setOwn(I:AX mg mb C J U s){i:Nat}{xs ys:List V}{h':AV}{tk:Nat}{vs:Array Ad}(hi:rd U i=.x xs)(hs:B8 (J i) s.heap h')(hl:h'.PlainList (J i) vs)(hr:AI s.heap (Am C J U) ys vs.toList)(hz:ys.length<=CN):
  AX mg mb C J (wr U i (.x ys)) {s with heap:=h',toks:=tk}/\CT C J U s J (wr U i (.x ys)) {s with heap:=h',toks:=tk}:=by
 refine CA (I.owns i xs hi) λ hb hm z H=>?_;refine AF H λ z z z=>?_;have hk:∀b o,b≠J i->s.heap.get? b=Aa o->h'.get? b=Aa o:=λ b o q e=>hs.extBut b o q e;have hT:=I.ownTb hi;have hY:∀b o,s.heap.get? b=Aa o->Am C J (wr U i (.x ys)) b->Am C J U b:=λ b o z y=>Gp hi y;have hkY:∀b o,¬Tb b->¬Am C J U b->s.heap.get? b=Aa o->h'.get? b=Aa o:=λ b o z y e=>hk b o (λ q=>y (.inr (.inr ⟨i,xs,hi,q.symm⟩))) e;have up:∀V u,A6 s.heap (Am C J U) V u->A6 h' (Am C J (wr U i (.x ys))) V u:=λ V u r=>r.monoY hkY I.gi.cls hY;have ups:∀V u,AI s.heap (Am C J U) V u->AI h' (Am C J (wr U i (.x ys))) V u:=λ V u r=>AI.monoY hkY I.gi.cls hY r;have slot:∀j o,Slot s.heap (Am C J U) (J j) (rd U j) o->Slot h' (Am C J (wr U i (.x ys))) (J j) (rd (wr U i (.x ys)) j) o:=λ j o q=>by
  by_cases hj:j=i
  ·subst hj;rw[hi] at q;rcases CY with e|e
   ·rw[e];induction o with
    |none=>exact q
    |some v=>exact q
   ·rw[e];trivial
  ·rw[AU hj];exact q.mono up
 have thr:∀b,(∃o,s.heap.get? b=Aa o)->∃o,h'.get? b=Aa o:=λ b ⟨o,e⟩=>by
  by_cases q:b=J i
  ·subst q;refine Aw hl λ n e=>?_;exact⟨_,e⟩
  ·exact⟨o,hk b o q e⟩
 have own:∀j zs,rd (wr U i (.x ys)) j=.x zs->∃us,rd U j=.x us:=λ j zs e=>by
  by_cases hj:j=i
  ·subst hj;exact⟨xs,hi⟩
  ·rw[AU hj] at e;exact⟨zs,e⟩
 refine⟨{
  gi:=I.gi.to1 I.wd0 I.keep hk hb hT (.plain (I.owns i xs hi).2.2.2.choose_spec.1)
  keep:=λ b o n e=>hk b o (λ q=>by have e:=e;rw[q,hb] at e;exact nn e) (I.keep b o n e)
  wd0:=I.wd0
  y0:=λ b h=>thr b (I.y0 b h)
  tb:=I.tb,new:=I.new,inj:=I.inj
  dicts:=λ D hD=>by exact AF (I.dicts D hD) λ m n hm2=>⟨m,n.at λ o e=>hk D o (λ q=>hm (q▸.inl hD)) e,λ j x e=>slot j _ (hm2 j x e)⟩
  cells:=λ j c e=>by refine AF (I.cells j c e) λ v H2 h3=>?_;refine AF H2 λ o h1 h2=>?_;exact⟨v,⟨o,hk c o (λ q=>hm (q▸.inr ⟨j,e⟩)) h1,h2⟩,slot j _ h3⟩
  owns:=λ j zs e=>by
   by_cases hj:j=i
   ·subst hj;rcases CY with e2|e2
    ·rw[e2] at e;cases e;exact⟨hb,hm,hz,vs,hl,ups _ _ hr⟩
    ·rw[e2] at e;cases e
   ·rw[AU hj] at e;refine CA (I.owns j zs e) λ h1 h2 h3 H=>?_;refine AF H λ us H2 h5=>?_;obtain⟨n,h4⟩:=H2;exact⟨h1,h2,h3,us,⟨n,hk _ _ (λ q=>hj (I.apart j i zs xs e hi q)) h4⟩,ups _ _ h5⟩
  ownY:=λ j zs e=>by refine Aw (own j zs e) λ us e=>?_;exact I.ownY j us e
  apart:=λ j k zs us e1 e2 e3=>by refine Aw (own j zs e1) λ z e1=>Aw (own k us e2) λ z e2=>?_;exact I.apart j k _ _ e1 e2 e3},⟨λ b o n m ow e=>hk b o (λ q=>ow i xs hi q.symm) e,λ j zs e=>?_,λ z z e=>e,rfl,thr⟩⟩
 exact Aw (own j zs e) λ us e=>.inl ⟨j,us,e,rfl⟩
theorem Hs(N:AJ K C env):qN env=Ai:=by unfold qN;rw[N.kind];rfl
theorem KW:rE "list" "append" "list.append":=⟨GU,PySem.F.slot_list_append,PySem.F.type_list_append⟩
theorem Jr:rE "list" "reverse" "list.reverse":=⟨GU,PySem.F.slot_list_reverse,PySem.F.type_list_reverse⟩
theorem UP(N:AJ K C env){fx:Str}{p ap cp pos:Pos}{i:Nat}{xs:List V}(hv:EI K fx i=Ab)(hl:EB ap cp=Ab)(hi:rd U i=.x xs)(hx:Cg mg mb w C A U (AM x env) a)(hp:Bo x)(hz:xs.length<CN):
  D1 mg mb w C A U (DP (.Expr (.Call (.Attribute (.Name fx p) "append" ap) [x] [] cp) pos) env) (.next,wr U i (.x (xs++[a]))):=λ J s I Q E k=>by
 refine Jo ?_ (Hs N);refine fJ (J6 rfl) (hp [] env) (J0 hl) (CZ N hv hi I ?_);refine CA (I.owns i xs hi) λ z z z H=>?_;refine AF H λ vs hpl z=>?_;refine⟨"list","list.append",KW.pa,KW.sl,KW.ty,hpl.isList.typeIs,λ b e=>by cases e;refine Aw hpl λ n e=>?_;exact⟨_,e,rfl⟩,?_⟩
 refine C9 (P:=λ z=>True) rfl (λ h z=>CM (λ z e=>(by cases e)) h) (EG ?_)
 have q:=BA (E:=E) (pos:=cp) (Q:=λ vs s'=>True/\As (An pw w) A (C2 (Value.builtin "list.append") ([.ref (J i)]++vs) []) (λ z s'=>Q .next s') E s') (hx J s I _ _ λ s'2 u g'2 t'2 ra=>Ec ⟨trivial,?_⟩) (hp [] env)
 ·rw[hp [] env] at q;exact q
 have I'2:=I.step t'2 g'2;refine CA (I'2.owns i xs hi) λ z z z H=>?_;refine AF H λ vs hpl hr=>?_;have e:vs.size=xs.length:=by rw[<-Ax];exact hr.length
 refine wpAny_list_append_plain hpl (λ h' hpl' hs'=>?_) (by rw[e,<-Fn];exact B9 hz);have:=I'2.setOwn (tk:=s'2.toks) hi hs' hpl' (by rw[Array.toList_push];exact hr.snoc ra) (by rw[AB];exact hz);exact k J _ .next this.1 ((CT.of_stp t'2 g'2).trans this.2) rfl
theorem Se(N:AJ K C env){fx:Str}{p ap cp pos:Pos}{i:Nat}{xs:List V}(hv:EI K fx i=Ab)(hl:EB ap cp=Ab)(hi:rd U i=.x xs):
  D1 mg mb w C A U (DP (.Expr (.Call (.Attribute (.Name fx p) "reverse" ap) [] [] cp) pos) env) (.next,wr U i (.x xs.reverse)):=λ J s I Q E k=>by
 refine Jo ?_ (Hs N);refine Call_method0 (J6 rfl) (J0 hl) (CZ N hv hi I ?_);refine CA (I.owns i xs hi) λ z z hz H=>?_;refine AF H λ vs hpl hr=>?_;have e:vs.size=xs.length:=by rw[<-Ax];exact hr.length
 refine⟨"list","list.reverse",Jr.pa,Jr.sl,Jr.ty,hpl.isList.typeIs,λ b e=>by cases e;refine Aw hpl λ n e=>?_;exact⟨_,e,rfl⟩,?_⟩
 refine C9 (P:=λ z=>True) rfl (λ h z=>CM (λ z e=>(by cases e)) h) (evalArgs_nil3 ⟨trivial,?_⟩)
 refine OL hpl (by rw[e,<-Fn];exact hz) λ h' hpl' hs'=>?_;have:=I.setOwn (tk:=s.toks) hi hs' hpl' (by rw[Array.toList_reverse];exact hr.reverse) (by rw[Da];exact hz);exact k J _ .next this.1 this.2 rfl
theorem AI.set{h:AV}{Y:Aj->Prop}{xs:List V}{vs:List Ad}{v:Ad}{V:V}(r:AI h Y xs vs)(hv:A6 h Y V v)(k:Nat):AI h Y (xs.set k V) (vs.set k v):=by
 refine AI.of_get (by rw[FX,FX];exact r.length) λ i x u e e'=>?_;rw[List.getElem?_set] at e e';have hl:=r.length
 by_cases q:k=i
 ·subst q;rw[if_pos rfl] at e e';refine iK e λ z e=>?_;obtain rfl:=sj e;refine iK e' λ z e'=>?_;obtain rfl:=sj e';exact hv
 ·rw[if_neg q] at e e';exact r.nth e e'
theorem UO(N:AJ K C env){fx:Str}{p q pos:Pos}{i:Nat}{xs:List V}{k:Int}(hv:EI K fx i=Ab)(hi:rd U i=.x xs)(hx:Cg mg mb w C A U (AM x env) a)(hy:Cg mg mb w C A U (AM y env) (.int k))(h0:0<=k)(hk:k.toNat<xs.length)
  (hs:DQ x (Aa (.Subscript (.Name fx p) y q)) pos.line env=pure Ai):
  D1 mg mb w C A U (DP (.Assign [.Subscript (.Name fx p) y q] x pos) env) (.next,wr U i (.x (xs.set k.toNat a))):=λ J s I Q E kk=>by
 refine wpAny_Assign_Subscript (hx J s I _ _ λ s'1 v'1 g'1 t'1 ra=>?_) hs;have I'1:=I.step t'1 g'1;refine CZ N hv hi I'1 (hy J s'1 I'1 _ _ λ s'2 v'2 g'2 t'2 rb=>?_);have I'2:=I'1.step t'2 g'2;refine iE rb λ t=>?_;refine CA (I'2.owns i xs hi) λ z z hz H=>?_;refine AF H λ vs hpl hr=>?_;have e:vs.size=xs.length:=by rw[<-Ax];exact hr.length
 have hzz:CN=16777216:=rfl;refine Kw hpl h0 (by omega) (by omega) λ h' hpl' hs'=>?_;have:=I'2.setOwn (tk:=s'2.toks) hi hs' hpl' (by rw[Array.toList_setIfInBounds];exact hr.set (ra.step g'1 t'2) _) (by rw[FX];exact hz);exact kk J _ .next this.1 ((CT.of_stp (t'1.trans t'2) g'2).trans this.2) rfl
theorem QN{o:Ac}{q:Pos}{l:Nat}:DQ x (Aa (.Subscript o y q)) l env=pure Ai:=by induction x using Expr.casesOn<;>rfl
theorem AX.setW{W:Aj->Prop}(I:AX mg mb (C.plus W) J U s){i:Nat}{v:Ad}{h':AV}{tk:Nat}{L:LV}(st:D0 v s.heap h' (C.loc i))(hσ:∀j,j≠i->J' j=J j)
  (hr:∀V u,A6 s.heap (Am (C.plus W) J U) V u->A6 s.heap (Am C J' (wr U i L)) V u) (hrs:∀V u,AI s.heap (Am (C.plus W) J U) V u->AI s.heap (Am C J' (wr U i L)) V u) (hs:Slot s.heap (Am C J' (wr U i L)) (J' i) L (Aa v))
  (ho:∀xs,L=.x xs->¬C.Y0 (J' i)/\C.base.get? (J' i)=Ae/\¬C.mine (J' i)/\xs.length<=CN/\(∃vs,s.heap.PlainList (J' i) vs/\AI s.heap (Am C J' (wr U i L)) xs vs.toList)/\∀j ys,j≠i->rd U j=.x ys->J j≠J' i):
  AX mg mb C J' (wr U i L) {s with heap:=h',toks:=tk}:=AX.setG (λ z=>.inl) I (.refl s) I.gi st hσ hr hrs hs ho
theorem AX.own_plus{a:Aj}{i:Nat}{h':AV}{tk:Nat}{xs:List V}(I:AX mg mb (C.plus λ b=>b=a) J U s)(st:D0 (.ref a) s.heap h' (C.loc i))(hm:¬C.mine a)(h0:¬C.Y0 a)(hb:C.base.get? a=Ae)(hz:xs.length<=CN)
  (hl:∃vs,s.heap.PlainList a vs/\AI s.heap (Am (C.plus λ b=>b=a) J U) xs vs.toList):
  AX mg mb C (EW J i a) (wr U i (.x xs)) {s with heap:=h',toks:=tk}:=by
 have ei:EW J i a i=a:=by unfold EW;rw[if_pos rfl]
 have hY:∀b o,s.heap.get? b=Aa o->Am C (EW J i a) (wr U i (.x xs)) b->Am (C.plus λ b=>b=a) J U b:=λ b o z y=>Be.mpr (J8 y);refine I.setW st (λ j hj=>by unfold EW;rw[if_neg hj]) (λ z z r=>r.mono (.refl _) I.gi.cls hY) (λ z z r=>AI.mono (.refl _) I.gi.cls hY r) (by rw[ei];rfl) λ ys e=>?_
 cases e
 rw[ei];exact AF hl λ vs h1 h2=>⟨h0,hb,hm,hz,⟨vs,h1,AI.mono (.refl _) I.gi.cls hY h2⟩,λ j ys hj e q=>I.ownY j ys e (.inr q)⟩
structure PG where
 x:Str
 i:Nat
 L:LV
 v:Ad
def PG.ok(K:Kx)(a:Aj)(h:AV)(Y:Aj->Prop)(j:PG):Prop:=F8 K j.x j.i=Ab/\match j.L with
 |.w V=>A6 h Y V j.v
 |.x xs=>j.v=.ref a/\xs.length<=CN/\∃vs,h.PlainList a vs/\AI h Y xs vs.toList
 |.u=>False
noncomputable def PG.isOwn(j:PG):Bool:=match j.L with
 |.x _=>Ab
 |_=>Ai
def FL(ts:List (Ad->Sem Unit))(js:List PG)(mgw:B2)(A:Br)(env:Env):Prop:=ts.length=js.length/\∀(k:Nat) t j,ts[k]?=Aa t->js[k]?=Aa j->∀(v:Ad) (Q:Unit->Af->Prop) (E:Ad->Af->Prop) (s:Af),As (An pw mgw) A (RM env j.x v) Q E s->As (An pw mgw) A (t v) Q E s
def Ez(js:List PG)(U:AQ):AQ:=js.foldl (λ U j=>wr U j.i j.L) U
theorem FL.tail{t:Ad->Sem Unit}{ts:List (Ad->Sem Unit)}{j:PG}{js:List PG}(h:FL (t::ts) (j::js) w A env):FL ts js w A env:=
 ⟨C4 h.1,λ k t' j' e e'=>h.2 (k+1) t' j' e e'⟩
theorem gP{a:Aj}(N:AJ K C env):∀(ts:List (Ad->Sem Unit)) (js:List PG) (U:AQ) (s:Af),FL ts js w A env->(∀j∈js,j.isOwn=Ai/\j.ok K a s.heap (Am C J U))->AX mg mb C J U s->
  ∀(Q:Unit->Af->Prop) (E:Ad->Af->Prop),(∀s',AX mg mb C J (Ez js U) s'->CT C J U s J (Ez js U) s'->Q () s')->As (An pw w) A (H0 ts (js.map (·.v))) Q E s:=by
 intro ts
 induction ts with
 |nil=>
  intro js U s hst hj I Q E k
  induction js using Aq with
  |nil=>exact wpAny_assignInOrder_none (k s I .refl)
  |cons=>cases hst.1
 |cons t ts ih=>
  intro js U s hst hj I Q E k
  induction js using Aq with
  |nil=>cases hst.1
  |cons j js=>
   refine Db (hj j (.head _)) λ h1 h2 h3=>?_;obtain⟨x,i,L,v⟩:=j
   induction L with
   |u=>induction h3
   |x xs=>cases h1
   |w V=>
    have h3:A6 s.heap (Am C J U) V v:=h3;refine Gi (hst.2 0 t _ rfl rfl v _ _ _ (Mr N h2 I h3 λ s'1 I'1 f'1 m'1=>?_));refine ih js _ s'1 hst.tail (λ j hj'=>⟨(hj j (.tail _ hj')).1,(hj j (.tail _ hj')).2.1,?_⟩) I'1 Q E λ s'2 I'2 f'2=>k s'2 I'2 (f'1.trans f'2);refine Db (hj j (.tail _ hj')) λ q1 q2 q3=>?_;obtain⟨x',i',L',v'⟩:=j
    induction L' with
    |u=>exact q3
    |x=>cases q1
    |w V'=>exact f'1.rep I.gi q3
theorem uV{a:Aj}(N:AJ K C env)(hm:¬C.mine a)(h0:¬C.Y0 a)(hb:C.base.get? a=Ae)(hT:¬Tb a)(ha:s'0.heap.get? a=Ae):∀(ts:List (Ad->Sem Unit)) (js:List PG) (U:AQ) (s:Af),FL ts js w A env->
  (∀j∈js,j.ok K a s.heap (Am (C.plus λ b=>b=a) J U))->(js.filter (·.isOwn)).length=1->AX mg mb (C.plus λ b=>b=a) J U s->
  ∀(Q:Unit->Af->Prop) (E:Ad->Af->Prop),(∀J' s',AX mg mb C J' (Ez js U) s'->(∀σ0 U'0,CT C σ0 U'0 s'0 J U s->CT C σ0 U'0 s'0 J' (Ez js U) s')->Q () s')->As (An pw w) A (H0 ts (js.map (·.v))) Q E s:=by
 intro ts
 induction ts with
 |nil=>
  intro js U s hst hj hc I Q E k
  induction js using Aq with
  |nil=>cases hc
  |cons=>cases hst.1
 |cons t ts ih=>
  intro js U s hst hj hc I Q E k
  induction js using Aq with
  |nil=>cases hst.1
  |cons j js=>
   refine A9 (hj j (.head _)) λ h2 h3=>?_;obtain⟨x,i,L,v⟩:=j
   induction L with
   |u=>induction h3
   |w V=>
    have h3:A6 s.heap (Am (C.plus λ b=>b=a) J U) V v:=h3;refine Gi (hst.2 0 t _ rfl rfl v _ _ _ (Mr N.plus h2 I h3 λ s'1 I'1 f'1 m'1=>?_));refine ih js _ s'1 hst.tail (λ j hj'=>⟨(hj j (.tail _ hj')).1,?_⟩) hc I'1 Q E λ J2 s'2 I'2 f'2=>k J2 s'2 I'2 λ σ0 U'0 f=>f'2 σ0 U'0 (f.trans f'1.unplus);refine A9 (hj j (.tail _ hj')) λ q2 q3=>?_;obtain⟨x',i',L',v'⟩:=j
    induction L' with
    |u=>exact q3
    |x ys=>refine Db q3 λ e1 e2 H=>?_;refine AF H λ vs H2 e4=>?_;obtain⟨n,e3⟩:=H2;exact⟨e1,e2,vs,⟨n,m'1.heap a _ hT (λ q=>hm (C.mine_of q)) e3⟩,f'1.reps I.gi e4⟩
    |w V'=>exact f'1.rep I.gi q3
   |x xs=>
    refine Db h3 λ e1 e2 e3=>?_;have e1:=e1;subst e1;refine Db (NK h2 N) λ n1 n2 n3=>?_;refine Gi (hst.2 0 t _ rfl rfl (.ref a) _ _ _ (JT N.plus n1 I (λ h' tk st=>?_) n3));have I'1:AX mg mb C (EW J i a) (wr U i (.x xs)) {s with heap:=h',toks:=tk}:=I.own_plus st hm h0 hb e2 e3;refine AF st.same λ a' ea hb'=>?_;have hma:=C.mine_of ea;have none1:js.filter (·.isOwn)=[]:=by have:(js.filter (·.isOwn)).length+1=1:=hc;exact List.length_eq_zero_iff.mp (Eq.symm (Nat.succ_inj.mp (hc.symm)))
    have hYY:∀b o,s.heap.get? b=Aa o->Am C (EW J i a) (wr U i (.x xs)) b->Am (C.plus λ b=>b=a) J U b:=λ b o z y=>Be.mpr (J8 y);have kk:∀b o,¬Tb b->¬Am (C.plus λ b=>b=a) J U b->s.heap.get? b=Aa o->h'.get? b=Aa o:=λ b o z y e=>hb'.extBut b o (λ q=>y (.inr (.inl (q▸hma)))) e;refine gP (a:=a) N ts js _ _ hst.tail (λ j hj'=>?_) I'1 Q E λ s'2 I'2 f'2=>k _ s'2 I'2 λ σ0 U'0 f=>CT.trans ?_ f'2
    ·refine A9 (hj j (.tail _ hj')) λ q2 q3=>?_;have qn:j.isOwn=Ai:=by
      cases e:j.isOwn with
      |false=>rfl
      |true=>have:=List.mem_filter.mpr ⟨hj',e⟩;rw[none1] at this;cases this
     refine⟨qn,q2,?_⟩;obtain⟨x',i',L',v'⟩:=j
     induction L' with
     |u=>exact q3
     |x ys=>cases qn
     |w V'=>exact A6.monoY kk I.gi.cls hYY q3
    ·refine⟨λ b o nt nm no e=>hb'.extBut b o (λ q=>nm (q▸hma)) (f.heap b o nt nm no e),λ j ys e=>?_,f.gens,f.os,λ b h=>?_⟩
     ·by_cases hj:j=i
      ·right;unfold EW;rw[if_pos hj];exact ha
      ·rw[AU hj] at e;unfold EW;rw[if_neg hj];exact f.own j ys e
     ·by_cases q:b=a'
      ·subst q;exact I'1.mine_there hma
      ·refine Aw (f.stay b h) λ o e=>?_;exact⟨o,hb'.extBut b o q e⟩
noncomputable def Ey:Ac->Str
 |.Name x _=>x
 |_=>""
theorem NW{Z O:Type}(f:Z->Option O)(g:Z->O)(l:List Z)(h:∀t∈l,f t=Ae\/f t=Aa (g t))(e:(l.filterMap f).length=l.length):l.filterMap f=l.map g:=by
 induction l with
 |nil=>rfl
 |cons t l ih=>
  rcases h t (.head _) with q|q
  ·rw[D4 q] at e;exact absurd (Ak (Kn e.symm) (List.length_filterMap_le f l)) (Nat.not_succ_le_self _)
  ·rw[D5 q] at e ⊢;exact congrArg _ (ih (λ t ht=>h t (.tail _ ht)) (C4 e))
theorem MO{is:List Nat}{es:List Ac}(h:F9 K is es=Ab):es.length=is.length/\(∀t∈es,∃x p,t=.Name x p)/\∀(k:Nat) i t,is[k]?=Aa i->es[k]?=Aa t->F8 K (Ey t) i=Ab:=
 Mm (P:=λ is es=>es.length=is.length/\(∀t∈es,∃x p,t=.Name x p)/\∀(k:Nat) i t,is[k]?=Aa i->es[k]?=Aa t->F8 K (Ey t) i=Ab) ⟨rfl,⟨nofun,nofun⟩⟩ (λ x p i is es hx z ih=>by
  refine Db ih λ h1 h2 h3=>⟨congrArg (·+1) h1,λ t ht=>(AL.mp ht).elim (λ e=>⟨x,p,e⟩) (h2 t),λ k j t e e'=>?_⟩
  induction k using A5 with
  |zero=>obtain rfl:=sj e;obtain rfl:=sj e';exact hx
  |succ k=>exact h3 k j t e e') h
theorem Sb{is:List Nat}{es:Fu}{ts vs:List Ac}{k k':Nat}{p p':Pos}(hc:F9 K is ts=Ab)(hv:Gw K es vs=Ab)(hs:Sc vs=Ab):
  OB [.Tuple ts k p] (.Tuple vs k' p') env=pure Ae\/OB [.Tuple ts k p] (.Tuple vs k' p') env=pure (Aa (ts.map Ey)):=by
 refine Db (MO hc) λ h1 h2 h3=>?_;have no:∀x:Sem (Option (List Str)),x=pure Ae->x=pure Ae\/x=pure (Aa (ts.map Ey)):=λ x h=>.inl h;refine iP (P:=λ x=>x=pure Ae\/x=pure (Aa (ts.map Ey))) (λ z=>no _ rfl) λ z=>iP (P:=λ x=>x=pure Ae\/x=pure (Aa (ts.map Ey))) (λ z=>no _ rfl) λ z=>iP (P:=λ x=>x=pure Ae\/x=pure (Aa (ts.map Ey))) (λ z=>no _ rfl) λ hn=>iP (P:=λ x=>x=pure Ae\/x=pure (Aa (ts.map Ey))) (λ z=>no _ rfl) λ hf=>iP (P:=λ x=>x=pure Ae\/x=pure (Aa (ts.map Ey))) (λ hc=>?_) λ z=>?_
 ·rcases Bool.or_eq_true_iff.mp hs with q|q
  ·rw[hc] at q;exact nf q
  ·exact absurd q hf
 ·refine .inr (congrArg (λ l=>pure (Aa l)) (NW _ Ey ts (λ t ht=>?_) (Decidable.byContradiction λ q=>hn (Bool.or_eq_true_iff.mpr (.inl (bne_iff_ne.mpr q))))));refine F1 (h2 t ht) λ x q H3=>?_;subst H3;exact iP (P:=λ o=>o=Ae\/o=Aa x) (λ z=>.inr rfl) λ z=>.inl rfl
theorem Np{js:List PG}{ts:List Ac}(hn:∀t∈ts,∃x p,t=.Name x p)(hx:js.map (·.x)=ts.map Ey):FL ((Et ts env).map (·.2)) js w A env:=by
 induction ts generalizing js with
 |nil=>
  induction js using Aq with
  |nil=>exact⟨rfl,λ k t j e=>nn e⟩
  |cons=>cases hx
 |cons t ts ih=>
  refine F1 (hn _ (.head _)) λ x p H3=>?_;subst H3
  induction js using Aq with
  |nil=>cases hx
  |cons j js=>
   rw[D3,D3,List.cons.injEq] at hx;have:=ih (λ t ht=>hn t (.tail _ ht)) hx.2;refine⟨by show((Et ts env).map (·.2)).length+1=_;rw[this.1];rfl,λ k t' j' e e' v Q E s h=>?_⟩
   induction k using A5 with
   |zero=>obtain rfl:=sj e';have e:EH (.Name x p) env=t':=AE e;rw[<-e];have hx1:j.x=x:=hx.1;exact Fk (hx1▸h)
   |succ k=>exact this.2 k t' j' e e' v Q E s h
theorem OJ{js:List PG}{ns:List Str}(hx:js.map (·.x)=ns):FL (ns.map λ n=>bindName env n) js w A env:=by subst hx;refine⟨by rw[Ag,Ag],λ k t j e e' v Q E s h=>?_⟩;rw[Ba,Ba,e'] at e;obtain rfl:=sj e;exact wpAny_bindName h
theorem Sm{Q:Gj->Af->Prop}(hh:A.handled=Ae){elts:List Ac}{k0:Nat}{p:Pos}{js:List PG}{T:Aj}{us:Array Ad}{sw:Option (List Str)}(hn:∀t∈elts,∃x p,t=.Name x p)(hx:js.map (·.x)=elts.map Ey)(hT:IsTup s.heap T us)(hv:js.map (·.v)=us.toList)
  (hs:sw=Ae\/sw=Aa (elts.map Ey))
  (hk:∀h',Heap.ExtBut s.heap.objs.size s.heap h'->∀ts js',(js'=js\/js'=js.reverse)->FL ts js' w A env->As (An pw w) A (H0 ts (js'.map (·.v))) (λ z=>Q .next) E {s with heap:=h'}):
  As (An pw w) A (fM env (.ref T) sw ((Et [.Tuple elts k0 p] env).map (·.2))) Q E s:=by
 have hl:elts.length=us.size:=by
  have e1:=congrArg OY hx;have e2:=congrArg OY hv;rw[Ag,Ag] at e1;have e3:=Ax (xs:=us);rw[Ag] at e2
  omega
 rcases hs with rfl|rfl
 ·show As (An pw w) A (do assignAll (.ref T) [EH (.Tuple elts k0 p) env];pure Flow.next) Q E s;refine Ah (A2 (?_:As (An pw w) A (EH (.Tuple elts k0 p) env (.ref T)) (λ z=>Q .next) E s) (λ z z h=>At h) λ z z h=>h);have hst:=Np (w:=w) (A:=A) (env:=env) hn hx;refine assign_Tuple_tuple hh hT ?_ ?_ λ h' hx'=>?_
  ·have e1:=hst.1;have e2:=congrArg OY hx;rw[Ag] at e1;rw[Ag,Ag] at e2
   omega
  ·clear hst hx hl hT hv hk
   induction elts with
   |nil=>rfl
   |cons t ts ih=>refine F1 (hn _ (.head _)) λ x p H3=>?_;subst H3;show List.findIdx? _ ((Ai,EH (.Name x p) env)::Et ts env)=Ae;rw[List.findIdx?_cons,ih λ t ht=>hn t (.tail _ ht)];rfl
  ·rw[<-hv];exact hk h' hx' _ js (.inl rfl) hst
 ·show As (An pw w) A (do rule "assign.swapped-stores";let items <-unpackItems (.ref T) (elts.map Ey).length Ae;H0 ((elts.map Ey).reverse.map λ n=>bindName env n) items.reverse;pure Flow.next) Q E s;rw[Ag,hl];refine Ah (OZ (Ah (unpackItems_tuple hh hT λ h' hx'=>?_)));have:=hk h' hx' _ js.reverse (.inr rfl) (OJ (by rw[OC,hx]));have er:js.reverse.map (·.v)=us.toList.reverse:=by rw[OC,hv]
  rw[er] at this;exact Ah (A2 this (λ z z h=>At h) λ z z h=>h)
theorem ZH{i:Nat}{x y:LV}(h:i≠j):wr (wr U i x) j y=wr (wr U j y) i x:=by rw[Ks,Ks,Ks,Ks];exact List.set_comm x y h
theorem Vx(js:List PG)(U:AQ)(i:Nat)(x:LV)(h:i∉js.map (·.i)):Ez js (wr U i x)=wr (Ez js U) i x:=by
 induction js generalizing U with
 |nil=>rfl
 |cons j js ih=>show Ez js (wr (wr U i x) j.i j.L)=wr (Ez js (wr U j.i j.L)) i x;rw[ZH λ e=>h (AL.mpr (.inl e)),ih _ λ q=>h (.tail _ q)]
theorem ON(js ks:List PG)(U:AQ):Ez (js++ks) U=Ez ks (Ez js U):=List.foldl_append
theorem JJ(js:List PG)(U:AQ)(h:(js.map (·.i)).Nodup):Ez js.reverse U=Ez js U:=by
 induction js generalizing U with
 |nil=>rfl
 |cons j js ih=>have h:=HI.mp h;rw[Gq,ON,ih U h.2];show wr (Ez js U) j.i j.L=Ez js (wr U j.i j.L);rw[Vx js U _ _ h.1]
noncomputable def OU(a:Aj)(h:AV)(Y:Aj->Prop):List Bool->List V->List Ad->Prop
 |[],us,vs=>us=[]/\vs=[]
 |false::fs,us,vs=>∃u us' v vs',us=u::us'/\vs=v::vs'/\A6 h Y u v/\OU a h Y fs us' vs'
 |true::fs,us,vs=>∃xs us' vs',us=.list xs::us'/\vs=.ref a::vs'/\xs.length<=CN/\(∃ys,h.PlainList a ys/\AI h Y xs ys.toList)/\OU a h Y fs us' vs'
theorem OU.of_reps{a:Aj}{h:AV}{Y:Aj->Prop}{fs:List Bool}{us:List V}{vs:List Ad}(e:fs.filter id=[])(l:fs.length=us.length)(r:AI h Y us vs):OU a h Y fs us vs:=by
 induction fs generalizing us vs with
 |nil=>
  induction us using Aq with
  |nil=>exact⟨rfl,r⟩
  |cons=>cases l
 |cons f fs ih=>
  induction us using Aq with
  |nil=>cases l
  |cons u us=>
   induction f with
   |true=>cases e
   |false=>exact El r λ v vs' e2 h1 h2=>⟨u,us,v,vs',rfl,e2,h1,ih e (C4 l) h2⟩
theorem T7{a:Aj}{h:AV}{Y:Aj->Prop}{fs:List Bool}{is:List Nat}{ts:List Ac}{us:List V}{vs:List Ad}(hc:F9 K is ts=Ab)(hs:Kv is fs us U=Aa U')(hr:OU a h Y fs us vs){gC:Prop}
  (gk:∀js:List PG,js.map (·.v)=vs->js.map (·.x)=ts.map Ey->js.map (·.i)=is->U'=Ez js U->(∀j∈js,j.ok K a h Y)->(js.filter (·.isOwn)).length=(fs.filter id).length->gC):gC:=by
 induction fs generalizing is ts us vs U with
 |nil=>
  refine A9 hr λ ξ1 H2=>?_;subst ξ1;subst H2
  induction is using Aq with
  |cons=>exact nn hs
  |nil=>
   induction ts using Aq with
   |cons=>exact nf hc
   |nil=>exact gk [] rfl rfl rfl (sj hs).symm (λ z h=>absurd h List.not_mem_nil) rfl
 |cons f fs ih=>
  induction is using Aq with
  |nil=>induction f<;>(obtain⟨_,_,_,_,rfl,_⟩|⟨_,_,_,rfl,_⟩:=hr)<;>exact nn hs
  |cons i is=>
   induction ts using Aq with
   |nil=>exact nf hc
   |cons t ts=>
    revert gk
    refine KV hc λ x p hc1 hc2=>?_;intro gk;have more:∀{j:PG} {js:List PG},j.ok K a h Y->(∀j∈js,j.ok K a h Y)->∀k∈j::js,k.ok K a h Y:=λ hj q k hk=>(AL.mp hk).elim (λ e=>e▸hj) (q k)
    induction f with
    |false=>refine ZD hr λ u us' v vs' e1 e2 h1 h2=>?_;subst e1 e2;exact ih hc2 hs h2 λ js q1 q2 q3 q4 q5 q6=>gk (⟨x,i,.w u,v⟩::js) (congrArg (_::·) q1) (congrArg (_::·) q2) (congrArg (_::·) q3) q4 (more ⟨hc1,h1⟩ q5) q6
    |true=>refine UJ hr λ ys us' vs' e1 e2 hz hp h2=>?_;subst e1 e2;exact ih hc2 hs h2 λ js q1 q2 q3 q4 q5 q6=>gk (⟨x,i,.x ys,.ref a⟩::js) (congrArg (_::·) q1) (congrArg (_::·) q2) (congrArg (_::·) q3) q4 (more ⟨hc1,rfl,hz,hp⟩ q5) (congrArg (·+1) q6)
theorem Yo(X:Cx mg mb w G n A)(N:AJ K C env){e:Ex}{xs:List V}(hf:P6 e=Ab)(h:chk K e x=Ab)(he:ev G e U=Aa (.list xs)):∀J s,AX mg mb C J U s->Ok mg mb w A s (AM x env) λ s' v=>iH C J U s xs s' v:=by
 intro J s I
 induction e using Ex.casesOn<;>first|exact nf hf|skip
 case l es=>
  refine aK (B6 h).2 λ q h1 h2=>?_;refine Aw (Me h1) λ p H2=>?_;subst H2;refine CJ h2 λ h2 h3=>mK (show(IS G es U).map V.list=Aa (.list xs) from he) λ vs h4 h5=>?_
  cases h5
  exact Rk ((Gd X es _ _ _ _ _ N h3).v _ h4) (L0 h2 h3 h4) I
 case lof it=>
  refine Qg h λ g y p q h1 h2 h3=>bK (show((EU G it U).bind λ xs=>if xs.length<=CN then Aa (V.list xs) else Ae)=Aa (.list xs) from he) λ xs' h4 h5=>iK h5 λ h7 h6=>?_
  cases h6
  exact(Lr X it _ _ _ _ _ xs N h3 h4).l h2 g p q h1 h7 J s I
theorem NC{fs:List Bool}{es:Fu}{xs:List Ac}(h:ND fs es=Ab)(h':Gw K es xs=Ab):fs.length=xs.length:=by
 induction fs generalizing es xs with
 |nil=>
  induction es using Fu.casesOn with
  |nil=>rw[Iv h'];rfl
  |cons=>exact nf h
 |cons b bs ih=>
  induction es using Fu.casesOn with
  |nil=>exact nf h
  |cons e es=>exact Hh h' λ x r z h2=>congrArg (·+1) (ih (B6 h).2 h2)
theorem nW(X:Cx mg mb w G n A)(N:AJ K C env)(es:Fu)(xs:List Ac)(fs:List Bool)(is:List Nat)(us:List V)(U'1 U':AQ)(h:Gw K es xs=Ab)(ho:ND fs es=Ab)(hc:(fs.filter id).length=1)(he:IS G es U=Aa us)(hs:Kv is fs us U'1=Aa U')(pos)(J)(s)
  (I:AX mg mb C J U s):Ok mg mb w A s (yV (MX pos (Gh xs env))) λ s' vs=>∃a,s.heap.get? a=Ae/\(∃o,s'.heap.get? a=Aa o)/\OU a s'.heap (Am (C.plus λ b=>b=a) J U) fs us vs:=by
 induction fs generalizing es xs is us U'1 s with
 |nil=>cases hc
 |cons f fs ih=>
  induction es using Fu.casesOn with
  |nil=>exact nf ho
  |cons e es=>
   intro Q E k;refine Hh h λ x xs h2 hh2=>?_
   ·have h3:=B6 ho;obtain⟨u,us',rfl,h4,h6⟩:∃u us',us=u::us'/\ev G e U=Aa u/\IS G es U=Aa us':=NX he λ u us' a b=>⟨u,us',rfl,a,b⟩
    induction is using Aq with
    |nil=>exact nn hs
    |cons i is=>
     induction f with
     |false=>
      refine BA (BP X e K C env U x u N h2 h4 J s I _ _ λ s'1 v g'1 t'1 r'1=>?_) (AH h2 _ _);have I'1:=I.step t'1 g'1;refine ih es xs is us' _ hh2 h3.2 hc h6 hs s'1 I'1 _ _ λ s'2 vs g'2 t'2 hh=>E3 hh λ a ha hex hr=>k s'2 _ g'2 (t'1.trans t'2) ⟨a,?_,hex,u,us',v,vs,rfl,rfl,r'1.mono t'2.keep g'1.cls λ b o e y=>?_,hr⟩
      ·cases q:s.heap.get? a with
       |none=>rfl
       |some o=>exact Aw (FC g'1 t'1 ⟨o,q⟩) λ o' q'=>nn (ha.symm.trans q')
      ·rcases Be.mp y with y|y
       ·exact y
       ·exact nn ((y▸ha).symm.trans e)
     |true=>
      have hf:=h3.1;have hc0:=List.length_eq_zero_iff.mp (by have:(fs.filter id).length+1=1:=hc;exact Eq.symm (Nat.succ_inj.mp (hc.symm)))
      induction u using V.casesOn<;>first|exact nomatch (show(Ae:Option AQ)=Aa U' from hs)|skip
      rename_i ys;refine BA (Yo X N hf h2 h4 J s I _ _ λ s'1 v g'1 t'1 r'1=>?_) (AH h2 _ _);refine A9 r'1 λ hz H=>?_;refine Hm H λ a zs H3 ha hl hr=>?_;subst H3;have hex:∃o,s'1.heap.get? a=Aa o:=by refine Aw hl λ n e=>?_;exact⟨_,e⟩
      have I'1:AX mg mb (C.plus λ b=>b=a) J U s'1:=I.more t'1 g'1 (λ b q=>q▸ha) λ b q=>q▸hex;refine SZ X es K (C.plus λ b=>b=a) env U xs us' N.plus hh2 h6 pos J s'1 I'1 _ _ λ s'2 vs g'2 t'2 r'2=>?_;have hT:¬Tb a:=λ q=>by refine Aw (I.gi.wd.tb a q) λ vs e=>?_;rw[ha] at e;exact nn e
      refine Aw hl λ n hl=>k s'2 _ g'2 (t'1.trans t'2) ⟨a,ha,FC g'2 t'2 hex,ys,us',vs,rfl,rfl,hz,⟨zs,⟨n,t'2.keep _ _ hT hl⟩,AI.mono t'2.keep g'1.cls (λ b o e y=>?_) hr⟩,OU.of_reps hc0 ?_ r'2⟩
      ·exact Be.mp y
      ·refine(Nc hh2 h6).symm▸?_;exact NC h3.2 hh2
theorem WI(X:Cx mg mb w G n A)(N:AJ K C env){is:List Nat}{fs:List Bool}{es:Fu}{ts vs:List Ac}{us:List V}{k k':Nat}{p p' pos:Pos}(hc:F9 K is ts=Ab)(hv:Gw K es vs=Ab)(ho:ND fs es=Ab)(hn:is.Nodup)(hsw:Sc vs=Ab)(h1:(fs.filter id).length<=1)(hl:vs.length<=1000)
  (he:IS G es U=Aa us) (hs:Kv is fs us U=Aa U'):D1 mg mb w C A U (DP (.Assign [.Tuple ts k p] (.Tuple vs k' p') pos) env) (.next,U'):=λ J s I Q E kk=>by
 rw[PyProof.Rows.exec_Assign];refine Ah (DJ ?_);refine NH.symm▸?_;refine Ah (At ?_);rw[if_neg (by decide)];have hh:=X.hA.hd;have hul:us.length<=Gg:=by rw[Nc hv he];exact Ak hl (by decide)
 have hsc:=Sb (env:=env) (k:=k) (k':=k') (p:=p) (p':=p') hc hv hsw;have CD:∀(s'1:Af) (xs:List Ad) (a:Aj) (js:List PG),xs.length=us.length->js.map (·.v)=xs->js.map (·.x)=ts.map Ey->
   (∀h',(∀b o,s'1.heap.get? b=Aa o->h'.get? b=Aa o)->∀js',(js'=js\/js'=js.reverse)->∀l,FL l js' w A env->As (An pw w) A (H0 l (js'.map (·.v))) (λ z=>Q .next) E {s'1 with heap:=h'})->
   xs.length<=Gg/\As (An pw w) A (do fM env (.ref s'1.heap.objs.size) (<-OB [.Tuple ts k p] (.Tuple vs k' p') env) ((Et [.Tuple ts k p] env).map (·.2))) Q E {s'1 with heap:=s'1.heap.push {cls:=.type "tuple",data:=.seq xs.toArray}}:=by
  intro s'1 xs a js hlx hjv hjx hk;refine⟨by rw[hlx];exact hul,?_⟩;have hT:IsTup (s'1.heap.push {cls:=.type "tuple",data:=.seq xs.toArray}) s'1.heap.objs.size xs.toArray:=⟨_,AW _ rfl,rfl,0,rfl⟩;have main:∀sw,(sw=Ae\/sw=Aa (ts.map Ey))->As (An pw w) A (fM env (.ref s'1.heap.objs.size) sw ((Et [.Tuple ts k p] env).map (·.2))) Q E {s'1 with heap:=s'1.heap.push {cls:=.type "tuple",data:=.seq xs.toArray}}:=λ sw hsw=>Sm hh (MO hc).2.1 hjx hT (by refine Cy.symm▸?_;exact hjv) hsw λ h' hx l js' hj hst=>hk h' (λ b o e=>hx b o (Ci (AT (AS _ e))) (AS _ e)) js' hj l hst
  rcases hsc with e|e
  ·rw[e];exact Ah (At (main Ae (.inl rfl)))
  ·rw[e];exact Ah (At (main _ (.inr rfl)))
 refine Ah ?_
 by_cases h0:(fs.filter id).length=0
 ·refine qK (SZ X es K C env U vs us N hv he p' J s I _ _ λ s'1 xs g'1 t'1 r'1=>?_);have hr:OU 0 s'1.heap (Am C J U) fs us xs:=OU.of_reps (List.length_eq_zero_iff.mp h0) (by refine(Nc hv he).symm▸?_;exact NC ho hv) r'1;refine T7 hc hs hr λ js q1 q2 q3 q4 q5 q6=>CD s'1 xs 0 js r'1.length q1 q2 λ h' hx js' hj l hst=>?_;have t'2:C7 s'1 {s'1 with heap:=h'}:=.all hx s'1.toks;have g'2:=g'1.all hx s'1.toks;have hn':(js.map (·.i)).Nodup:=by rw[q3];exact hn
  have hρ:Ez js' U=U':=by
   rcases hj with rfl|rfl
   ·exact q4.symm
   ·rw[JJ js U hn'];exact q4.symm
  refine gP (a:=0) N l js' U _ hst (λ j hj'=>?_) ((I.step t'1 g'1).step t'2 g'2) _ _ λ s'3 I'3 f'3=>?_
  ·have hm:=hj.elim (λ e=>e▸hj') λ e=>List.mem_reverse.mp (e▸hj');have hno:j.isOwn=Ai:=by
    cases e:j.isOwn with
    |false=>rfl
    |true=>have:=List.mem_filter.mpr ⟨hm,e⟩;rw[h0] at q6;rw[List.length_eq_zero_iff.mp q6] at this;cases this
   refine A9 (q5 j hm) λ z1 z2=>⟨hno,z1,?_⟩;obtain⟨x',i',L',v'⟩:=j
   induction L' with
   |u=>exact z2
   |x ys=>cases hno
   |w V'=>exact A6.step z2 g'1 t'2
  ·rw[hρ] at I'3 f'3;exact kk J s'3 .next I'3 ((CT.of_stp (t'1.trans t'2) g'2).trans f'3) rfl
 ·have h11:(fs.filter id).length=1:=by omega
  refine qK (nW X N es vs fs is us U U' hv ho h11 he hs p' J s I _ _ λ s'1 xs g'1 t'1 ⟨a,ha,hex,hr⟩=>?_);refine T7 hc hs hr λ js q1 q2 q3 q4 q5 q6=>?_;have hlx:xs.length=us.length:=by
   have:∀{fs:List Bool} {us:List V} {vs:List Ad} {h:AV} {Y:Aj->Prop},OU a h Y fs us vs->vs.length=us.length:=by
    intro fs
    induction fs with
    |nil=>rintro us vs h Y ⟨rfl,rfl⟩;rfl
    |cons f fs ih=>
     intro us vs h Y hr
     induction f with
     |false=>(refine ZD hr λ u us' v vs' ξ5 ξ6 z h2=>?_;subst ξ5;subst ξ6);rw[Bl,Bl,ih h2]
     |true=>(refine UJ hr λ u us' vs' ξ4 ξ5 z z h2=>?_;subst ξ4;subst ξ5);rw[Bl,Bl,ih h2]
   exact this hr
  refine CD s'1 xs a js hlx q1 q2 λ h' hx js' hj l hst=>?_;have t'2:C7 s'1 {s'1 with heap:=h'}:=.all hx s'1.toks;have g'2:=g'1.all hx s'1.toks;have hn':(js.map (·.i)).Nodup:=by rw[q3];exact hn
  have hρ:Ez js' U=U':=by
   rcases hj with rfl|rfl
   ·exact q4.symm
   ·rw[JJ js U hn'];exact q4.symm
  refine CA (I.fresh_facts ha) λ f1 f2 f3 f4=>?_;have hcount:(js'.filter (·.isOwn)).length=1:=by
   rcases hj with rfl|rfl
   ·rw[q6];exact h11
   ·rw[List.filter_reverse,Da,q6];exact h11
  have I'2:AX mg mb (C.plus λ b=>b=a) J U {s'1 with heap:=h'}:=I.more (t'1.trans t'2) g'2 (λ b q=>q▸ha) λ b q=>q▸FC g'2 t'2 hex;refine uV N f1 f2 f3 f4 ha l js' U _ hst (λ j hj'=>?_) hcount I'2 _ _ λ σ3 s'3 I'3 f'3=>?_
  ·have hm:=hj.elim (λ e=>e▸hj') λ e=>List.mem_reverse.mp (e▸hj');refine A9 (q5 j hm) λ z1 z2=>⟨z1,?_⟩;obtain⟨x',i',L',v'⟩:=j
   induction L' with
   |u=>exact z2
   |x ys=>refine Db z2 λ e1 e2 H=>?_;refine AF H λ zs H2 e4=>?_;obtain⟨m,e3⟩:=H2;exact⟨e1,e2,zs,⟨m,hx _ _ e3⟩,e4.step g'1 t'2⟩
   |w V'=>exact A6.step z2 g'1 t'2
  ·rw[hρ] at I'3 f'3;exact kk σ3 s'3 .next I'3 (f'3 J U (CT.of_stp (t'1.trans t'2) g'2)) rfl
set_option maxHeartbeats 4000000
noncomputable def TG:St->Bool
 |.asgOc ..=>Ab
 |.n ..=>Ab
 |.pops ..=>Ab
 |_=>Ai
structure Sx(mg mb:Str->Option Ad)(w:B2)(G:EZ)(n F:Nat)(A:Br):Prop where
 X:Cx mg mb w G n A
 gen:∀{K:Kx} {C:Er} {env:Env} {U:AQ} {is:List Nat} {tg v:Ac} {x:Str} {l:List Nat} {p q:Pos},AJ K C env->EC K 21 x=Ab->F5 K (.m is) tg=Ab->Bo v->Cg mg mb w C A U (AM v env) (.str l)->(l.all λ c=>decide (c<128))=Ab->
  ∀{y:List CU} {pos:Pos} {b:AQ->Option (Fl×AQ)} {res:Fl×AQ},(∀C' U res,AJ K C' env->b U=Aa res->D1 mg mb w C' A U (B4 y env) res)->B7 (.m is) b (HK l 0) U=Aa res->
  D1 mg mb w C A U (DP (.For tg (.Call (.Name x p) [v] [] q) y [] pos) env) res
 sp:∀{K:Kx} {C:Er} {env:Env} {U:AQ} {st:St} {s:Bm} {res:Fl×AQ},TG st=Ab->AJ K C env->YW K st s=Ab->CD G F st U=Aa res->D1 mg mb w C A U (DP s env) res
theorem jC{i:Nat}{xs:List V}{t:Sem Gj}{res:Fl×AQ}(hi:rd U i=.x xs)(h:D1 mg mb w C A (wr U i (.w (.list xs))) t res):D1 mg mb w C A U t res:=λ J s I Q E k=>h J s (I.frz hi) Q E λ J' s' f I' f' ok=>k J' s' f I' (CT.frz.trans f') ok
theorem Oa{s:St}{r:E5}{ys:List Bm}(h:Ct K (.cons s r) ys=Ab):(∃i,s=.frz i/\Ct K r ys=Ab)\/∃y ys',ys=y::ys'/\YW K s y=Ab/\Ct K r ys'=Ab:=by
 rcases Bool.or_eq_true_iff.mp h with h|h
 ·refine CJ h λ h1 h2=>?_
  induction s using St.casesOn<;>first|exact nf h1|exact .inl ⟨_,rfl,h2⟩
 ·exact aK h λ y h1 h2=>.inr ⟨y.1,y.2,Fp h1,B6 h2⟩
theorem SA:∀{l:List Nat},KQ l=Ab->l.Nodup:=@λ I0=>by
 induction I0 with
 |nil=>exact@λ _=>List.nodup_nil
 |cons x l IH=>exact@λ h=>HI.mpr ⟨(Jz h).1,IH (Jz h).2⟩
def OT(mg mb:Str->Option Ad)(w:B2)(A:Br)(G:EZ)(F:Nat)(st:St):Prop:=∀K C env U s res,AJ K C env->YW K st s=Ab->CD G F st U=Aa res->D1 mg mb w C A U (DP s env) res
def iF(mg mb:Str->Option Ad)(w:B2)(A:Br)(G:EZ)(F:Nat)(st:E5):Prop:=∀K C env U s res,AJ K C env->Ct K st s=Ab->Bw G F st U=Aa res->D1 mg mb w C A U (B4 s env) res
theorem sO(X:Sx mg mb w G n F A){i:Nat}{e:Ex}:OT mg mb w A G F (.asg i e):=λ K C env U s res N h he=>by refine aK h λ q h1 h2=>?_;refine F1 (J1 h1) λ p p' H3=>?_;subst H3;exact mE he λ v h3=>Nq X.X N (B6 h2).1 (B6 h2).2 h3
theorem kD(X:Sx mg mb w G n F A){is:List Nat}{e:Ex}:OT mg mb w A G F (.asgL is e):=λ K C env U s res N h he=>by refine aK h λ q h1 h2=>?_;refine Aw (JF h1) λ p H2=>?_;subst H2;refine CJ h2 λ h2 h3=>aK h3 λ i h4 h5=>aK h5 λ j h6 h7=>aK h7 λ x h8 h9=>CJ h9 λ h9 h10=>aK h9 λ n1 h11 h12=>aK h10 λ y h13 h14=>aK h14 λ n2 h15 h16=>Aw (BL h11) λ p1 h11=>Aw (BL h15) λ p2 h15=>?_;refine mE he λ v h17=>?_;rw[Fp h8,Cv h13,h11,h15,Fp h4,Cv h6];exact ZZ N h12 h16 (BP X.X e K C env U _ v N h2 h17)
@[elab_as_elim] theorem Rt{is:List Nat}{ts:List Ac}(h:AP (l1 ts) (λ t=>AP (SS t) (F9 K is))=Ab){gC:List Ac->Prop}(gk:∀es k p,F9 K is es=Ab->gC [.Tuple es k p]):gC ts:=by refine aK h λ t h1 h2=>aK h2 λ es h3 h4=>F1 (JE h3) λ k p h5=>?_;rw[Cv h1,h5];exact gk es k p h4
theorem kB(X:Sx mg mb w G n F A){is:List Nat}{e:Ex}:OT mg mb w A G F (.asgT is e):=λ K C env U s res N h he=>by refine aK h λ ξ1 h1 h2=>?_;obtain⟨ts,v⟩:=ξ1;refine Aw (JF h1) λ p H2=>?_;subst H2;refine Ms h2 λ h2 h4 h3=>Rt h2 λ es k p' h5=>bK he λ u h6 h7=>?_;exact mE h7 λ U' h8=>ZY N X.X.hA.hd h5 h3 (BP X.X e K C env U _ u N h4 h6) h8
theorem aJ(X:Sx mg mb w G n F A){is:List Nat}{fs:List Bool}{es:Fu}:OT mg mb w A G F (.t is fs es):=λ K C env U s res N h he=>by refine aK h λ ξ1 h1 h2=>?_;obtain⟨ts,v⟩:=ξ1;refine Aw (JF h1) λ p H2=>?_;subst H2;refine CJ h2 λ h2 h3=>Rt h2 λ es' k p' h5=>aK h3 λ vs h4 h6=>?_;refine F1 (JE h4) λ k' p2 H3=>?_;subst H3;refine an6 h6 λ h6 c3 c4 c5 c6 c7=>bK he λ us h7 h8=>?_;exact mE h8 λ U' h9=>WI X.X N h5 h6 c3 (SA c4) c5 (AN c6) (AN c7) h7 h9
theorem SV{e:Ex}{z:Str}{p:Pos}{l:Nat}(hf:P6 e=Ab)(h:chk K e x=Ab):DQ x (Aa (.Name z p)) l env=pure Ai:=by
 induction e using Ex.casesOn<;>first|exact nf hf|skip
 ·refine aK (B6 h).2 λ q h1 h2=>?_;refine Aw (Me h1) λ p H2=>?_;subst H2
  rfl
 ·refine Qg h λ g y p q u u u=>?_
  rfl
theorem kC(X:Sx mg mb w G n F A){i:Nat}{e:Ex}:OT mg mb w A G F (.asgO i e):=λ K C env U s res N h he=>by refine aK h λ q h1 h2=>?_;refine F1 (J1 h1) λ p p' H3=>?_;subst H3;refine Ms h2 λ h2 h4 h3=>?_;exact mE he λ xs h5=>bK h5 λ u h6 h7=>PN N h2 (Yo X.X N h3 h4 (Cu h7▸h6)) (SV h3 h4)
theorem sN(X:Sx mg mb w G n F A){i:Nat}{o:O2}{e:Ex}:OT mg mb w A G F (.aug i o e):=λ K C env U s res N h he=>by refine aK h λ q h1 h2=>?_;refine Aw (Ym h1) λ p H2=>?_;subst H2;refine Zh h2 λ h2 h5 h4 h3=>aK h4 λ u h6 h7=>aK h5 λ x h8 h9=>Aw (BL h8) λ p' h8=>bK he λ a e1 e2=>A9 (U4 e2) λ e3 e4=>bK e4 λ y e5 e6=>?_;refine mE e6 λ v e7=>?_;rw[h8,RJ h7];exact jD N h9 h6 h2 (λ l q=>by subst q;cases e3) (Hy e1) (BP X.X e K C env U _ y N h3 e5) e7
theorem WU(X:Sx mg mb w G n F A){i:Nat}{e:Ex}:OT mg mb w A G F (.append i e):=λ K C env U s res N h he=>by refine aK h λ q h1 h2=>?_;refine A9 (Pn h1) λ hl H=>?_;refine F1 H λ p p' H3=>?_;subst H3;refine Ms h2 λ h2 h4 h3=>aK h3 λ x h5 h6=>HX he λ xs e1 e2=>bK e2 λ y e3 e4=>iK e4 λ e5 e6=>?_;obtain rfl:=sj e6;rw[Dj h4,Cv h5];exact UP N h2 hl e1 (BP X.X e K C env U _ y N h6 e3) (AH h6) e5
theorem UV{i:Nat}:OT mg mb w A G F (.reverse i):=λ K C env U s res N h he=>by refine aK h λ q h1 h2=>?_;refine A9 (Pn h1) λ hl H=>?_;refine F1 H λ p p' H3=>?_;subst H3;refine Ms h2 λ h2 h4 h3=>?_;refine mE he λ xs e1=>?_;rw[Dj h4,BC h3];exact Se N h2 hl (Hz e1)
theorem WT(X:Sx mg mb w G n F A){i:Nat}{e v:Ex}:OT mg mb w A G F (.setidx i e v):=λ K C env U s res N h he=>by refine aK h λ q h1 h2=>?_;refine Aw (JF h1) λ p H2=>?_;subst H2;refine aK h2 λ t h3 h4=>aK h4 λ r h5 h6=>Aw (Ls h5) λ p' h5=>Ms h6 λ h6 c2 c3=>aK h6 λ x h7 c1=>Aw (BL h7) λ p2 h7=>HX he λ xs e1 e2=>bK e2 λ y e3 e4=>HY e4 λ k e5 e6=>iK e6 λ e7 e8=>?_;obtain rfl:=sj e8;rw[Cv h3,h5,h7];exact UO N c1 e1 (BP X.X v K C env U _ y N c3 e3) (BP X.X e K C env U _ _ N c2 e5) e7.1 e7.2 QN
theorem sK(X:Sx mg mb w G n F A){t:Ex}{a b:E5}(ha:iF mg mb w A G F a)(hb:iF mg mb w A G F b):OT mg mb w A G F (.f t a b):=λ K C env U s res N h he=>by refine aK h λ q h1 h2=>?_;refine Aw (dM h1) λ p H2=>?_;subst H2;exact Ms h2 λ h2 h4 h3=>bK (show((Gr G t U).bind λ c=>Ca c (Bw G F a U) (Bw G F b U))=Aa res from he) λ c e1 e2=>A9 (HU e2) λ e3 e4=>sC (FJ X.X t K C env U _ c N h2 e1) (λ q=>ha _ _ _ _ _ _ N h4 (e3 q)) λ q=>hb _ _ _ _ _ _ N h3 (e4 q)
theorem jW(X:Sx mg mb w G n F A){t:Ex}{b:E5}(hb:iF mg mb w A G F b):OT mg mb w A G F (.y t b):=λ K C env U s res N h he=>by refine aK h λ q h1 h2=>?_;refine Aw (SR h1) λ p H2=>?_;subst H2;exact CJ h2 λ h2 h3=>WD (λ U' c hc=>FJ X.X t K C env U' _ c N h2 hc) (λ U' r hr=>hb _ _ _ _ _ _ N h3 hr) he
theorem sM(X:Sx mg mb w G n F A){t:Tg}{it:It}{b:E5}(hb:iF mg mb w A G F b):OT mg mb w A G F (.for_ t it b):=λ K C env U s res N h he=>by refine aK h λ q h1 h2=>?_;refine Aw (Ri h1) λ p H2=>?_;subst H2;exact Zh h2 λ h2 h5 h4 h3=>bK (show((EU G it U).bind λ xs=>B7 t (Bw G F b) xs U)=Aa res from he) λ xs e1 e2=>nR N X.X.hA.hd h5 (Um X.X it K C env U _ _ xs N h4 (OS.of h2 h5) e1) (λ C' U' r N' hr=>hb _ _ _ _ _ _ N' h3 hr) e2 (Ix h4 env)
theorem jY(X:Sx mg mb w G n F A){t:Tg}{f:Nat}{e:Ex}{b:E5}(hb:iF mg mb w A G F b):OT mg mb w A G F (.g t f e b):=λ K C env U s res N h he=>by
 refine aK h λ q h1 h2=>?_;refine Aw (Ri h1) λ p H2=>?_;subst H2;refine an5 h2 λ ht h6 h5 h4 h3=>aK h3 λ c h7 h8=>F1 (Tc h7) λ p1 p2 h7=>Ms h8 λ h8 h10 h9=>aK h9 λ z h11 h12=>?_
 induction t with
 |one=>exact nf h4
 |m is=>
 have:=Av h5;subst this;refine bK (show(((ev G e U).bind Jb).bind λ s=>Ca (21==21&&s.all λ c=>decide (c<128)) (B7 (.m is) (Bw G F b) (HK s 0) U) Ae)=Aa res from he) λ l e1 e2=>bK e1 λ u e1 e3=>?_;have:=Ft e3;subst this;refine A9 (Hf e2) λ e4 e5=>?_;rw[h7,BC h10,Cv h11];exact X.gen N h8 ht (AH h12) (BP X.X e K C env U _ _ N h12 e1) (B6 e4).2 (λ C' U' r N' hr=>hb _ _ _ _ _ _ N' h6 hr) e5
theorem sI(X:Sx mg mb w G n F A){e:Ex}:OT mg mb w A G F (.ret e):=λ K C env U s res N h he=>by refine aK h λ q h1 h2=>?_;refine Aw (Rh h1) λ p H2=>?_;subst H2;exact mE he λ v e1=>WF (BP X.X e K C env U _ v N h2 e1)
theorem jX{i:Nat}:OT mg mb w A G F (.reto i):=λ K C env U s res N h he=>by refine aK h λ q h1 h2=>?_;refine Aw (Rh h1) λ p H2=>?_;subst H2;refine aK h2 λ x h3 h4=>nE h3 λ p'=>?_;exact mE he λ xs e1=>TE N h4 (Hz e1)
theorem aE{st:St}{r:E5}(hs:OT mg mb w A G F st)(hr:iF mg mb w A G F r):iF mg mb w A G F (.cons st r):=λ K C env U s res N h he=>by
 refine bK (show((CD G F st U).bind λ x=>E9 x (Bw G F r))=Aa res from he) λ ξ1 h1 h2=>?_;obtain⟨fl,U'1⟩:=ξ1;rcases Oa h with⟨i,rfl,h3⟩|⟨y,ys,rfl,h3,h4⟩
 ·refine mK h1 λ xs e1 e2=>?_
  cases e2
  exact jC (Hz e1) (hr _ _ _ _ _ _ N h3 h2)
 ·refine ZX (hs _ _ _ _ _ (fl,U'1) N h3 h1) (λ e=>?_) (λ e=>?_)
  ·have e:=e;subst e;exact hr _ _ _ _ _ _ N h4 h2
  ·induction fl with
   |next=>exact absurd rfl e
   |ret v=>obtain rfl:=sj h2;rfl
   |reto xs=>obtain rfl:=sj h2;rfl
mutual
theorem Sn(X:Sx mg mb w G n F A):∀st,OT mg mb w A G F st
 |.asg _ _=>sO X
 |.asgL _ _=>kD X
 |.asgT _ _=>kB X
 |.t _ _ _=>aJ X
 |.asgO _ _=>kC X
 |.asgOc _ _ _=>λ z z z z z z N h he=>X.sp rfl N h he
 |.aug _ _ _=>sN X
 |.append _ _=>WU X
 |.reverse _=>UV
 |.setidx _ _ _=>WT X
 |.n _ _ _ _=>λ z z z z z z N h he=>X.sp rfl N h he
 |.pops _ _ _ _=>λ z z z z z z N h he=>X.sp rfl N h he
 |.frz _=>λ z z z z z z z h z=>nf h
 |.f _ a b=>sK X (HS X a) (HS X b)
 |.y _ b=>jW X (HS X b)
 |.for_ _ _ b=>sM X (HS X b)
 |.g _ _ _ b=>jY X (HS X b)
 |.ret _=>sI X
 |.reto _=>jX
 |.bad=>λ z z z z z z z z he=>nn he
termination_by structural st=>st
theorem HS(X:Sx mg mb w G n F A):∀st,iF mg mb w A G F st
 |.nil=>λ K C env U s res N h he=>by rw[BC h];obtain rfl:=sj he;exact jB
 |.cons st r=>aE (Sn X st) (HS X r)
termination_by structural st=>st
end
set_option backward.match.sparseCases true
theorem VJ{kindOf:Str->Option Bq}{x:Str}:∀{binds:List (Str×Ad)} {m:Str->Option Ad},x∉binds.map (·.1)->bindL kindOf binds m x=m x:=@λ I0=>by
 induction I0 with
 |nil=>exact@λ m _=>rfl
 |cons Z0 r IH=>obtain⟨n,v⟩:=Z0;intro m h;rw[D3,AL,not_or] at h;exact(IH h.2).trans (iP (P:=λ f:Str->Option Ad=>f x=m x) (λ z=>if_neg h.1) λ z=>rfl)
theorem VL{kindOf:Str->Option Bq}{x:Str}:∀{binds:List (Str×Ad)} {m:Str->Option Ad},x∉binds.map (·.1)->bindC kindOf binds m x=m x:=@λ I0=>by
 induction I0 with
 |nil=>exact@λ m _=>rfl
 |cons Z0 r IH=>obtain⟨n,v⟩:=Z0;intro m h;rw[D3,AL,not_or] at h;exact(IH h.2).trans (iP (P:=λ f:Str->Option Ad=>f x=m x) (λ z=>rfl) λ z=>if_neg h.1)
theorem HR{Z O:Type}:∀{l:List Z} {r:List O},l.length=r.length->(l.zip r).map (·.1)=l
:=@λ l=>by
 induction l with
 |nil=>exact@λ _ _=>rfl
 |cons a l IH=>
  intro r h
  induction r using Aq with
  |nil=>exact absurd h (JO _)
  |cons b r=>exact congrArg (a::·) (IH (C4 h))
theorem VK{kindOf:Str->Option Bq}:∀{pn:List Str} {us:List Ad} {m:Str->Option Ad} {j:Nat} {x:Str} {u:Ad},pn.Nodup->pn.length=us.length->pn[j]?=Aa x->us[j]?=Aa u->kindOf x=Aa .local->bindL kindOf (pn.zip us) m x=Aa u
:=@λ pn=>by
 induction pn with
 |nil=>intro us m j x u hn hl h;exact nn h
 |cons a pn IH=>
  intro us m j x u hn hl h h' hk
  induction us using Aq with
  |nil=>exact nn h'
  |cons b us=>
   have hl:pn.length=us.length:=C4 hl;have hn:=HI.mp hn
   induction j using A5 with
   |zero=>obtain rfl:=sj h;obtain rfl:=sj h';show bindL kindOf (pn.zip us) _ a=Aa b;rw[VJ (by rw[HR hl];exact hn.1),if_pos hk,if_pos rfl]
   |succ j=>exact IH hn.2 hl h h' hk
theorem VM{kindOf:Str->Option Bq}:∀{pn:List Str} {us:List Ad} {m:Str->Option Ad} {j:Nat} {x:Str} {u:Ad},pn.Nodup->pn.length=us.length->pn[j]?=Aa x->us[j]?=Aa u->kindOf x≠Aa .local->bindC kindOf (pn.zip us) m x=Aa u
:=@λ pn=>by
 induction pn with
 |nil=>intro us m j x u hn hl h;exact nn h
 |cons a pn IH=>
  intro us m j x u hn hl h h' hk
  induction us using Aq with
  |nil=>exact nn h'
  |cons b us=>
   have hl:pn.length=us.length:=C4 hl;have hn:=HI.mp hn
   induction j using A5 with
   |zero=>obtain rfl:=sj h;obtain rfl:=sj h';show bindC kindOf (pn.zip us) _ a=Aa b;rw[VL (by rw[HR hl];exact hn.1),if_neg hk,if_pos rfl]
   |succ j=>exact IH hn.2 hl h h' hk
noncomputable def SE(l:List (Str×Bq)):Bool:=l.all λ p=>decide (p.2=.local\/p.2=.cell\/p.2=.globalImplicit)
noncomputable def aZ(acc:List (Str×Nat)):List Str->Nat->Bool
 |[],_=>Ab
 |x::r,j=>decide (lk x acc=Aa j)&&aZ acc r (j+1)
theorem Lj{acc:List (Str×Nat)}:∀{pn:List Str} {k j:Nat} {x:Str},aZ acc pn k=Ab->pn[j]?=Aa x->lk x acc=Aa (k+j)
:=@λ pn=>by
 induction pn with
 |nil=>intro k j x h0 h;exact nn h
 |cons y r IH=>
  intro k j x h h';have h2:=Bool.and_eq_true_iff.mp h
  induction j using A5 with
  |zero=>obtain rfl:=sj h';exact of_decide_eq_true h2.1
  |succ j=>exact(IH h2.2 h').trans (congrArg Aa (Nat.succ_add_eq_add_succ k j))
def Te(i:Nat)(pn:List Str):Bool:=Ua (AA i).scope.kind&&(L5 (AA i).scope.names&&(SE (AA i).scope.names&&(Zj ⟨[],[]⟩ (AA i).scope.names (Bp (Mt (AA i).scope.names 0).length) (Mt (AA i).scope.names 0)&&aZ (Mt (AA i).scope.names 0) pn 0)))
def Dh(i:Nat)(pn:List Str):Bool:=Te i pn&&(!(AA i).scope.isGenerator&&!(AA i).scope.isCoroutine)
theorem SD{x:Str}{k:Bq}{l:List (Str×Bq)}(h:SE l=Ab)(hm:(x,k)∈l):k=.local\/k=.cell\/k=.globalImplicit:=of_decide_eq_true (Al.mp h _ hm)
structure DefFacts0(i:Nat)(pn:List Str):Prop where
 kind:(AA i).scope.kind=.function
 nd:L5 (AA i).scope.names=Ab
 nf:SE (AA i).scope.names=Ab
 acc:UD ⟨[],[]⟩ (AA i).scope.names (Bp (Mt (AA i).scope.names 0).length) (Mt (AA i).scope.names 0)
 pn:aZ (Mt (AA i).scope.names 0) pn 0=Ab
structure LH(i:Nat)(pn:List Str):Prop extends DefFacts0 i pn where
 gen:(AA i).scope.isGenerator=Ai
 co:(AA i).scope.isCoroutine=Ai
theorem RH{i:Nat}{pn:List Str}(h:Te i pn=Ab):DefFacts0 i pn:=CJ h λ h1 h=>CJ h λ h2 h=>CJ h λ h3 h=>CJ h λ h4 h5=>⟨L9 h1,h2,h3,PF h4,h5⟩
theorem Ro{i:Nat}{pn:List Str}(h:Dh i pn=Ab):LH i pn:=
 CJ h λ h1 h=>CJ h λ h2 h3=>⟨RH h1,(BG _).mp h2,(BG _).mp h3⟩
noncomputable def P2:Option Nat->V
 |none=>.none
 |some g=>.fn g
def vV(key:Option Nat):List V->Option (List V)
 |[]=>Ae
 |[_]=>Ae
 |[a,b]=>Aa [a,b,.int 0,.none,P2 key]
 |a::b::c::r=>match r with
  |[]=>Aa [a,b,c,.none,P2 key]
  |d::r=>if r.isEmpty then Aa [a,b,c,d,P2 key] else Ae
def HW(f:Nat)(vs:List V)(key:Option Nat):Option (List V):=if RR.contains f then vV key vs else match key with|none=>Aa vs|some _=>Ae
abbrev NU(i:Nat)(dV kV doc pm cd ct:Ad):Gl:=fnX (AA i).name (AA i).name (AA i).args (AA i).body (AA i).scope [] dV kV doc pm Ae cd ct
noncomputable def Ei(vs:List V)(ns:Nat):AQ:=vs.map .w++AD (ns - vs.length) .u
def GS(f i:Nat)(pn:List Str):Prop:=∀(s:Af) (Y:Aj->Prop) vs us vs' key dV kV,MS s.heap f dV kV->AI s.heap Y vs us->HW f vs key=Aa vs'->vs'.length=pn.length->
 ∃ex,AI s.heap Y vs' (us++ex)/\∀doc pm cd ct,fN s (NU i dV kV doc pm cd ct) ⟨us,Kh key⟩ (pn.zip (us++ex))
def KC(s s':Af)(Y:Aj->Prop)(fl:Fl)(v:Ad):Prop:=match fl with
 |.next=>v=.none
 |.ret V=>A6 s'.heap Y V v
 |.reto xs=>xs.length<=CN/\∃a us,v=.ref a/\s.heap.get? a=Ae/\s'.heap.PlainList a us/\AI s'.heap (λ b=>Y b\/b=a) xs us.toList
theorem PQ{vs:List V}{ns i:Nat}:(∃V,vs[i]?=Aa V/\rd (Ei vs ns) i=.w V)\/rd (Ei vs ns) i=.u:=by
 rw[MF];unfold Ei;rw[AK]
 by_cases h:i<vs.length
 ·left;refine⟨vs[i],Ar h,?_⟩;rw[List.getElem?_append_left (by rw[Ag];exact h),Ba,Ar h];rfl
 ·right;rw[BY (by rw[Ag];exact Ha h),List.getElem?_replicate];exact iP (P:=λ o=>Option.getD o LV.u=.u) (λ z=>rfl) λ z=>rfl
theorem BQ.deeper(h:BQ (n+1) A):BQ n (A.deeper env):=by
 obtain⟨h1,h2,h3,l,h4⟩:=h;refine⟨h1,?_,?_,env::l,?_⟩
 ·show A.depth+1+n<=850;omega
 ·show A.units+3+20*n<=9000;omega
 ·show A.frames.map (env::·)=Aa (env::l);rw[h4];rfl
structure qH(i:Nat)(L:Aj)(cells:List (Str×Aj))(lc:Nat->Qp):Prop where
 dict:∀{j D z},lc j=.dict D z->D=L
 cell:∀{j c},lc j=.cell c->∃m,(m,Cb)∈(AA i).scope.names/\cells.lookup m=Aa c
 acc:∀{z j},lk z (Mt (AA i).scope.names 0)=Aa j->(lc j=.dict L z/\(z,NameKind.local)∈(AA i).scope.names)\/∃c,lc j=.cell c/\(z,Cb)∈(AA i).scope.names/\cells.lookup z=Aa c
 inj:∀j k,lc j=lc k->lc j≠.no->j=k
theorem Na{o:Option Qp}{l:Qp}(h:o.getD .no=l)(hn:l≠.no):o=Aa l:=by
 induction o with
 |none=>exact absurd h.symm hn
 |some m=>exact congrArg Aa h
theorem U9{i:Nat}{pn:List Str}(D:DefFacts0 i pn){L:Aj}{cells:List (Str×Aj)}(hc:∀z,(z,Cb)∈(AA i).scope.names->∃c,cells.lookup z=Aa c)(ha:cells.Pairwise λ p q=>p.2≠q.2):
  qH i L cells λ j=>(LO j (Ke L cells (AA i).scope.names (Mt (AA i).scope.names 0))).getD .no where
 dict h:=by
  rcases(Ik D.acc (Na h (λ h=>by cases h))).2 with⟨m,e,_⟩|⟨m,e,_⟩<;>cases e
  rfl
 cell h:=by
  rcases(Ik D.acc (Na h (λ h=>by cases h))).2 with⟨m,e,_⟩|⟨m,e,hm⟩
  ·cases e
  ·refine Aw (hc m hm) λ c hcm=>?_;rw[hcm] at e;cases e
   exact⟨m,hm,hcm⟩
 acc h:=by
  rcases HA D.acc h with⟨hm,_,hl⟩|⟨hm,_,hl⟩|⟨_,hl,_⟩
  ·exact .inl ⟨congrArg (·.getD .no) hl,hm⟩
  ·refine Aw (hc _ hm) λ c hcm=>?_;rw[hcm] at hl;exact .inr ⟨c,congrArg (·.getD .no) hl,hm,hcm⟩
  ·exact nn hl
 inj j k e n:=by
  have h1:=Na rfl n;have h2:=Na e.symm n;refine QG D.acc (λ z z' hz hz' q=>?_) h1 h2;refine Aw (hc z hz) λ c hcm=>Aw (hc z' hz') λ c' hcm'=>?_;rw[hcm,hcm'] at q
  cases q
  exact name_of_addr ha (mem_of_lookup hcm) (mem_of_lookup hcm')
theorem qH.en1{i f:Nat}{pn:List Str}(D:DefFacts0 i pn){fd:Gl}{L:Aj}{lc:Nat->Qp}(F:qH i L (BX fd L f).cells lc)(hsc:fd.scope=(AA i).scope)(hgl:fd.globals=C8)(hbi:fd.builtins=Es)(Y:Aj->Prop)(B:AV):AJ (C0 (AA i)) ⟨lc,Y,B⟩ (BX fd L f):=by
 have ekind:∀z,(BX fd L f).kindOf z=(AA i).scope.names.lookup z:=λ z=>by rw[<-hsc];rfl
 refine⟨by show fd.scope.kind=_;rw[hsc];exact D.kind,λ z j h=>?_,λ z h=>?_,λ z h=>?_,λ z h=>?_,λ z h=>?_,hgl,hbi⟩
 ·rcases F.acc h with⟨e,hm⟩|⟨c,e,hm,hc⟩
  ·show rF _ z (lc j);rw[e];exact⟨rfl,by rw[ekind];exact BE D.nd hm,rfl⟩
  ·show rF _ z (lc j);rw[e];exact⟨.inl (by rw[ekind];exact BE D.nd hm),hc⟩
 ·rw[ekind,<-HV];exact h
 ·rw[ekind,<-HV];exact h
 ·rw[ekind,<-HV];exact h
 ·rcases SD D.nf (GN h) with e|e|e<;>cases e
def xQ(h:AV)(Y:Aj->Prop)(a:Aj)(pn:List Str)(us:List Ad)(U:AQ):Prop:=∀k,(∃p u,pn[k]?=Aa p/\us[k]?=Aa u/\Slot h Y a (rd U k) (Aa u))\/rd U k=.u
theorem Rm{i f:Nat}{pn:List Str}(D:DefFacts0 i pn){fd:Gl}(hsc:fd.scope=(AA i).scope)(hgl:fd.globals=C8)(hbi:fd.builtins=Es){Y Y'1:Aj->Prop}{a:Aj}{us:List Ad}(hul:us.length=pn.length)(hn:pn.Nodup)
  (x:InCallC s (BX fd s.heap.objs.size f).locals (bindL (BX fd s.heap.objs.size f).kindOf (pn.zip us) λ w=>Ae) (BX fd s.heap.objs.size f).cells (bindC (BX fd s.heap.objs.size f).kindOf (pn.zip us) λ w=>Ae) s'1)
  (g:GI mg mb s) (hk:DS B s.heap) (hw:Wd mg mb B) (ht:∀b,Tb b->∃o,B.get? b=Aa o) (hB:∀b,s.heap.get? b=Ae->B.get? b=Ae) (hY:∀b,Y b->∃o,s.heap.get? b=Aa o) (hYY:∀b,Y b\/(b=a/\∃j xs,rd U j=.x xs)->Y'1 b)
  (own:∀j xs,rd U j=.x xs->j=0/\B.get? a=Ae/\¬Y a/\¬Tb a/\xs.length<=CN/\∃vs,s.heap.PlainList a vs/\AI s.heap Y'1 xs vs.toList) (slot:xQ s.heap Y'1 a pn us U)
  {gC:Prop} (gk:∀C:Er,C.Y0=Y->C.base=B->(∀b,C.mine b->s.heap.get? b=Ae)->AJ (C0 (AA i)) C (BX fd s.heap.objs.size f)->AX mg mb C (λ w=>a) U s'1->C7 s s'1->gC):gC:=by
 have ekind:∀z,(BX fd s.heap.objs.size f).kindOf z=(AA i).scope.names.lookup z:=λ z=>by rw[<-hsc];rfl
 have F:=U9 D (L:=s.heap.objs.size) (λ z hz=>by refine Aw (EM (b:=s.heap.objs.size+1) hz) λ c hc=>?_;exact⟨c,by rw[<-hc,<-hsc];rfl⟩) x.apart
 revert F
 generalize (λ j=>(LO j (Ke s.heap.objs.size (BX fd s.heap.objs.size f).cells (AA i).scope.names (Mt (AA i).scope.names 0))).getD .no)=lc;intro F;have tg:C7 s s'1/\GI mg mb s'1:=by refine E1 x.done λ h' tk H3 hk=>?_;subst H3;exact⟨.all hk tk,g.all hk tk⟩
 refine A9 tg λ t g'1=>?_;have none0:∀b,s.heap.objs.size<=b->s.heap.get? b=Ae:=λ b hb=>by
  cases e:s.heap.get? b with
  |none=>rfl
  |some o=>exact absurd (AT e) (Nat.not_lt.mpr hb)
 have mine:∀b,Er.mine ⟨lc,Y,B⟩ b->s.heap.get? b=Ae:=λ b h=>none0 b<|by
  rcases h with⟨j,z,e⟩|⟨j,e⟩
  ·exact Kn (F.dict e).symm
  ·exact AF (F.cell e) λ m w hc=>B9 (x.above m b (mem_of_lookup hc))
 have rep:∀V u,A6 s.heap Y'1 V u->A6 s'1.heap (Am ⟨lc,Y,B⟩ (λ w=>a) U) V u:=λ V u r=>r.mono t.keep g.cls λ b o e y=>by
  rcases y with y|y|⟨j,xs,q,q2⟩
  ·exact hYY b (.inl y)
  ·rw[mine b y] at e;exact nn e
  ·exact hYY b (.inr ⟨q2.symm,j,xs,q⟩)
 have sl:∀k o,Slot s.heap Y'1 a (rd U k) o->Slot s'1.heap (Am ⟨lc,Y,B⟩ (λ w=>a) U) a (rd U k) o:=λ k o h=>h.mono rep;refine gk ⟨lc,Y,B⟩ rfl rfl mine (F.en1 D hsc hgl hbi Y B) ?_ t;exact{
  gi:=g'1,keep:=hk.trans t.keep,wd0:=hw
  y0:=λ b h=>FC g'1 t (hY b h)
  tb:=ht
  new:=λ b h=>hB b (mine b h)
  inj:=F.inj
  dicts:=λ D' ⟨j,z,e⟩=>by
   have e':=F.dict e;subst e';refine⟨_,x.toInCall.ns,λ k y ek=>?_⟩;rcases slot k with⟨p,u,hp,hu,hs⟩|q
   ·rcases F.acc ((Lj D.pn hp).trans (congrArg Aa (CW k))) with⟨e1,hm⟩|⟨c,e1,_⟩
    ·cases ek.symm.trans e1
     rw[VK hn hul.symm hp hu (by rw[ekind];exact BE D.nd hm)];exact sl k _ hs
    ·cases ek.symm.trans e1
   ·rw[q];trivial
  cells:=λ k c ek=>by
   rcases slot k with⟨p,u,hp,hu,hs⟩|q
   ·rcases F.acc ((Lj D.pn hp).trans (congrArg Aa (CW k))) with⟨e1,_⟩|⟨c',e1,hm,hc⟩
    ·cases ek.symm.trans e1
    ·cases ek.symm.trans e1
     refine⟨_,x.cell p c hc,?_⟩;rw[VM hn hul.symm hp hu (by rw[ekind,BE D.nd hm];nofun)];exact sl k _ hs
   ·rw[q];exact AF (F.cell ek) λ m w hc=>⟨_,x.cell m c hc,trivial⟩
  owns:=λ j xs e=>by
   refine rI (own j xs e) λ w h1 h2 h3 h4 H=>?_;refine AF H λ vs h5 h6=>?_;refine⟨h1,λ h=>?_,h4,vs,h5.at λ o e=>t.keep _ _ h3 e,AI.mono t.keep g.cls (λ b o e y=>?_) h6⟩
   ·refine Aw h5 λ n h5=>?_;rw[mine _ h] at h5;exact nn h5
   ·rcases y with y|y|⟨j,xs,q,q2⟩
    ·exact hYY b (.inl y)
    ·rw[mine b y] at e;exact nn e
    ·exact hYY b (.inr ⟨q2.symm,j,xs,q⟩)
  ownY:=λ j xs e=>(own j xs e).2.2.1
  apart:=λ j k xs ys e1 e2 w=>(own j xs e1).1.trans (own k ys e2).1.symm}
theorem IQ{vs:List V}{ns:Nat}:∀j xs,rd (Ei vs ns) j≠.x xs:=λ j xs e=>by rcases PQ with⟨V,_,q⟩|q<;>rw[q] at e<;>cases e
theorem fC{h:AV}{Y:Aj->Prop}{a:Aj}{pn:List Str}{vs:List V}{us:List Ad}{ns:Nat}(hr:AI h Y vs us)(hl:vs.length=pn.length):xQ h Y a pn us (Ei vs ns):=λ k=>by
 rcases PQ with⟨V,hV,q⟩|q
 ·refine AF (hr.get hV) λ u hu hr'=>?_;have hj:k<pn.length:=by rw[<-hl];exact(List.getElem?_eq_some_iff.mp hV).1
  exact .inl ⟨pn[k],u,Ar hj,hu,by rw[q];exact hr'⟩
 ·exact .inr q
theorem Pt{i f:Nat}{pn:List Str}(D:DefFacts0 i pn){fd:Gl}(hsc:fd.scope=(AA i).scope)(hgl:fd.globals=C8)(hbi:fd.builtins=Es)(g:GI mg mb s){Y:Aj->Prop}(hY:∀b,Y b->∃o,s.heap.get? b=Aa o){vs:List V}{us:List Ad}(hr:AI s.heap Y vs us)(hl:vs.length=pn.length)(hn:pn.Nodup)(ns:Nat)
  (x:InCallC s (BX fd s.heap.objs.size f).locals (bindL (BX fd s.heap.objs.size f).kindOf (pn.zip us) λ z=>Ae) (BX fd s.heap.objs.size f).cells (bindC (BX fd s.heap.objs.size f).kindOf (pn.zip us) λ z=>Ae) s'1) {gC:Prop} (gk:∀C:Er,C.Y0=Y->C.base=s.heap->((∀b,C.mine b->s.heap.get? b=Ae))->AJ (C0 (AA i)) C (BX fd s.heap.objs.size f)->(AX mg mb C (λ z=>0) (Ei vs ns) s'1)->C7 s s'1->gC):gC:=
 Rm D hsc hgl hbi (by rw[hr.length,hl]) hn x g (λ z z z e=>e) g.wd (λ b h=>by refine Aw (g.wd.tb b h) λ vs e=>?_;exact⟨_,e⟩) (λ z e=>e) hY (λ b h=>h.elim id λ ⟨_,j,xs,e⟩=>absurd e (IQ j xs)) (λ j xs e=>absurd e (IQ j xs)) (fC hr hl) gk
abbrev Dp(i:Nat)(dV kV doc pm cd ct:Ad)(L f:Aj):Env:=BX (NU i dV kV doc pm cd ct) L f
def xL(w:B2)(A:Br)(env:Env)(E:Ad->Af->Prop):Ad->Af->Prop:=λ e s'=>As (An pw w) A (leaving env e) (λ z s''=>E e s'') (λ e' s''=>E e' s'') s'
theorem YD{i f:Nat}{pn:List Str}(D:LH i pn){dV kV:Ad}(ob:Mu s.heap f (AA i).name (AA i).name (AA i).args (AA i).body (AA i).scope [] dV kV)(hA:A.depth<CH)(g:GI mg mb s){us us':List Ad}{key:Option Nat}(hul:us'.length=pn.length)
  (hbt:∀doc pm cd ct,fN s (NU i dV kV doc pm cd ct) ⟨us,Kh key⟩ (pn.zip us')) {Q:Ad->Af->Prop} {E:Ad->Af->Prop}
  (h:∀doc pm c ct o s'1,s.heap.get? f=Aa o->o.data=.func (NU i dV kV doc pm (.ref c) ct)->
   InCallC s (Dp i dV kV doc pm (.ref c) ct s.heap.objs.size f).locals (bindL (Dp i dV kV doc pm (.ref c) ct s.heap.objs.size f).kindOf (pn.zip us') λ z=>Ae) (Dp i dV kV doc pm (.ref c) ct s.heap.objs.size f).cells (bindC (Dp i dV kV doc pm (.ref c) ct s.heap.objs.size f).kindOf (pn.zip us') λ z=>Ae) s'1->
   As (An pw w) (A.deeper (Dp i dV kV doc pm (.ref c) ct s.heap.objs.size f)) (B4 (AA i).body (Dp i dV kV doc pm (.ref c) ct s.heap.objs.size f)) (λ fl s'=>Q (match fl with|.ret v=>v|_=>.none) s') (xL w (A.deeper (Dp i dV kV doc pm (.ref c) ct s.heap.objs.size f)) (Dp i dV kV doc pm (.ref c) ct s.heap.objs.size f) E) s'1):
  As (An pw w) A (C2 (.ref f) us (Kh key)) Q E s:=by
 obtain⟨o,doc,pm,c,oc,cvs,t,ct,ho,hnt,hdat,hnc,hoc,hod,hq⟩:=ob;refine xW (codeAny_call_function hA ho hdat D.co D.gen rfl ⟨c,oc,cvs,t,rfl,hoc,hod,hq⟩ (hbt doc pm (.ref c) ct _ _ _ _ ?_));refine wpAny_newFunctionEnv_cells (scope:=(AA i).scope) D.kind (λ x hx=>?_) λ env henv s'1 x=>?_
 ·have hx1:x.1∈pn:=by
   have:=LQ (f:=(·.1)) hx
   rwa [HR hul.symm] at this
  refine Aw (List.mem_iff_getElem?.mp hx1) λ j hj=>?_;rcases HA (D:=0) (cells:=[]) D.acc (Lj D.pn hj) with⟨hm,_⟩|⟨hm,_⟩|⟨_,hlk,_⟩
  ·exact .inl (BE D.nd hm)
  ·exact Aw (EM hm) λ c hc=>.inr ⟨BE D.nd hm,by rw[hc];rfl⟩
  ·exact nn hlk
 ·subst henv;exact⟨g.wd.nolimit.keeps x.toInCall.keep,codeAny_func (h doc pm c ct o s'1 ho hdat x)⟩
theorem BQ.room(h:BQ (n+1) A):A.depth<CH:=AY (AY (Nat.lt_add_of_pos_right (Ow n)) h.dp) (by decide)
theorem KU{i f ns:Nat}{pn:List Str}(hmem:(f,i)∈Fe)(hd:Dh i pn=Ab)(hn:pn.Nodup)(hb:GS f i pn){m:Nat}{vs vs':List V}{key:Option Nat}(hf:HW f vs key=Aa vs')(hl:vs'.length=pn.length)(hA:BQ (m+1) A)(g:GI mg mb s){Y:Aj->Prop}(hY:∀b,Y b->∃o,s.heap.get? b=Aa o){us:List Ad}(hr:AI s.heap Y vs us)
  (h:∀C dV kV doc pm c ct o s'1,C.Y0=Y->C.base=s.heap->s.heap.get? f=Aa o->o.data=.func (NU i dV kV doc pm (.ref c) ct)->s.heap.get? s.heap.objs.size=Ae->AJ (C0 (AA i)) C (Dp i dV kV doc pm (.ref c) ct s.heap.objs.size f)->AX mg mb C (λ z=>0) (Ei vs' ns) s'1->C7 s s'1->BQ m (A.deeper (Dp i dV kV doc pm (.ref c) ct s.heap.objs.size f))->(∃mm,s'1.heap.Ns s.heap.objs.size mm)->
   As (An pw w) (A.deeper (Dp i dV kV doc pm (.ref c) ct s.heap.objs.size f)) (B4 (AA i).body (Dp i dV kV doc pm (.ref c) ct s.heap.objs.size f)) (λ fl s'=>Q (match fl with|.ret v=>v|_=>.none) s') (xL w (A.deeper (Dp i dV kV doc pm (.ref c) ct s.heap.objs.size f)) (Dp i dV kV doc pm (.ref c) ct s.heap.objs.size f) E) s'1):
  As (An pw w) A (C2 (.ref f) us (Kh key)) Q E s:=by
 have D:=Ro hd;exact E1 (g.wd.fn _ hmem) λ dV kV FA DO=>AF (hb s Y vs us vs' key dV kV DO hr hf hl) λ ex hr' hbt=>YD D FA.ob hA.room g (by rw[hr'.length,hl]) hbt λ doc pm c ct o s'1 ho hdat x=>by exact Pt (ns:=ns) D.toDefFacts0 rfl rfl rfl g hY hr' hl hn x λ C e1 e2 z N I t'1=>h C dV kV doc pm c ct o s'1 e1 e2 ho hdat (Ew _) N I t'1 (BQ.deeper hA) ⟨_,x.toInCall.ns⟩
noncomputable def gZ:Gj->Ad
 |.ret v=>v
 |_=>.none
theorem Xw{Y:Aj->Prop}{f:Gj}(e1:C.Y0=Y)(e2:C.base=s.heap)(I:AX mg mb C (λ u=>0) U s'1)(t'1:C7 s s'1)(noOwn:∀j xs,rd U j≠.x xs)(I':AX mg mb C J' U' s')(f':CT C (λ u=>0) U s'1 J' U' s')(ok:Ot C J' U' fl f s')
  (k:∀v,GI mg mb s'->C7 s s'->KC s s' Y fl v->Q v s'):Q (gZ f) s':=by
 have kp:DS s.heap s'.heap:=λ b o n e=>by refine f'.heap b o n (λ q=>?_) (λ j xs e=>absurd e (noOwn j xs)) (t'1.keep b o n e);have:=I.new b q;rw[e2] at this;rw[this] at e;exact nn e
 have ts:C7 s s':=⟨kp,λ j z e=>f'.gens j z (t'1.gens j z e),f'.os.trans t'1.os⟩;have fin:∀v,KC s s' Y fl v->Q v s':=λ v h=>k v I'.gi ts h
 induction fl with
 |next=>subst ok;exact fin .none rfl
 |ret V=>refine AF ok λ v H2 rv=>?_;subst H2;exact fin v (rv.mono (.refl _) I'.gi.cls λ b o u y=>.inl (by rw[e1];exact y))
 |reto xs=>
  refine AF ok λ j hj H3=>?_;subst H3;refine CA (I'.owns j xs hj) λ h1 h2 h3 H=>?_;refine AF H λ vs2 h4 h5=>?_;refine fin _ ⟨h3,J' j,vs2,rfl,by rw[<-e2];exact h1,h4,AI.mono (.refl _) I'.gi.cls (λ b o u y=>?_) h5⟩;rcases y with y|y
  ·exact .inl (by rw[e1];exact y)
  ·exact .inr (.inr ⟨j,xs,hj,y.symm⟩)
theorem Qa{i f ns:Nat}{pn:List Str}(hmem:(f,i)∈Fe)(hd:Dh i pn=Ab)(hn:pn.Nodup)(hb:GS f i pn){m:Nat}{vs vs':List V}{key:Option Nat}(hf:HW f vs key=Aa vs')(hl:vs'.length=pn.length)(hA:BQ (m+1) A)(g:GI mg mb s){Y:Aj->Prop}(hY:∀b,Y b->∃o,s.heap.get? b=Aa o){us:List Ad}(hr:AI s.heap Y vs us)
  (h:∀C dV kV doc pm c ct o s'1,s.heap.get? f=Aa o->o.data=.func (NU i dV kV doc pm (.ref c) ct)->AJ (C0 (AA i)) C (Dp i dV kV doc pm (.ref c) ct s.heap.objs.size f)->AX mg mb C (λ z=>0) (Ei vs' ns) s'1->C7 s s'1->BQ m (A.deeper (Dp i dV kV doc pm (.ref c) ct s.heap.objs.size f))->∀(Q:Gj->Af->Prop) (E:Ad->Af->Prop),
   (∀J' U' s' f,AX mg mb C J' U' s'->CT C (λ z=>0) (Ei vs' ns) s'1 J' U' s'->Ot C J' U' fl f s'->Q f s')->As (An pw w) (A.deeper (Dp i dV kV doc pm (.ref c) ct s.heap.objs.size f)) (B4 (AA i).body (Dp i dV kV doc pm (.ref c) ct s.heap.objs.size f)) Q E s'1):
  Ok mg mb w A s (C2 (.ref f) us (Kh key)) λ s' v=>KC s s' Y fl v:=λ Q E k=>
 KU hmem hd hn hb hf hl hA g hY hr λ C dV kV doc pm c ct o s'1 e1 e2 ho hdat hLn N I t'1 hG z=>h C dV kV doc pm c ct o s'1 ho hdat N I t'1 hG _ _ λ J' U' s' f I' f' ok=>show Q (gZ f) s' from Xw e1 e2 I t'1 IQ I' f' ok λ v g' ts r=>k s' v g' ts r
theorem wA{i f ns:Nat}{pn:List Str}{b:E5}(hmem:(f,i)∈Fe)(hd:Dh i pn=Ab)(hn:pn.Nodup)(hk:Ct (C0 (AA i)) b (AA i).body=Ab)(hb:GS f i pn){m:Nat}(X:∀A,BQ m A->Sx mg mb w G n F A)
  {vs vs':List V} {key:Option Nat} {fl:Fl} {U':AQ} (hf:HW f vs key=Aa vs') (hl:vs'.length=pn.length) (he:Bw G F b (Ei vs' ns)=Aa (fl,U')) (hA:BQ (m+1) A) (g:GI mg mb s) {Y:Aj->Prop} (hY:∀b,Y b->∃o,s.heap.get? b=Aa o) {us:List Ad} (hr:AI s.heap Y vs us):
  Ok mg mb w A s (C2 (.ref f) us (Kh key)) λ s' v=>KC s s' Y fl v:=
 Qa hmem hd hn hb hf hl hA g hY hr λ C dV kV doc pm c ct o s'1 ho hdat N I t'1 hG Q E kk=>HS (X _ hG) b _ C _ _ _ _ N hk he _ s'1 I _ _ λ J' s' fw I' f' ok=>kk J' _ s' fw I' f' ok
set_option backward.match.sparseCases false
def J9(mg mb:Str->Option Ad)(w:B2)(G:EZ)(n:Nat):Prop:=∀vs xs,G 42 vs Ae=Aa (.list xs)->∀A s Y us,BQ n A->GI mg mb s->(∀b,Y b->∃o,s.heap.get? b=Aa o)->AI s.heap Y vs us->
 Ok mg mb w A s (C2 (.ref 42) us []) λ s' v=>KC s s' Y (.reto xs) v
theorem WJ(X:Cx mg mb w G n A)(Fr:J9 mg mb w G n)(N:AJ K C env){i:Nat}{es:Fu}{x:Str}{v:Ac}{p q:Pos}{vs xs:List V}(hz:F8 K x i=Ab)(h:chk K (.call 42 es Ae) v=Ab)(h1:IS G es U=Aa vs)(h2:G 42 vs Ae=Aa (.list xs)):
  D1 mg mb w C A U (DP (.Assign [.Name x p] v q) env) (.next,wr U i (.x xs)):=by
 refine Rz h λ fx ys ks p' q' c1 c2 c3 c4=>?_
 ·have hk:=c3;subst hk;refine PN N hz (λ J s I=>?_) rfl;refine Db (Ir c1) λ e1 e2 H=>?_;refine AF H λ j e3 e4=>?_;refine C6 (key:=Ae) (AR:=λ s' us=>C7 s s'/\AI s'.heap (Am C J U) vs us) N I (IT c2) rfl (λ e=>absurd e c4) (λ Q E k=>CQ N e1 e2 I (Iu I.gi e3 e4) k) (λ Q E k=>SZ X es K C env U ys vs N c2 h1 _ J s I Q E λ s' us g t r=>k s' us g t ⟨t,r⟩) (λ s' g=>Dy g e3) λ s'1 us I'1 t'1 r'1=>(Fr vs xs h2 A s'1 _ us X.hA I'1.gi I'1.there r'1.2).mono λ s'2 u g'2 t'2 r'2=>?_;refine A9 r'2 λ hz H=>?_;refine Hm H λ a ys e ha hl hr=>?_;refine⟨hz,a,ys,e,?_,hl,hr⟩
  cases q:s.heap.get? a with
  |none=>rfl
  |some o=>refine Aw (FC I'1.gi t'1 ⟨o,q⟩) λ o' q'=>?_;rw[ha] at q';exact nn q'
theorem Vw{i f:Nat}{pn:List Str}(D:LH i pn){fd:Gl}(hsc:fd.scope=(AA i).scope)(hgl:fd.globals=C8)(hbi:fd.builtins=Es){C'0:Er}{σ0:Nat->Aj}(I'0:AX mg mb C'0 σ0 U'0 s){i'0:Nat}{xs0:List V}(hi'0:rd U'0 i'0=.x xs0){vs:List V}{us:List Ad}(hr:AI s.heap (Am C'0 σ0 U'0) vs us)(hl:vs.length+1=pn.length)(hn:pn.Nodup)(ns:Nat)
  (x:InCallC s (BX fd s.heap.objs.size f).locals (bindL (BX fd s.heap.objs.size f).kindOf (pn.zip (.ref (σ0 i'0)::us)) λ z=>Ae) (BX fd s.heap.objs.size f).cells (bindC (BX fd s.heap.objs.size f).kindOf (pn.zip (.ref (σ0 i'0)::us)) λ z=>Ae) s'1) {gC:Prop} (gk:∀C:Er,(C.Y0=(λ b=>Am C'0 σ0 U'0 b/\b≠σ0 i'0))->C.base=C'0.base->((∀b,C.mine b->s.heap.get? b=Ae))->AJ (C0 (AA i)) C (BX fd s.heap.objs.size f)->(AX mg mb C (λ z=>σ0 i'0) (.x xs0::Ei vs ns) s'1)->C7 s s'1->gC):gC:=by
 refine CA (I'0.owns i'0 xs0 hi'0) λ hb0 hm0 hz0 H=>?_;refine AF H λ vs0 hpl0 hrs0=>?_;refine Rm D.toDefFacts0 hsc hgl hbi (by rw[Bl,hr.length,hl]) hn x I'0.gi I'0.keep I'0.wd0 I'0.tb (λ b h=>DY I'0 h) (λ b h=>I'0.there b h.1) (λ b h=>h.elim (·.1) λ ⟨e,_⟩=>.inr (.inr ⟨i'0,xs0,hi'0,e.symm⟩)) (λ j xs e=>?_) (λ k=>?_) gk
 ·induction j using A5 with
  |zero=>cases e;exact⟨rfl,hb0,λ h=>h.2 rfl,I'0.ownTb hi'0,hz0,vs0,hpl0,hrs0⟩
  |succ j=>exact absurd e (IQ j xs)
 ·cases k with
  |zero=>exact .inl ⟨pn[0],_,Ar (Nat.lt_of_sub_eq_succ (hl.symm)),rfl,rfl⟩
  |succ k=>
   rcases PQ (i:=k) with⟨V,hV,q⟩|q
   ·refine AF (hr.get hV) λ u hu hr'=>?_;have hj:k+1<pn.length:=by have:=(List.getElem?_eq_some_iff.mp hV).1;omega
    exact .inl ⟨pn[k+1],u,Ar hj,hu,by rw[show rd (.x xs0::Ei vs ns) (k+1)=_ from q];exact hr'⟩
   ·exact .inr q
inductive G8(K:Kx)(bis:Nat):List CU->Prop
 |mk {k1 w1 w2 w3 w4 l1 w5 b1 w6 a1 w7 x1 w8 l2 w9 h1 w10 w11 w12 l3 w13 b2 w14 a2 w15 k2 w16 x2 w17 w18 l4 w19 h2 w20 kk k3 w21 w22 w23 w24 w25 a3 w26 m ap l5 w27 x3 w28 cp w29} (c1:EI K k1 4=Ab) (c2:F8 K l1 2=Ab) (c3:EC K bis b1=Ab) (c4:EI K a1 0=Ab) (c5:EI K x1 1=Ab) (c6:EI K l2 2=Ab) (c7:EI K h1 3=Ab) (c8:F8 K l3 2=Ab) (c9:EC K bis b2=Ab) (c10:EI K a2 0=Ab) (c11:EI K k2 4=Ab) (c12:EI K x2 1=Ab) (c13:EI K l4 2=Ab) (c14:EI K h2 3=Ab) (c15:Mi kk "key"=Ab) (c16:EI K k3 4=Ab) (c17:EI K a3 0=Ab) (c18:Mi m "insert"=Ab) (c19:EI K l5 2=Ab) (c20:EI K x3 1=Ab) (c21:EB ap cp=Ab):G8 K bis [.If (.Compare (.Name k1 w1) [.Is] [.Constant .none w2 w3] w4) [.Assign [.Name l1 w5] (.Call (.Name b1 w6) [.Name a1 w7,.Name x1 w8,.Name l2 w9,.Name h1 w10] [] w11) w12]
   [.Assign [.Name l3 w13] (.Call (.Name b2 w14) [.Name a2 w15,.Call (.Name k2 w16) [.Name x2 w17] [] w18,.Name l4 w19,.Name h2 w20] [⟨Aa kk,.Name k3 w21,w22⟩] w23) w24] w25,.Expr (.Call (.Attribute (.Name a3 w26) m ap) [.Name l5 w27,.Name x3 w28] [] cp) w29]
theorem P5{l:Aj}{its:Array Ad}{k:Int}{t:Tok}{v:Ad}(hl:s.heap.PlainList l its)(h0:0<=k)(hk:k.toNat<=its.size)(hsz:its.size<=Gg)
  (hQ:∀h' vs,h'.PlainList l vs->vs.toList=its.toList.take k.toNat++v::its.toList.drop k.toNat->B8 l s.heap h'->Q .none {s with heap:=h'}):
  As (An pw w) A (C2 (.builtin "list.insert") [.ref l,.int k t,v]) Q E s:=by
 refine Aw (id hl) λ n0 ho=>?_;have hfit:¬(!Builtin.List.listFitsIndex k)=Ab:=by have:=fL h0 (show k<2^63 by have e:Gg=16777216:=rfl;omega);rw[this];decide
 refine LK PySem.F.slot_list_insert ⟨_,ho,rfl⟩ PySem.F.entry_list_insert (PySem.F.args_list_insert_3 _ _ _) (AutoSeq1.list_insert_list_int_val_1 l its n0 k t v hfit hsz) ⟨ho,?_⟩;have em:∀f:Array Ad->Array Ad,∃n',Bn f {cls:=.type "list",data:=.seq its n0}={cls:=.type "list",data:=.seq (f its) n'}:=λ f=>by simp[Bn]
 refine Aw (em λ xs=>have k:=if k<0 then(k+(xs.size:Int)).toNat else min k.toNat xs.size;(xs.extract 0 k).push v++xs.extract k) λ n' e=>hQ _ _ ⟨n',by rw[ES _ ho (by rw[e];rfl),e]⟩ ?_ (BI ..);have hn:¬k<0:=JM h0;simp only [hn,if_false,EQ hk];simp[Array.toList_extract];exact Dn (by rw[BS,Ax];exact A1 _)
theorem WZ(N:AJ K C env)(S:HC mg mb w G n)(hA:BQ n A){f i kx g:Nat}{fx zx kn:Str}{p q pos p3 q3:Pos}{ys:List Ac}{us:List V}{xs:List V}{j:Int}(hf:EC K f fx=Ab)(hv:EI K zx i=Ab)(hi:rd U i=.x xs)(hkn:EI K kn kx=Ab)(hkv:rd U kx=.w (.fn g))
  (hx:DG mg mb w C A U ys env us) (hp:∀x∈ys,Bo x) (hG:G f (.list xs::us) (Aa g)=Aa (.int j)):Cg mg mb w C A U (AM (.Call (.Name fx p) (.Name zx q::ys) [⟨Aa "key",.Name kn p3,q3⟩] pos) env) (.int j):=λ J s I Q E k=>by
 refine Db (Ir hf) λ h1 h2 H=>?_;refine AF H λ m h3 h4=>?_;refine A9 (Gb hkn) λ k1 k2=>?_;have hpl:∀x∈PySem.Expr.Name zx q::ys,Bo x:=λ x hx=>(AL.mp hx).elim (λ e=>e▸λ z z=>rfl) (hp x);refine GD (CQ N h1 h2 I (Iu I.gi h3 h4) ?_);have hps:(MX pos (Gh (.Name zx q::ys) env)).any (·.1)=Ai:=LC hpl;refine C9 (by rw[hps];rfl) (λ h hh=>hh)<|fK rfl (BA (CZ N hv hi I (hx pos J s I _ _ λ s'1 vs g'1 t'1 r'1=>?_)) rfl) rfl;have I'1:=I.step t'1 g'1;refine xV (Jm (Hu N k1 (by rw[hkv];nofun) I'1 (λ v e=>?_) k2) (H6 k2).1);rw[hkv] at e;have e:=e;subst e;refine kwAll_nil ⟨Dy g'1 h3,?_⟩;exact S.ok f _ (Aa g) _ hG A s'1 (λ b=>Am C J U b/\b≠J i) _ hA g'1 (λ b h=>I'1.there b h.1) ⟨_,_,rfl,JX I'1 hi,AI.mono (.refl _) g'1.cls (λ b o z y=>y.1) r'1⟩ Q E λ s'2 v g'2 t'2 r'2=>iE r'2 λ t=>k s'2 _ g'2 (t'1.trans t'2) ⟨t,rfl⟩
theorem KS:rE "list" "insert" "list.insert":=⟨GU,PySem.F.slot_list_insert,PySem.F.type_list_insert⟩
theorem AI.ins{h:AV}{Y:Aj->Prop}{xs:List V}{vs:List Ad}{v:Ad}{V:V}(r:AI h Y xs vs)(hv:A6 h Y V v)(k:Nat):AI h Y (JC xs k V) (vs.take k++v::vs.drop k):=
 (AI.take k r).append ⟨v,_,rfl,hv,AI.drop k r⟩
noncomputable def P3(G:EZ):Option Nat->V->Option V
 |none,x=>Aa x
 |some g,x=>G g [x] Ae
def Gf(mg mb:Str->Option Ad)(w:B2)(C:Er)(A:Br)(U:AQ)(t:Sem Gj)(U':AQ):Prop:=
 ∀J s,AX mg mb C J U s->∀(Q:Gj->Af->Prop) (E:Ad->Af->Prop),(∀s',AX mg mb C J U' s'->CT C J U s J U' s'->Q .next s')->As (An pw w) A t Q E s
theorem Gf.nil:Gf mg mb w C A U (B4 [] env) U:=λ J s I Q E k=>CO (k s I .refl)
theorem Gf.cons{st:CU}{rest:List CU}{U'1:AQ}(h:Gf mg mb w C A U (DP st env) U'1)(h':Gf mg mb w C A U'1 (B4 rest env) U'2):Gf mg mb w C A U (B4 (st::rest) env) U'2:=λ J s I Q E k=>Ay (h J s I _ _ λ s'1 I'1 f'1=>h' J s'1 I'1 Q E λ s'2 I'2 f'2=>k s'2 I'2 (f'1.trans f'2))
theorem Gf.asg(N:AJ K C env){z:Str}{i:Nat}{p pos:Pos}(hz:F8 K z i=Ab)(hx:Cg mg mb w C A U (AM x env) a)(hs:DQ x (Aa (.Name z p)) pos.line env=pure Ai):
  Gf mg mb w C A U (DP (.Assign [.Name z p] x pos) env) (wr U i (.w a)):=λ J s I Q E k=>
 CG (hx J s I _ _ λ s'1 v g'1 t'1 r'1=>Mr N hz (I.step t'1 g'1) r'1 λ s'2 I'2 f'2 y=>k s'2 I'2 ((CT.of_stp t'1 g'1).trans f'2)) hs
theorem Gf.ite{test:Ac}{body orelse:List CU}{pos:Pos}{c:Bool}(ht:Ni mg mb w C A U (isTrue test env (AM test env)) c)(h1:c=Ab->Gf mg mb w C A U (B4 body env) U')(h2:c=Ai->Gf mg mb w C A U (B4 orelse env) U'):
  Gf mg mb w C A U (DP (.If test body orelse pos) env) U':=λ J s I Q E k=>by
 refine KZ (ht J s I _ _ λ s'1 d g t e=>?_);subst e
 induction d with
 |true=>exact h1 rfl J s'1 (I.step t g) Q E λ s'2 I'2 f'2=>k s'2 I'2 ((CT.of_stp t g).trans f'2)
 |false=>exact h2 rfl J s'1 (I.step t g) Q E λ s'2 I'2 f'2=>k s'2 I'2 ((CT.of_stp t g).trans f'2)
theorem XM(N:AJ K C env)(S:HC mg mb w G n)(hA:BQ n A){bis:Nat}{body:List CU}(hb:G8 K bis body){xs:List V}{X:V}{key:Option Nat}{p:Int}{kx:V}(h0:rd U 0=.x xs)(h1:rd U 1=.w X)(h2:rd U 2=.w (.int 0))(h3:rd U 3=.w .none)(h4:rd U 4=.w (P2 key))
  (hkx:P3 G key X=Aa kx) (hG:G bis [.list xs,kx,.int 0,.none] key=Aa (.int p)) (hp0:0<=p) (hp:p.toNat<=xs.length) (hz:xs.length<CN) (hlen:5<=U.length):
  Gf mg mb w C A U (B4 body env) (wr (wr U 2 (.w (.int p))) 0 (.x (JC xs p.toNat X))):=by
 cases hb with
 |@mk k1 _ _ _ _ l1 _ b1 _ a1 _ x1 _ l2 _ h1' _ _ _ l3 _ b2 _ a2 _ k2 _ x2 _ _ l4 _ h2' _ kk k3 _ _ _ _ _ a3 _ m ap l5 _ x3 _ cp _ c1 c2 c3 c4 c5 c6 c7 c8 c9 c10 c11 c12 c13 c14 c15 c16 c17 c18 c19 c20 c21=>
  have ekk:=Dj c15;have em:=Dj c18;subst ekk em;refine Gf.cons (U'1:=wr U 2 (.w (.int p))) ?_ ?_
  ·clear c17 c18 c19 c20 c21
   refine Gf.ite (TC (o:=.is_) (r:=.bool key.isNone) rfl (by induction key<;>rfl) rfl (FN N c1 h4) Sq hA.cline λ z=>rfl) (λ hc=>?_) (λ hc=>?_)
   ·induction key with
    |some g=>exact nf hc
    |none=>obtain rfl:=sj hkx;refine Gf.cons (Gf.asg N c2 (TQ N S hA c3 c4 h0 (Dz (FN N c5 h1) (λ z z=>rfl) (DG.two (FN N c6 h2) (λ z z=>rfl) (FN N c7 h3) λ z z=>rfl)) (Tm (λ z z=>rfl) (λ z z=>rfl) λ z z=>rfl) hG) rfl) Gf.nil
   ·induction key with
    |none=>cases hc
    |some g=>have hkx:=hkx;have hkf:=h4;refine Gf.cons (Gf.asg N c8 (WZ N S hA c9 c10 h0 c16 hkf (Dz (TP N S hA c11 hkf (List.cons_ne_nil _ _) (DG.one (FN N c12 h1) λ z z=>rfl) (OR λ z z=>rfl) hkx) (λ z z=>rfl) (DG.two (FN N c13 h2) (λ z z=>rfl) (FN N c14 h3) λ z z=>rfl)) (Tm (λ z z=>rfl) (λ z z=>rfl) λ z z=>rfl) hG) rfl) Gf.nil
  refine Gf.cons (λ J s I Q E k=>?_) Gf.nil;have e0:rd (wr U 2 (.w (.int p))) 0=.x xs:=by rw[AU (by decide)];exact h0
  have e1:rd (wr U 2 (.w (.int p))) 1=.w X:=by rw[AU (by decide)];exact h1
  have e2:rd (wr U 2 (.w (.int p))) 2=.w (.int p):=by rw[MF,Ks,AK,Kb (Nat.lt_of_add_left_lt hlen)];rfl
  refine Jo ?_ (Hs N);refine Call_method2 (J6 rfl) rfl (J0 c21) (CZ N c17 e0 I ?_);refine CA (I.owns 0 xs e0) λ z z z H=>?_;refine AF H λ vs hpl z=>?_;refine⟨"list","list.insert",KS.pa,KS.sl,KS.ty,hpl.isList.typeIs,λ b e=>by cases e;refine Aw hpl λ n e=>?_;exact⟨_,e,rfl⟩,?_⟩
  refine C9 (P:=λ z=>True) rfl (λ h z=>CM (λ z e=>(by cases e)) h) (EG ?_)
  refine DG.two (FN N c19 e2) (λ z z=>rfl) (FN N c20 e1) (λ z z=>rfl) cp J s I _ _ λ s'2 us g'2 t'2 r'2=>⟨trivial,?_⟩;refine El r'2.two λ v u H3 ξ4 ru=>?_;subst H3;refine iE ξ4 λ t=>?_;have I'2:=I.step t'2 g'2;refine CA (I'2.owns 0 xs e0) λ z z hzz H=>?_;refine AF H λ vs hpl hr=>?_;have e:vs.size=xs.length:=by rw[<-Ax];exact hr.length
  refine P5 hpl hp0 (by rw[e];exact hp) (by rw[e,<-Fn];exact hzz) λ h' vs' hpl' hv' hs'=>?_;have:=I'2.setOwn (tk:=s'2.toks) e0 hs' hpl' (by rw[hv'];exact hr.ins ru _) (by unfold JC;rw[AB,Bl,Dv,BS];omega);exact k _ this.1 ((CT.of_stp t'2 g'2).trans this.2)
theorem AX.setOwn'(I:AX mg mb C J U s){i:Nat}{xs ys:List V}{vs:Array Ad}(hi:rd U i=.x xs)(g':GI mg mb s')(hk:∀b o,¬Tb b->b≠J i->s.heap.get? b=Aa o->s'.heap.get? b=Aa o)(hge:∀(j:Nat) x,s.gens[j]?=Aa x->s'.gens[j]?=Aa x)(hos:s'.os=s.os)(hl:s'.heap.PlainList (J i) vs)(hr:AI s'.heap (Am C J U) ys vs.toList)(hz:ys.length<=CN):
  AX mg mb C J (wr U i (.x ys)) s'/\CT C J U s J (wr U i (.x ys)) s':=by
 refine CA (I.owns i xs hi) λ hb hm z H=>?_;refine AF H λ z z z=>?_;have hT:=I.ownTb hi;have hY:∀b o,s.heap.get? b=Aa o->Am C J (wr U i (.x ys)) b->Am C J U b:=λ b o z y=>Gp hi y;have hkY:∀b o,¬Tb b->¬Am C J U b->s.heap.get? b=Aa o->s'.heap.get? b=Aa o:=λ b o nt y e=>hk b o nt (λ q=>y (.inr (.inr ⟨i,xs,hi,q.symm⟩))) e;have up:∀V u,A6 s.heap (Am C J U) V u->A6 s'.heap (Am C J (wr U i (.x ys))) V u:=λ V u r=>r.monoY hkY I.gi.cls hY;have ups:∀V u,AI s.heap (Am C J U) V u->AI s'.heap (Am C J (wr U i (.x ys))) V u:=λ V u r=>AI.monoY hkY I.gi.cls hY r;have slot:∀j o,Slot s.heap (Am C J U) (J j) (rd U j) o->Slot s'.heap (Am C J (wr U i (.x ys))) (J j) (rd (wr U i (.x ys)) j) o:=λ j o q=>by
  by_cases hj:j=i
  ·subst hj;rw[hi] at q;rcases CY with e|e
   ·rw[e];induction o with
    |none=>exact q
    |some v=>exact q
   ·rw[e];trivial
  ·rw[AU hj];exact q.mono up
 have thr:∀b,(∃o,s.heap.get? b=Aa o)->∃o,s'.heap.get? b=Aa o:=λ b ⟨o,e⟩=>by
  by_cases q:b=J i
  ·subst q;refine Aw hl λ n e=>?_;exact⟨_,e⟩
  ·by_cases t:Tb b
   ·refine Aw (g'.wd.tb b t) λ vs e=>?_;exact⟨_,e⟩
   ·exact⟨o,hk b o t q e⟩
 have own:∀j zs,rd (wr U i (.x ys)) j=.x zs->∃us,rd U j=.x us:=λ j zs e=>by
  by_cases hj:j=i
  ·subst hj;exact⟨xs,hi⟩
  ·rw[AU hj] at e;exact⟨zs,e⟩
 refine⟨{
  gi:=g'
  keep:=λ b o n e=>hk b o n (λ q=>by have e:=e;rw[q,hb] at e;exact nn e) (I.keep b o n e)
  wd0:=I.wd0
  y0:=λ b h=>thr b (I.y0 b h)
  tb:=I.tb,new:=I.new,inj:=I.inj
  dicts:=λ D hD=>by exact AF (I.dicts D hD) λ m n hm2=>⟨m,n.at λ o e=>hk D o (I.mineTb (.inl hD)) (λ q=>hm (q▸.inl hD)) e,λ j x e=>slot j _ (hm2 j x e)⟩
  cells:=λ j c e=>by refine AF (I.cells j c e) λ v H2 h3=>?_;refine AF H2 λ o h1 h2=>?_;exact⟨v,⟨o,hk c o (I.mineTb (.inr ⟨j,e⟩)) (λ q=>hm (q▸.inr ⟨j,e⟩)) h1,h2⟩,slot j _ h3⟩
  owns:=λ j zs e=>by
   by_cases hj:j=i
   ·subst hj;rcases CY with e2|e2
    ·rw[e2] at e;cases e;exact⟨hb,hm,hz,vs,hl,AI.mono (.refl _) g'.cls (λ b o z y=>Gp hi y) hr⟩
    ·rw[e2] at e;cases e
   ·rw[AU hj] at e;refine CA (I.owns j zs e) λ h1 h2 h3 H=>?_;refine AF H λ us H2 h5=>?_;obtain⟨n,h4⟩:=H2;exact⟨h1,h2,h3,us,⟨n,hk _ _ (I.ownTb e) (λ q=>hj (I.apart j i zs xs e hi q)) h4⟩,ups _ _ h5⟩
  ownY:=λ j zs e=>by refine Aw (own j zs e) λ us e=>?_;exact I.ownY j us e
  apart:=λ j k zs us e1 e2 e3=>by refine Aw (own j zs e1) λ z e1=>Aw (own k us e2) λ z e2=>?_;exact I.apart j k _ _ e1 e2 e3},⟨λ b o n m ow e=>hk b o n (λ q=>ow i xs hi q.symm) e,λ j zs e=>?_,hge,hos,thr⟩⟩
 exact Aw (own j zs e) λ us e=>.inl ⟨j,us,e,rfl⟩
theorem Gx(N:AJ K C env){z:Str}{p pos:Pos}{xs:List Ac}{ks:List Ka}{key:Option Nat}{f:Ad}{AR:Af->List Ad->Prop}(I:AX mg mb C J U s)
  (hp:∀x∈xs,Bo x) (hk:VT K key ks) (hk0:xs=[]->ks=[])
  (hn:∀(Q:Ad->Af->Prop) (E:Ad->Af->Prop),Q f s->As (An pw w) A (AM (.Name z p) env) Q E s)
  (hx:Ok mg mb w A s (yV (MX pos (Gh xs env))) AR)
  (hkp:∀s',GI mg mb s'->∃k,(k=B3\/k=BO\/k=Bt)/\LP (An pw w) s'.heap (Ek f) k)
  (hc:∀s'1 vs,AX mg mb C J U s'1->C7 s s'1->AR s'1 vs->As (An pw w) A (C2 f vs (Kh key)) Q E s'1):As (An pw w) A (AM (.Call (.Name z p) xs ks pos) env) Q E s:=by
 refine GD (hn _ _ ?_);have hps:(MX pos (Gh xs env)).any (·.1)=Ai:=LC hp;have fin:∀s'1 vs,GI mg mb s'1->C7 s s'1->AR s'1 vs->(∃k,(k=B3\/k=BO\/k=Bt)/\LP (An pw w) s'1.heap (Ek f) k)/\As (An pw w) A (C2 f ([]++vs) (Kh key)) Q E s'1:=
  λ s'1 vs g'1 t'1 r'1=>⟨hkp s'1 g'1,hc s'1 vs (I.step t'1 g'1) t'1 r'1⟩
 induction key with
 |none=>
  subst hk;refine C9 (by show(_||Ai)=Ai;rw[hps];rfl) (λ h hh=>hh) ?_
  induction xs using Aq with
  |nil=>have h2:=hx (λ vs s'=>(∃k,(k=B3\/k=BO\/k=Bt)/\LP (An pw w) s'.heap (Ek f) k)/\As (An pw w) A (C2 f ([]++vs) []) Q E s') E λ s'1 vs g'1 t'1 r'1=>fin s'1 vs g'1 t'1 r'1;unfold evalArgs;refine Ah (A2 h2 (λ vs s' hv=>Ah (At (DI ?_))) λ u u x=>x);exact Ah (At (Ah (At (At hv))))
  |cons y ys=>rw[hp y (.head _) ys env];refine EG ?_;have h2:=hx (λ vs s'=>(λ (a:Args) s'=>(∃k,(k=B3\/k=BO\/k=Bt)/\LP (An pw w) s'.heap (Ek f) k)/\As (An pw w) A (C2 f ([]++a.pos) a.kw) Q E s') ⟨vs,[]⟩ s') E λ s'1 vs g'1 t'1 r'1=>fin s'1 vs g'1 t'1 r'1;rw[hp y (.head _) ys env] at h2;exact h2
 |some g=>
  refine Lc hk λ x' p' q' ξ4 hfn=>?_;subst ξ4;refine Db (Ir hfn) λ h1 h2 H=>?_;refine AF H λ i h3 h4=>?_;refine C9 (by rw[hps];rfl) (λ h hh=>hh) ?_
  induction xs using Aq with
  |nil=>exact nomatch hk0 rfl
  |cons y ys=>refine fK rfl (hx _ _ λ s'1 vs g'1 t'1 r'1=>xV (CQ N h1 h2 (I.step t'1 g'1) (Iu g'1 h3 h4) (kwAll_nil (fin s'1 vs g'1 t'1 r'1)))) (hp y (.head _) ys env)
theorem Vh(S:HC mg mb w G n)(hA:BQ (n+1) A){f bis i:Nat}{pn:List Str}(D:LH d pn)(hpn:pn.length=5)(hnd:pn.Nodup)(hbody:G8 (C0 (AA d)) bis (AA d).body){dV kV:Ad}(ob:Mu s.heap f (AA d).name (AA d).name (AA d).args (AA d).body (AA d).scope [] dV kV)
  {key:Option Nat} {xs:List V} {X:V} {v:Ad} {pp:Int} {kx:V} (I:AX mg mb C J U s) (hi:rd U i=.x xs) {ex:List Ad} (hr:AI s.heap (Am C J U) [X,.int 0,.none,P2 key] (v::ex))
  (hbt:∀doc pm cd ct,fN s (NU d dV kV doc pm cd ct) ⟨[.ref (J i),v],Kh key⟩ (pn.zip (.ref (J i)::v::ex))) (hkx:P3 G key X=Aa kx) (hG:G bis [.list xs,kx,.int 0,.none] key=Aa (.int pp)) (hp0:0<=pp) (hpp:pp.toNat<=xs.length) (hz:xs.length<CN) {Q:Ad->Af->Prop} {E:Ad->Af->Prop}
  (k:∀s'3 u,AX mg mb C J (wr U i (.x (JC xs pp.toNat X))) s'3->CT C J U s J (wr U i (.x (JC xs pp.toNat X))) s'3->Q u s'3):As (An pw w) A (C2 (.ref f) [.ref (J i),v] (Kh key)) Q E s:=by
 refine YD D ob hA.room I.gi (by rw[Bl,hr.length,hpn];rfl) hbt λ doc pm c ct o s'2 ho hdat xx=>Vw (ns:=4) D rfl rfl rfl I hi hr (by rw[hpn];rfl) hnd xx λ C' e1 e2 e3 N' I' t'2=>XM N' S (BQ.deeper hA) hbody rfl rfl rfl rfl rfl hkx hG hp0 hpp hz (A1 _) _ s'2 I' _ _ λ s'3 I'3 f'3=>?_;refine CA (I'3.owns 0 (JC xs pp.toNat X) rfl) λ t t hzz H=>?_;refine AF H λ vs hpl hrr=>?_;have fin:=I.setOwn' hi I'3.gi (λ b o nt nb e=>?_) (λ j z e=>f'3.gens j z (t'2.gens j z e)) (f'3.os.trans t'2.os) hpl (AI.mono (.refl _) I'3.gi.cls (λ b o t y=>?_) hrr) hzz
 ·exact k s'3 _ fin.1 fin.2
 ·refine f'3.heap b o nt (λ q=>?_) (λ j ys e' q=>nb ?_) (t'2.keep b o nt e)
  ·rw[e3 b q] at e;exact nn e
  ·exact q.symm
 ·by_cases q:b=J i
  ·exact .inr (.inr ⟨0,_,rfl,q.symm⟩)
  ·exact .inl (by rw[e1];exact⟨y,q⟩)
theorem Q9(N:AJ K C env)(S:HC mg mb w G n)(hA:BQ (n+1) A){f bis i:Nat}{pn:List Str}(hmem:(f,d)∈Fe)(hdc:Dh d pn=Ab)(hnd:pn.Nodup)(hpn:pn.length=5)(hbody:G8 (C0 (AA d)) bis (AA d).body)(hdfl:RR.contains f=Ab)(hbind:GS f d pn)
  {fx zx:Str} {p q pos up:Pos} {ks:List Ka} {key:Option Nat} {xs:List V} {X:V} {pp:Int} {kx:V} (hf:EC K f fx=Ab) (hv:EI K zx i=Ab) (hi:rd U i=.x xs) (hx:Cg mg mb w C A U (AM x env) X) (hp:Bo x) (hk:VT K key ks)
  (hkx:P3 G key X=Aa kx) (hG:G bis [.list xs,kx,.int 0,.none] key=Aa (.int pp)) (hp0:0<=pp) (hpp:pp.toNat<=xs.length) (hz:xs.length<CN):
  D1 mg mb w C A U (DP (.Expr (.Call (.Name fx p) [.Name zx q,x] ks pos) up) env) (.next,wr U i (.x (JC xs pp.toNat X))):=λ J s I Q E k=>by
 refine Db (Ir hf) λ h1 h2 H=>?_;refine AF H λ m h3 h4=>?_;refine Jo ?_ (Hs N) rfl;refine Gx (AR:=λ s' vs=>∃v,vs=[.ref (J i),v]/\A6 s'.heap (Am C J U) X v) N I (OQ (λ z z=>rfl) hp) hk (λ h=>by cases h)
  (λ Q E k=>CQ N h1 h2 I (Iu I.gi h3 h4) k) (λ Q E k=>?_) (λ s' g=>Dy g h3) λ s'1 vs I'1 t'1 ⟨v,e,rv⟩=>?_
 ·refine BA (CZ N hv hi I (DG.one hx hp pos J s I _ _ λ s'1 us g'1 t'1 r'1=>?_)) rfl;refine AF r'1.one λ v H2 rv=>?_;subst H2;exact k s'1 _ g'1 t'1 ⟨v,rfl,rv⟩
 ·subst e;have D:=Ro hdc;refine E1 (I'1.gi.wd.fn _ hmem) λ dV kV FA DO=>?_;have hfill:HW f [.list xs,X] key=Aa [.list xs,X,.int 0,.none,P2 key]:=by unfold HW;rw[if_pos hdfl];rfl
  refine AF (hbind s'1 (λ b=>Am C J U b/\b≠J i) [.list xs,X] [.ref (J i),v] _ key dV kV DO ⟨_,_,rfl,JX I'1 hi,_,_,rfl,rv.mono (.refl _) I'1.gi.cls (λ b o z y=>y.1),rfl⟩ hfill (by rw[hpn];rfl)) λ ex hr' hbt=>Vh S hA D hpn hnd hbody FA.ob I'1 hi ?_ hbt hkx hG hp0 hpp hz λ s'3 u I'3 f'3=>k J s'3 .next I'3 ((CT.of_stp t'1 I'1.gi).trans f'3) rfl;obtain⟨_,_,e1,_,_,_,e2,_,u1,_,e3,q1,u2,_,e4,q2,u3,_,e5,q3,e6⟩:=hr'
  cases e1;cases e2
  rw[show ex=_ from e3,e4,e5,e6];refine⟨v,_,rfl,rv,u1,_,rfl,q1,u2,_,rfl,q2,u3,_,rfl,?_,rfl⟩
  induction key<;>exact q3
set_option backward.match.sparseCases true


set_option backward.match.sparseCases false
noncomputable def Kf:List V->List V->Nat->List V
 |_,left,0=>left
 |.int k::ks,left,n+1=>Kf ks (left.eraseIdx k.toNat) n
 |_,left,_+1=>left
theorem JW:∀(ks left:List V),Kf ks left 0=left
 |[],_=>rfl
 |x::_,_=>by induction x using V.casesOn<;>rfl
theorem MI:∀{ks left rs left':List V},L2 ks left=Aa (rs,left')->rs.length=ks.length/\Kf ks left ks.length=left'/\
  ∀i x,ks[i]?=Aa x->∃k v,x=.int k/\0<=k/\(Kf ks left i)[k.toNat]?=Aa v/\rs[i]?=Aa v/\Kf ks left (i+1)=(Kf ks left i).eraseIdx k.toNat:=@λ I0=>by
 induction I0 with
 |nil=>
  intro left rs left' h
  cases h;exact⟨rfl,rfl,nofun⟩
 |cons x ks IH=>
  intro left rs left' h;refine bK (show((Bb x).bind λ k=>if 0<=k then(left[k.toNat]?).bind λ v=>(L2 ks (left.eraseIdx k.toNat)).map λ r=>(v::r.1,r.2) else Ae)=Aa (rs,left') from h) λ k h0 h1=>?_;have:=B5 h0;subst this;refine iK h1 λ hk h2=>bK h2 λ v hv h3=>mK h3 λ r h4 h5=>?_
  cases h5
  refine Db (IH h4) λ e1 e2 e3=>⟨congrArg (·+1) e1,e2,λ i x hx=>?_⟩
  induction i using A5 with
  |zero=>obtain rfl:=sj hx;exact⟨k,v,rfl,hk,by rw[JW];exact hv,rfl,by rw[JW];exact JW _ _⟩
  |succ i=>exact e3 i x hx
theorem ZG{xs:List V}(h:rd U j=.x xs):wr U j (.x xs)=U:=by
 rw[MF,AK] at h;rw[Ks]
 by_cases q:j<U.length
 ·rw[Ar q] at h;have h:U[j]=.x xs:=h;rw[<-h,List.set_getElem_self]
 ·rw[Cf (by exact Ha q)] at h;cases h
theorem fZ{xs:List V}(h:rd U j=.x xs):j<U.length:=by
 rcases CV j U.length with q|q
 ·exact q
 ·rw[MF,AK,Cf q] at h;cases h
theorem DB{x:LV}(h:j<U.length):rd (wr U j x) j=x:=by rw[MF,Ks,AK,Kb h];rfl
section
theorem U1{l:Aj}{its:Array Ad}{k:Int}{t:Tok}{v:Ad}(hl:s.heap.PlainList l its)(h0:0<=k)(hk:its[k.toNat]?=Aa v)(hsz:its.size<=Gg)
  (hQ:∀h' vs,h'.PlainList l vs->vs.toList=its.toList.eraseIdx k.toNat->B8 l s.heap h'->Q v {s with heap:=h'}):
  As (An pw w) A (C2 (.builtin "list.pop") [.ref l,.int k t]) Q E s:=by
 refine Aw (id hl) λ n0 ho=>?_;have hlt:k.toNat<its.size:=(Array.getElem?_eq_some_iff.mp hk).1;have hfit:=fL h0 (show k<2^63 by have e:Gg=16777216:=rfl;omega);have hsi:E7 k its.size=Aa k.toNat:=by
  unfold E7;have e1:¬k<0:=by exact JM h0
  simp only [e1,if_false];rw[if_pos (by rw[Co,decide_eq_true_eq,decide_eq_true_eq];omega)]
 refine LK PySem.F.slot_list_pop ⟨_,ho,rfl⟩ PySem.F.entry_list_pop (PySem.F.args_list_pop_2 _ _) (MeetsSeq.list_pop_at l its n0 k t k.toNat v hfit hsi hk hsz) ⟨ho,?_⟩;have em:∃n',Bn (λ xs=>xs.eraseIdxIfInBounds k.toNat) {cls:=.type "list",data:=.seq its n0}={cls:=.type "list",data:=.seq (its.eraseIdxIfInBounds k.toNat) n'}:=by simp[Bn]
 refine Aw em λ n' e=>hQ _ _ ⟨n',by rw[ES _ ho (by rw[e];rfl),e]⟩ ?_ (BI ..);simp[Array.eraseIdxIfInBounds,hlt]
theorem AI.erase{h:AV}{Y:Aj->Prop}:∀{xs:List V} {vs:List Ad} (k:Nat),AI h Y xs vs->AI h Y (xs.eraseIdx k) (vs.eraseIdx k)
:=@λ xs=>by
 induction xs with
 |nil=>intro vs k r;subst r;exact rfl
 |cons x xs IH=>
  intro vs k r;refine El r λ v vs e h1 h2=>?_;subst e
  induction k using A5 with
  |zero=>exact h2
  |succ k=>exact⟨v,_,rfl,h1,IH k h2⟩
theorem PT:rE "list" "pop" "list.pop":=⟨GU,PySem.F.slot_list_pop,PySem.F.type_list_pop⟩
section
variable{v:Nat}{ks left rs:List V}
abbrev Jx(U:AQ)(j:Nat)(ks left:List V)(n:Nat):AQ:=wr U j (.x (Kf ks left n))
theorem VC{r:AQ}{m:Nat}(h:m≠v):rd (Du [v] r) m=rd r m:=AU h
theorem oT{r:AQ}:rd (Du [v] r) v=.u:=by rcases CY (U:=r) (i:=v) (x:=.u) with e|e<;>exact e
theorem kR(hj:j<U.length)(hv:v<U.length)(hjv:j≠v){lx px:Str}{p2 p3 ap cp:Pos}{ξ:AV}(h0:EB ap cp=Ab)(h5:EI K' lx j=Ab)(h6:EI K' px v=Ab)(hsz:rs.length<=CN)(hpi:∀i x,ks[i]?=Aa x->∃k v,x=.int k/\0<=k/\(Kf ks left i)[k.toNat]?=Aa v/\rs[i]?=Aa v/\Kf ks left (i+1)=(Kf ks left i).eraseIdx k.toNat):
  Zo mg mb K' J (.one v) B ξ (λ i=>Du [v] (Jx U j ks left i)) (λ i=>rs.take i) ks (λ b=>b=J j) (λ z z=>True) (fF w A [] (.Call (.Attribute (.Name lx p2) "pop" ap) [.Name px p3] [] cp)):=by
 intro C'1 env' D σ W P n x U'1 s' N' hD hDm hB hDB hDT hP hPm hx hb I ac z Q E kk;refine yZ (hpi n x hx) λ k0 u H3 q2 q3 q4 q5=>?_;subst H3;have hb:wr (Du [v] (Jx U j ks left n)) v (.w (.int k0))=U'1:=AE hb;have lenc:U'1.length=U.length:=by rw[<-hb];show(wr (wr (wr U j _) v _) v _).length=_;rw[GO,GO,GO]
 have rm:∀m,m≠v->rd U'1 m=rd (Jx U j ks left n) m:=λ m q=>by rw[<-hb,AU q];exact VC q
 have r1j:rd U'1 j=.x (Kf ks left n):=(rm j hjv).trans (DB hj);have r1v:rd U'1 v=.w (.int k0):=by rw[<-hb];exact DB (by show v<(wr (wr U j _) v _).length;rw[GO,GO];exact hv)
 have r2:∀m,rd (Du [v] (Jx U j ks left (n+1))) m=rd (wr U'1 j (.x (Kf ks left (n+1)))) m\/rd (Du [v] (Jx U j ks left (n+1))) m=.u:=λ m=>by
  by_cases qv:m=v
  ·exact .inr (qv▸oT)
  ·left;rw[VC qv]
   by_cases qj:m=j
   ·rw[qj,DB hj,DB (lenc▸hj)]
   ·rw[AU qj,AU qj,rm m qv,AU qj]
 have avo:∀b,Am (C'1.plus W) J (Du [v] (Jx U j ks left 0)) b->Am (C'1.plus W) J (wr U'1 j (.x (Kf ks left (n+1)))) b:=λ b y=>by
  rcases y with y|y|⟨m,ys,e1,e2⟩
  ·exact .inl y
  ·exact .inr (.inl y)
  ·by_cases qv:m=v
   ·rw[qv,oT] at e1;cases e1
   ·by_cases qj:m=j
    ·exact .inr (.inr ⟨j,_,DB (lenc▸hj),qj▸e2⟩)
    ·rw[VC qv,AU qj] at e1;exact .inr (.inr ⟨m,ys,by rw[AU qj,rm m qv,AU qj];exact e1,e2⟩)
 have oj:Am (C'1.plus W) J (Du [v] (Jx U j ks left 0)) (J j):=.inr (.inr ⟨j,_,(VC hjv).trans (DB hj),rfl⟩);have acS:∀{s'1 s'2:Af},Gy (C'1.plus W) J (Du [v] (Jx U j ks left 0)) D (rs.take n) s'1->GI mg mb s'1->C7 s'1 s'2->Gy (C'1.plus W) J (Du [v] (Jx U j ks left 0)) D (rs.take n) s'2:=λ ac g t=>ac.mv (W:=λ z=>False) (gw:=λ z=>False) g (Mv.of_stp t) (λ h=>h) hDT λ b h=>h.elim;refine Mw.nil (C:=C'1.plus W) (U:=U'1) J s' I _ _ λ s'1 d g'1 t'1 e=>?_;subst e;rw[if_pos rfl];have I'1:=I.step t'1 g'1;refine fJ (J6 rfl) rfl (J0 h0) (CZ N'.plus h5 r1j I'1 ?_);refine CA (I'1.owns j _ r1j) λ z z z H=>?_;refine AF H λ ws hpl1 z=>?_;refine⟨"list","list.pop",PT.pa,PT.sl,PT.ty,hpl1.isList.typeIs,λ b e=>by cases e;refine Aw hpl1 λ n e=>?_;exact⟨_,e,rfl⟩,?_⟩
 refine C9 (P:=λ z=>True) rfl (λ h z=>CM (f:=.builtin "list.pop") (λ z e=>(by cases e)) h) (EG ?_)
 refine DG.one (FN N'.plus h6 r1v) (λ z z=>rfl) cp J s'1 I'1 _ _ λ s'2 us g'2 t'2 r'2=>⟨trivial,?_⟩;refine AF r'2.one λ w' H2 H=>?_;refine Aw H λ t' H2=>?_;subst H2;subst H2;have I'2:=I'1.step t'2 g'2;have ac'2:=acS (acS ac I.gi t'1) g'1 t'2;refine CA (I'2.owns j _ r1j) λ z z hzz H=>?_;refine AF H λ ws hpl2 hr=>?_;have es:ws.size=(Kf ks left n).length:=by rw[<-Ax];exact hr.length
 refine AF (hr.get q3) λ u' hu' hru=>U1 hpl2 q2 (by rw[<-A8];exact hu') (by rw[es,<-Fn];exact hzz) λ h' vs' hpl' hv' hs'=>?_;have st:=I'2.setOwn (tk:=s'2.toks) (ys:=Kf ks left (n+1)) r1j hs' hpl' (by rw[hv',q5];exact hr.erase _) (by rw[q5];exact Ak (List.length_eraseIdx_le ..) hzz);have mj:Mv (λ b=>b=J j) (λ z=>False) s'2 {s'2 with heap:=h'}:=⟨λ b o z q e=>hs'.extBut b o q e,λ z z z e=>e,rfl⟩;have ac3:Gy (C'1.plus W) J (Du [v] (Jx U j ks left 0)) D (rs.take n) {s'2 with heap:=h'}:=ac'2.mv I'2.gi mj (λ e=>I'2.ownY j _ r1j (.inl (e▸hD))) hDT λ b q z=>q▸oj;have htake:rs.take n++[u]=rs.take (n+1):=by refine Aw (List.getElem?_eq_some_iff.mp q4) λ hlt e=>?_;rw[List.take_succ_eq_append_getElem hlt,e]
 refine Qb st.1 hD hDm (hB▸hDB) hDT avo ac3 (st.2.rep I'2.gi hru) (by rw[htake];exact Ak (by rw[Dv];exact OW _ _) hsz) λ s'4 z I'4 ac4 m4=>?_;rw[htake] at ac4;refine kk s'4 (I'4.forget r2) ac4 (((Mv.of_stp (W:=λ z=>False) (gw:=λ z=>False) (t'1.trans t'2)).trans (mj.trans m4)).weak (λ b h=>?_) λ j h=>by rcases h with h|h|h<;>exact h) λ b o q e=>?_
 ·rcases h with h|h|h
  ·exact h.elim
  ·exact .inr (.inr h)
  ·exact .inl h
 ·refine CA (I'4.owns j _ (DB (lenc▸hj))) λ z z z H=>?_;refine AF H λ us H2 z=>?_;obtain⟨n,e⟩:=H2;exact⟨_,q▸e,trivial⟩
end
theorem MP(N:AJ K C env){gx:Str}{elt:Ac}{gens:List Cm}{sc:Scope}{q p:Pos}{l:Nat}(h8:M8 K gx=Ab):DQ (.ListComp elt gens sc q) (Aa (.Name gx p)) l env=pure Ai:=by have hc:=N.cell gx (of_decide_eq_true h8);show(pure (env.blockKind==.function&&env.kindOf gx==Aa .local&&_&&_):Sem Bool)=_;rw[hc,show(Aa Cb==Aa NameKind.local)=Ai from rfl,Bool.and_false,Bool.false_and,Bool.false_and]
theorem U5{left left':List V}{L:Aj}{ws:Array Ad}{h':AV}(I:AX mg mb C J U s)(hl:rd U j=.x left)(hL:s.heap.get? L=Ae)(g':GI mg mb s')(hkp:∀b o,¬Tb b->¬b=J j->s.heap.get? b=Aa o->s'.heap.get? b=Aa o)(hge:∀(j:Nat) x,s.gens[j]?=Aa x->s'.gens[j]?=Aa x)(hos:s'.os=s.os)(hn:∃m,s'.heap.Ns L m)
  (hsb:B8 L s'.heap h') (hpl:s'.heap.PlainList (J j) ws) (hr:AI s'.heap (Am (C.plus λ b=>b=L) J U) left' ws.toList) (hz:left'.length<=CN) {rs:List V} {v:Ad} (rv:A6 s'.heap (Am (C.plus λ b=>b=L) J U) (.list rs) v):
  AX mg mb C J (wr U j (.x left')) {s' with heap:=h'}/\CT C J U s J (wr U j (.x left')) {s' with heap:=h'}/\A6 h' (Am C J (wr U j (.x left'))) (.list rs) v:=by
 refine CA (I.fresh_facts hL) λ hm hy0 hbL hTL=>?_;have hjL:J j≠L:=λ e=>by refine Aw (I.own_there hl) λ o e2=>?_;rw[e,hL] at e2;exact nn e2
 have hYY:∀b o,s'.heap.get? b=Aa o->Am C J U b->Am (C.plus λ b=>b=L) J U b:=λ b o z y=>Be.mpr (.inl y);have kL:∀b o,¬Tb b->¬Am (C.plus λ b=>b=L) J U b->s'.heap.get? b=Aa o->h'.get? b=Aa o:=λ b o n y e=>hsb.extBut b o (λ q=>y (Be.mpr (.inr q))) e;have kk:∀b o,¬Tb b->¬b=J j->s.heap.get? b=Aa o->h'.get? b=Aa o:=λ b o n nj e=>hsb.extBut b o (λ q=>by rw[q,hL] at e;exact nn e) (hkp b o n nj e);have g2:GI mg mb {s' with heap:=h'}:=⟨I.wd0.keep (λ b o n e=>kk b o n (λ q=>by rw[q,(I.owns j _ hl).1] at e;exact nn e) (I.keep b o n e)) (λ b t=>by refine Aw (g'.wd.tb b t) λ vs e=>?_;exact⟨vs,hsb.extBut b _ (λ q=>hTL (q▸t)) e⟩) (g'.wd.ta.mv (D:=λ b=>b=L) g'.wd.tb (λ b o q e=>hsb.extBut b o q e) (λ b q=>q▸hTL) λ b q=>let⟨m,hn⟩:=hn;q▸.ns hn),g'.bare⟩
 have st:=I.setOwn' (s':={s' with heap:=h'}) (ys:=left') hl g2 kk hge hos (hpl.at λ o e=>hsb.extBut _ o hjL e) (AI.monoY kL g'.cls hYY hr) hz;exact⟨st.1,st.2,(A6.monoY kL g'.cls hYY rv).mono (.refl _) g2.cls λ b o z y=>Gp hl y⟩
theorem ZW(N:AJ K C env)(hh:A.handled=Ae){i v k:Nat}{gx lx px px' zx:Str}{sc:Scope}{p1 p2 p3 p4 p5 p6 p7 ap cp:Pos}(h0:EB ap cp=Ab)(h1:F8 K gx i=Ab)(h2:EI K zx k=Ab)(h4:IM K sc [v]=Aa K')(h5:EI K' lx j=Ab)(h6:EI K' px v=Ab)(h7:F8 K' px' v=Ab)(h8:M8 K gx=Ab)
  {left ks rs left':List V} (hl:rd U j=.x left) (hk:rd U k=.w (.list ks)) (hv:v<U.length) (hno:∀ys,rd U v≠.x ys) (hp:L2 ks left=Aa (rs,left')) (hsz:rs.length<=CN):
  D1 mg mb w C A U (DP (.Assign [.Name gx p1] (.ListComp (.Call (.Attribute (.Name lx p2) "pop" ap) [.Name px p3] [] cp) [⟨.Name px' p4,.Name zx p5,[],0⟩] sc p6) p7) env) (.next,wr (wr U j (.x left')) i (.w (.list rs))):=λ J s I Q E kk=>by
 refine Db (MI hp) λ hrl hpl hpi=>?_;have hj:=fZ hl;have hjv:j≠v:=λ e=>by subst e;exact hno _ hl
 refine CG ?_ (MP N h8);rw[Zq];refine YT (vs:=[v]) (t:=.one v) (tg:=.Name px' p4) (xs:=ks) (zs:=λ n=>rs.take n) (RT:=fF w A [] (.Call (.Attribute (.Name lx p2) "pop" ap) [.Name px p3] [] cp)) (ρj:=Jx U j ks left) (Wp:=λ b=>b=J j) (Px:=λ z z=>True) N hh h4 h7 (T8 hh (FN N h2 hk)) (λ z=>rfl) (λ m hm ys=>by rw[List.mem_singleton.mp hm];exact hno ys)
  (λ env' D σ s P E h=>Wu env' D σ s P E h) (by show wr U j (.x (Kf ks left 0))=U;rw[JW];exact ZG hl) rfl (λ n m ys e=>?_) (λ m ys e=>?_) (λ z=>trivial) (λ z z=>trivial) (λ n x hx=>⟨_,rfl⟩) Ae J s I (λ b q=>⟨.inr (.inr ⟨j,left,hl,q.symm⟩),q▸I.ownTb hl⟩) (kR hj hv hjv h0 h5 h6 hsz hpi) _ E λ s' D L C'1 I' avo hkp z hge hos hL hn rv=>?_
 ·by_cases q:m=j
  ·exact⟨left,q▸hl⟩
  ·rw[AU q] at e;exact⟨ys,e⟩
 ·by_cases q:m=j
  ·rw[q];exact⟨_,DB hj⟩
  ·exact⟨ys,by rw[AU q];exact e⟩
 ·refine Aw hn λ m hn=>⟨m,hn,λ h' hsb=>?_⟩;refine CA (I'.owns j left' (by rw[VC hjv,DB hj,hpl])) λ z z hz2 H=>?_;refine AF H λ ws hpl3 hr3=>?_;rw[show rs.take ks.length=rs by rw[<-hrl,OD]] at rv;exact Db (U5 I hl hL I'.gi hkp hge hos ⟨m,hn⟩ hsb hpl3 (AI.mono (.refl _) I'.gi.cls (λ b o z y=>avo b y) hr3) hz2 rv) λ q1 q2 q3=>Mr N h1 q1 q3 λ s'3 I'3 f'3 z=>kk J s'3 .next I'3 (q2.trans f'3) rfl
end
theorem EO.seq{h:AV}{b:Aj}{t:String}{vs:Array Ad}(x:h.get? b=Aa (B1 t vs n)):EO h b:=λ o ws q t e d=>by rw[x] at e;obtain rfl:=sj e;cases d
theorem M2(g:GI mg mb s)(g':GI mg mb s')(t:C7 s s'){b:Aj}(hb:s.heap.get? b=Ae){h':AV}{tk:Nat}(hs:B8 b s'.heap h')(hn:EO s'.heap b):GI mg mb {s' with heap:=h',toks:=tk}/\C7 s {s' with heap:=h',toks:=tk}:=by
 have hk:∀c o,c≠b->s'.heap.get? c=Aa o->h'.get? c=Aa o:=λ c o q e=>hs.extBut c o q e;have hT:¬Tb b:=λ q=>by refine Aw (g.wd.tb b q) λ vs e=>?_;rw[hb] at e;exact nn e
 have kp:DS s.heap h':=λ c o nt e=>hk c o (λ q=>by rw[q,hb] at e;exact nn e) (t.keep c o nt e);exact⟨g'.to1 g.wd t.keep hk hb hT hn,⟨kp,t.gens,t.os⟩⟩
theorem X2(h:BQ (n+1) A):BQ n A.in1.in1:=by obtain⟨h1,h2,h3,h4⟩:=h;exact⟨h1,by show A.depth+n<=850;exact Je h2,by show A.units+1+1+20*n<=9000;omega,h4⟩
theorem aM{Z:Type}{c:Nat->Nat->Bool}{wW:Nat->Nat->(Bool->Af->Prop)->Af->Prop}(hc:∀i j (C:Bool->Af->Prop),i<N->j<N->C (c i j) s->wW i j C s){Q:Z->Af->Prop}:∀(t:KasT Z) (a:Z),aN N c t=Aa a->Q a s->t.kasWp wW Q s
:=λ t=>by
 induction t with
 |ret a=>intro b h q;obtain rfl:=sj h;exact q
 |ask i j k IH=>intro b h q;exact iK h λ hl h2=>hc i j _ hl.1 hl.2 (IH (c i j) b h2 q)
theorem NQ{keys:Array Ad}{vs:List Ad}(h:keys.size=vs.length){i:Nat}(hi:i<vs.length):V0 (keys.zip vs.toArray) i=(keys.getD i .none,vs.getD i .none):=by
 unfold V0;have hz:i<(keys.zip vs.toArray).size:=by rw[Array.size_zip,h,Cw,Nat.min_self];exact hi
 have e1:(keys.zip vs.toArray).getD i (E6,E6)=(keys.zip vs.toArray)[i]:=by rw[Array.getD_eq_getD_getElem?,IA hz];rfl
 rw[e1,Array.getElem_zip];have h1:i<keys.size:=by exact Array.lt_size_left_of_zipWith hz
 simp[Zr,h1,hi]
theorem O7{a kS:Aj}{keys:Array Ad}{e e1:Nat}{st:SortSt}{out:List Ad}{P:Ds->Af->Prop}(g'0:GI mg mb s'0)(g:GI mg mb s)(t:C7 s'0 s)(ha0:s'0.heap.get? a=Ae)(hk0:s'0.heap.get? kS=Ae)(hka:kS≠a)(hk:s.heap.get? kS=Aa (B1 "list" keys e)) (ha:s.heap.get? a=Aa (B1 "list" #[] e1))
  (hks:keys.size<=64) (hout:((arrOf st).map (·.2)).toList=out) (hol:out.length<=64) (hfl:failedOf st=Ae)
  (h:∀h' tk c,GI mg mb {s with heap:=h',toks:=tk}->C7 s'0 {s with heap:=h',toks:=tk}->h'.get? a=Aa (B1 "list" out.toArray c)->P (.done (.ret .none)) {s with heap:=h',toks:=tk}):
  As (An pw w) A (ksk_tail a Ai e1 (.ref kS) st) P E s:=by
 have eo:(arrOf st).map (·.2)=out.toArray:=by rw[<-hout]
 have s1:=BI s.heap kS (Bn λ z=>(#[]:Array Ad));have na1:=(s1.2 a hka.symm).trans ha;have s2:=BI (s.heap.update kS (Bn λ z=>(#[]:Array Ad))) a (Bn λ z=>out.toArray);obtain⟨c2,hc2⟩:∃c2,((s.heap.update kS (Bn λ z=>(#[]:Array Ad))).update a (Bn λ z=>out.toArray)).get? a=Aa (B1 "list" out.toArray c2):=⟨_,Tv na1 λ z=>out.toArray⟩;refine A9 (M2 (tk:=s.toks) g'0 g t hk0 s1 (.seq hk)) λ g1 t1=>A9 (M2 (tk:=s.toks) g'0 g1 t1 ha0 s2 (.seq na1)) λ g2 t2=>?_;unfold ksk_tail
 try dsimp only
 rw[eo];refine Ah (OE hk rfl ?_ (by rw[ER];omega) (Bj _));refine Ah (wpAny_letGo ?_);refine Ah (seqEpoch_at na1 rfl ?_);refine Ah (OE na1 rfl ?_ (Bj _) (by rw[if_neg (by decide),Cw,ER];omega));rw[hfl];simp only [bne_self_eq_false,Ii,if_false];exact At (h _ _ c2 g2 t2 hc2)
theorem Q7{vs:List Ad}{ns:List Int}(h:UG vs ns):∀{i:Nat},i<ns.length->∃t,vs.getD i .none=.int (ns.getD i 0) t:=by
 induction h with
 |nil=>intro i hi;cases hi
 |@cons n t vs ns h ih=>
  intro i hi
  induction i using A5 with
  |zero=>exact⟨t,rfl⟩
  |succ i=>exact Aw (ih (by simpa using hi)) λ u e=>⟨u,by simpa using e⟩
theorem WM{a kS:Aj}{keys:Array Ad}{e e1:Nat}{vs:List Ad}{ns:List Int}{p:Array Nat}{P:Ds->Af->Prop}(g'0:GI mg mb s'0)(g:GI mg mb s)(t:C7 s'0 s)(ha0:s'0.heap.get? a=Ae)(hk0:s'0.heap.get? kS=Ae)(hka:kS≠a)(hk:s.heap.get? kS=Aa (B1 "list" keys e)) (ha:s.heap.get? a=Aa (B1 "list" #[] e1))
  (hi:UG keys.toList ns) (hlen:ns.length=vs.length) (h2:2<=vs.length) (h64:vs.length<64) (hp:aN vs.length (λ i j=>decide (ns.getD i 0<ns.getD j 0)) (kas_sort vs.length)=Aa p) (hpl:∀i∈p.toList,i<vs.length)
  (h:∀h' tk c,GI mg mb {s with heap:=h',toks:=tk}->C7 s'0 {s with heap:=h',toks:=tk}->h'.get? a=Aa (B1 "list" (p.toList.map λ i=>vs.getD i .none).toArray c)->p.size=vs.length->P (.done (.ret .none)) {s with heap:=h',toks:=tk}):
  As (An pw w) A (fO a Ai vs.toArray e1 (.ref kS) keys) P E s:=by
 have hsz:keys.size=vs.length:=by
  have h1:=hi.length;rw[Ax] at h1
  omega
 have hzs:(keys.zip vs.toArray).size=vs.length:=by rw[Array.size_zip,hsz,Cw,Nat.min_self]
 unfold fO
 try dsimp only
 rw[if_neg (by decide),if_neg (by rw[Cw];exact Nat.not_lt.mpr h2),if_neg (by rw[Cw];exact Nat.not_lt.mpr h2)];rw[ksk_kind hi (by rw[hsz];exact h2)];refine Ah (At ?_);have est:Wb Qw (if Ai=Ab then(keys.zip vs.toArray).reverse else keys.zip vs.toArray) #[] 7 Ae=kas_st Qw (keys.zip vs.toArray) (List.toArray (Bp vs.length)):=by rw[if_neg (by decide)];have e:=kas_range (keys.zip vs.toArray);rw[hzs] at e;show Wb Qw (keys.zip vs.toArray) #[] 7 Ae=Wb Qw ((List.toArray (Bp vs.length)).map (V0 (keys.zip vs.toArray))) #[] 7 Ae;rw[e]
 have ask:(kas_sort vs.length).kasWp (kas_cmp pw w A Qw (keys.zip vs.toArray)) (λ q s'=>q=p/\s'=s) s:=by
  refine aM (λ i j C hi' hj' hC=>?_) _ p hp ⟨rfl,rfl⟩;unfold kas_cmp;rw[NQ hsz hi',NQ hsz hj'];refine Aw (Q7 hi (by exact F6 hi' (hlen.symm))) λ t1 e1=>Aw (Q7 hi (by exact F6 hj' (hlen.symm))) λ t2 e2=>?_;have k1:keys.getD i .none=.int (ns.getD i 0) t1:=by rw[<-e1];simp[Zr,List.getD,show i<keys.size by exact F6 hi' (hsz.symm)]
  have k2:keys.getD j .none=.int (ns.getD j 0) t2:=by rw[<-e2];simp[Zr,List.getD,show j<keys.size by exact F6 hj' (hsz.symm)]
  show As _ _ (keyLt' Qw (keys.getD i .none) (keys.getD j .none)) _ _ _;rw[k1,k2];exact kat_lt_int hC
 have CD:=kas_runs (E:=E) (Q:=λ z st' s'=>∃q:Array Nat,q.size=vs.length/\arrOf st'=q.map (V0 (keys.zip vs.toArray))/\failedOf st'=Ae/\q=p/\s'=s) h2 h64 (λ p' st' s' a1 a2 a3 a4=>⟨p',a1,a2,a3,a4.1,a4.2⟩) ask;rw[<-est] at CD;refine Ah (A2 CD ?_ λ z z e=>e)
 rintro ⟨⟨⟩,st'⟩ s' ⟨q,hq,har,hf,rfl,rfl⟩
 try dsimp only
 have hout:((arrOf st').map (·.2)).toList=q.toList.map λ i=>vs.getD i .none:=by rw[har,Array.map_map,Array.toList_map];exact HN λ i hi'=>by show(V0 (keys.zip vs.toArray) i).2=_;rw[NQ hsz (hpl i hi')]
 exact O7 g'0 g t ha0 hk0 hka hk ha (by omega) hout (by rw[Ag,Ax,hq];exact Je h64) hf λ h' tk c g' t' e'=>h h' tk c g' t' e' hq
theorem US{a kS:Aj}{keys:Array Ad}{e e1:Nat}{vs:List Ad}{ns:List Int}{P:Ds->Af->Prop}(g'0:GI mg mb s'0)(g:GI mg mb s)(t:C7 s'0 s)(ha0:s'0.heap.get? a=Ae)(hk0:s'0.heap.get? kS=Ae)(hka:kS≠a)(hk:s.heap.get? kS=Aa (B1 "list" keys e)) (ha:s.heap.get? a=Aa (B1 "list" #[] e1))
  (hi:UG keys.toList ns) (hlen:ns.length=vs.length) (h2:vs.length<2)
  (h:∀h' tk c,GI mg mb {s with heap:=h',toks:=tk}->C7 s'0 {s with heap:=h',toks:=tk}->h'.get? a=Aa (B1 "list" vs.toArray c)->P (.done (.ret .none)) {s with heap:=h',toks:=tk}):
  As (An pw w) A (fO a Ai vs.toArray e1 (.ref kS) keys) P E s:=by
 have hsz:keys.size=vs.length:=by
  have h1:=hi.length;rw[Ax] at h1
  omega
 unfold fO
 try dsimp only
 rw[if_neg (by decide),if_pos (by rw[Cw];exact h2),if_pos (by rw[Cw];exact h2)];refine Ah (At ?_);rw[StateT.run_pure];refine Ah (At ?_)
 try dsimp only
 rw[if_neg (by decide)];refine O7 g'0 g t ha0 hk0 hka hk ha (by omega) ?_ (by omega) rfl h;rw[Array.toList_map,Array.toList_zip];exact List.map_snd_zip (by have e3:=Ax (xs:=keys);exact Kn (hsz.symm))
set_option maxHeartbeats 1000000
theorem SI{g:Nat}:∀{xs:List V} {ks:List (Int×V)},Lq G g xs=Aa ks->(ks.map (·.1)).length=xs.length/\∀(j:Nat) (x:V),xs[j]?=Aa x->∃k,(ks.map (·.1))[j]?=Aa k/\G g [x] Ae=Aa (.int k):=@λ I0=>by
 induction I0 with
 |nil=>intro ks h;obtain rfl:=sj h;exact⟨rfl,nofun⟩
 |cons x xs IH=>
  intro ks h;refine bK (show(((G g [x] Ae).bind Bb).bind λ k=>(Lq G g xs).map λ ks=>(k,x)::ks)=Aa ks from h) λ k h1 h2=>mK h2 λ ks' h3 h4=>?_;subst h4;refine bK h1 λ u h5 h6=>?_;have:=B5 h6;subst this;refine A9 (IH h3) λ e1 e2=>⟨by rw[D3,Bl,Bl,e1],λ j y hy=>?_⟩
  induction j using A5 with
  |zero=>obtain rfl:=sj hy;exact⟨k,rfl,h5⟩
  |succ j=>exact e2 j y hy
theorem UR{a kS:Aj}{e1:Nat}{vs:List Ad}{xs:List V}{ns:List Int}{g:Nat}{Y:Aj->Prop}{P:Ds->Af->Prop}(S:HC mg mb w G n)(hA:BQ n A)(g'0:GI mg mb s'0)(gs:GI mg mb s)(t:C7 s'0 s)(hY:∀b,Y b->∃o,s'0.heap.get? b=Aa o)(hr:AI s'0.heap Y xs vs)
  (ha0:s'0.heap.get? a=Ae) (hk0:s'0.heap.get? kS=Ae) (hka:kS≠a) (hk:s.heap.get? kS=Aa (B1 "list" #[] 0)) (ha:s.heap.get? a=Aa (B1 "list" #[] e1)) (hkT:¬Tb kS) (haT:¬Tb a)
  (hlen:ns.length=xs.length) (h64:vs.length<64) (hns:∀(j:Nat) (x:V),xs[j]?=Aa x->∃k,ns[j]?=Aa k/\G g [x] Ae=Aa (.int k))
  (h:∀s' kA e,GI mg mb s'->C7 s'0 s'->s'.heap.get? kS=Aa (B1 "list" kA e)->s'.heap.get? a=Aa (B1 "list" #[] e1)->UG kA.toList ns->As (An pw w) A (fO a Ai vs.toArray e1 (.ref kS) kA) P E s'):
  As (An pw w) A (ksk_rest a (.ref g) Ai vs.toArray e1 (.ref kS)) P E s:=by
 have hvl:vs.length=xs.length:=hr.length;unfold ksk_rest;refine Ah (OZ ?_)
 first
  |rw[List.forIn_toArray]
  |(rw[<-Array.forIn_toList];simp only [Cy])
  |rw[<-Array.forIn_toList]
 refine Ah (ksk_fold (λ i s'=>∃kA e,GI mg mb s'/\C7 s'0 s'/\s'.heap.get? kS=Aa (B1 "list" kA e)/\s'.heap.get? a=Aa (B1 "list" #[] e1)/\UG kA.toList (ns.take i)) vs 0 s ⟨#[],0,gs,t,hk,ha,by simpa using IntsAre.nil⟩ ?step ?done)
 case step=>
  rintro j v s' hv ⟨kA,e,g',t',hk',ha',hi⟩
  simp only [CW] at hi ⊢;have hj:j<vs.length:=(List.getElem?_eq_some_iff.mp hv).1;have hx:xs[j]?=Aa xs[j]:=Ar (by exact F6 hj hvl);refine AF (hns j _ hx) λ k hkj hG=>?_;have hz:kA.size<=vs.length:=by
   have h1:=hi.length;rw[Ax,Dv] at h1
   omega
  have hY':∀b,Y b->∃o,s'.heap.get? b=Aa o:=λ b y=>FC g' t' (hY b y);refine Ah (Zs (S.ok g [xs[j]] Ae (.int k) hG A s' Y [v] hA g' hY' ⟨v,[],rfl,(hr.nth hx hv).step g'0 t',rfl⟩ _ _ λ s'' u g'' t'' ru=>?_));refine iE ru λ t2=>?_
  try dsimp only
  have nk:=t''.keep _ _ hkT hk';have na:=t''.keep _ _ haT ha';have s1:=BI s''.heap kS (Bn (·.push (.int k t2)));obtain⟨c2,hc2⟩:∃c2,(s''.heap.update kS (Bn (·.push (.int k t2)))).get? kS=Aa (B1 "list" (kA.push (.int k t2)) c2):=⟨_,Tv nk (·.push (.int k t2))⟩;have ek:ns.take (j+1)=ns.take j++[k]:=by rw[List.take_add_one,hkj];simp
  have ea:(kA.push (Value.int k t2)).toList=kA.toList++[Value.int k t2]:=by simp
  refine A9 (M2 (tk:=s''.toks) g'0 g'' (t'.trans t'') hk0 s1 (.seq nk)) λ g3 t3=>Ah (OE nk rfl ?_ (by rw[ER];omega) (Ak (Kn (Array.size_push ..)) (by rw[ER];omega)));exact At ⟨rfl,kA.push (.int k t2),c2,g3,t3,hc2,(s1.2 a hka.symm).trans na,by rw[ea,ek];exact ksk_snoc hi⟩
 case done=>
  rintro s' ⟨kA,e,g',t',hk',ha',hi⟩
  have hk2:UG kA.toList ns:=by have e3:ns.take (0+vs.length)=ns:=Dn (by omega);rw[e3] at hi;exact hi
  try dsimp only
  refine Ah (listItems_at hk' rfl ?_);exact h s' kA e g' t' hk' ha' hk2
theorem UQ{l:Aj}{vs:Array Ad}{xs ys:List V}{ks:List (Int×V)}{g:Nat}{Y:Aj->Prop}(S:HC mg mb w G n)(hA:BQ (n+1) A)(gs:GI mg mb s)(hY:∀b,Y b->∃o,s.heap.get? b=Aa o)(hl:s.heap.PlainList l vs)(hr:AI s.heap Y xs vs.toList)
  (h64:xs.length<64) (hks:Lq G g xs=Aa ks) (hys:Nr (ks.map (·.1)) xs=Aa ys):Ok mg mb w A s (C2 (.builtin "sorted") [.ref l] [("key",.ref g)]) λ s' v=>A6 s'.heap Y (.list ys) v:=λ Q E k=>by
 refine A9 (SI hks) λ hkl hkg=>?_;have hvl:vs.toList.length=xs.length:=hr.length;refine call_function_entry_kw kind_sorted plain_sorted entry_sorted (ksk_s1 _ _) ?_;unfold Builtin.«sorted»;refine Ah (m:=checkCount "sorted" 1 1 _) (At ?_);have hll:s.heap.IsList l vs.toList.toArray:=by rw[Array.toArray_toList];exact hl.isList
 refine Ah (collect_list hll ?_ (by rw[ER];omega));refine Ah (wpAny_newList ?_ (by rw[ER];omega));have hsz:((s.heap.push (B1 "list" #[] 0)).update s.heap.objs.size (Bn (·++vs.toList.toArray))).objs.size=s.heap.objs.size+1:=by rw[Heap.size_update,xX]
 have hoL:(((s.heap.push (B1 "list" #[] 0)).update s.heap.objs.size (Bn (·++vs.toList.toArray))).push (B1 "list" vs.toList.toArray 0)).get? (s.heap.objs.size+1)=Aa (B1 "list" vs.toList.toArray 0):=by rw[<-hsz];exact AW _ rfl
 have keep:∀b o,s.heap.get? b=Aa o->(((s.heap.push (B1 "list" #[] 0)).update s.heap.objs.size (Bn (·++vs.toList.toArray))).push (B1 "list" vs.toList.toArray 0)).get? b=Aa o:=λ b o q=>by have hlt:b<s.heap.objs.size:=AT q;rw[Heap.get?_push_ne _ _ _ (by rw[hsz];exact Ci (GC hlt)),Heap.get?_update_ne _ _ _ _ (Ci hlt),Heap.get?_push_ne _ _ _ (Ci hlt)];exact q
 show As _ _ _ _ _ {s with heap:=((s.heap.push (B1 "list" #[] 0)).update s.heap.objs.size (Bn (·++vs.toList.toArray))).push (B1 "list" vs.toList.toArray 0)};rw[hsz];generalize hH:((s.heap.push (B1 "list" #[] 0)).update s.heap.objs.size (Bn (·++vs.toList.toArray))).push (B1 "list" vs.toList.toArray 0)=ξ at hoL keep ⊢;have hHs:ξ.objs.size=s.heap.objs.size+2:=by rw[<-hH,xX,hsz]
 have t'1:C7 s {s with heap:=ξ}:=.all keep s.toks;have g'1:GI mg mb {s with heap:=ξ}:=gs.all keep s.toks;generalize hD:s.heap.objs.size+1=D at hoL ⊢;have none0:∀b,s.heap.objs.size<=b->s.heap.get? b=Ae:=λ b hb=>by
  cases e:s.heap.get? b with
  |none=>rfl
  |some o=>exact absurd (AT e) (Nat.not_lt.mpr hb)
 have hD0:s.heap.get? D=Ae:=none0 D (by exact RV hD);have fin:∀s' c,GI mg mb s'->C7 s s'->∀(out:List Ad),s'.heap.get? D=Aa (B1 "list" out.toArray c)->AI s'.heap Y ys out->ys.length<=CN->Q (.ref D) s':=λ s' c g' t' out ho hro hz=>by refine k s' _ g' t' ?_;show A6 s'.heap Y (.list ys) (.ref D);refine⟨hz,D,out.toArray,rfl,λ y=>?_,⟨c,ho⟩,by rw[Cy];exact hro⟩;refine Aw (hY D y) λ o e=>?_;rw[hD0] at e;exact nn e
 refine Ah (DI (wpAny_call_entry_kw slot_list_sort ⟨_,hoL,rfl⟩ entry_list_sort ?body (ksk_l1 _ _)))
 case body=>
  show As (An pw w) A.in1.in1 (Builtin.«list.sort» ⟨[.ref D],[(Fv "key",.ref g)]⟩) _ _ _;rw[ksk_t1];have s1:=BI ξ D (Bn λ z=>(#[]:Array Ad));obtain⟨e1,ho1⟩:∃e1,(ξ.update D (Bn λ z=>(#[]:Array Ad))).get? D=Aa (B1 "list" #[] e1):=⟨_,Tv hoL λ z=>#[]⟩;refine A9 (M2 (tk:=s.toks) gs g'1 t'1 hD0 s1 (.seq hoL)) λ g2 t2=>?_;have hDlt:D<ξ.objs.size:=AT hoL;unfold ksk_tree;refine Ah (listItems_at hoL rfl ?_);refine Ah (OE hoL rfl ?_ (by rw[Cw,ER];omega) (Bj _));refine Ah (seqEpoch_at ho1 rfl ?_);refine Ah (wpAny_newTuple ?_ (by rw[Cy,ER];omega));refine Ah (wpAny_newList ?_ (Bj _));refine DI ?_;have g3:=g2.push (B1 "tuple" vs.toList.toArray 0) s.toks;have t3:C7 s {s with heap:=(ξ.update D (Bn λ z=>(#[]:Array Ad))).push (B1 "tuple" vs.toList.toArray 0)}:=t2.trans (.push (B1 "tuple" vs.toList.toArray 0) s.toks);have g4:=g3.push (B1 "list" #[] 0) s.toks;have t4:=t3.trans (C7.push (s:={s with heap:=(ξ.update D (Bn λ z=>(#[]:Array Ad))).push (B1 "tuple" vs.toList.toArray 0)}) (B1 "list" #[] 0) s.toks);have hkS:((ξ.update D (Bn λ z=>(#[]:Array Ad))).push (B1 "tuple" vs.toList.toArray 0)).objs.size=s.heap.objs.size+3:=by rw[xX,Heap.size_update,hHs]
  generalize hkk:((ξ.update D (Bn λ z=>(#[]:Array Ad))).push (B1 "tuple" vs.toList.toArray 0)).objs.size=kS at hkS ⊢;have hk0:s.heap.get? kS=Ae:=none0 _ (by exact RV (hkS.symm));have hne:kS≠D:=by rw[hkS,<-hD];exact Fw (Nat.add_lt_add_left (by decide) _)
  have nT:∀b,s.heap.get? b=Ae->¬Tb b:=λ b h q=>by refine Aw (gs.wd.tb b q) λ vs e=>?_;rw[h] at e;exact nn e
  refine UR (s'0:=s) (kS:=kS) (a:=D) (e1:=e1) (ns:=ks.map (·.1)) S (X2 hA) gs g4 t4 hY hr hD0 hk0 hne (by rw[<-hkk];exact AW _ rfl) ?_ (nT _ hk0) (nT _ hD0) (by rw[hkl]) (by exact lt_of_eq_of_lt hvl h64) hkg λ s' kA e g' t' hk' ha' hi=>?_
  ·refine AS _ (AS _ ho1)
  ·have hrs:AI s'.heap Y xs vs.toList:=hr.step gs t';unfold Nr at hys
   split at hys
   ·rename_i hlt;obtain rfl:=sj hys;refine US (s'0:=s) (ns:=ks.map (·.1)) gs g' t' hD0 hk0 hne hk' ha' hi (by rw[hkl,hvl]) (by exact lt_of_eq_of_lt hvl hlt) λ h' tk c g6 t6 ho6=>⟨_,rfl,At ⟨_,rfl,?_⟩⟩;exact fin _ c g6 t6 _ ho6 (hr.step gs t6) (Ak (B9 hlt) (show 2<=CN by decide))
   ·rename_i hge;refine bK hys λ p hp h5=>iK h5 λ hall h5=>?_;obtain rfl:=sj h5;have hpl:∀i∈p.toList,i<vs.toList.length:=λ i hi'=>by rw[hvl];exact of_decide_eq_true (Al.mp hall i hi')
    refine WM (s'0:=s) (p:=p) (ns:=ks.map (·.1)) gs g' t' hD0 hk0 hne hk' ha' hi (by rw[hkl,hvl]) (by omega) (by exact lt_of_eq_of_lt hvl h64) (by rw[hvl];exact hp) hpl λ h' tk c g6 t6 ho6 hps=>⟨_,rfl,At ⟨_,rfl,?_⟩⟩;refine fin _ c g6 t6 _ ho6 ?_ (by rw[Ag,Ax,hps];exact Ak (by omega) (show 64<=CN by decide));have hr6:AI h' Y xs vs.toList:=hr.step gs t6;have hgen:∀l:List Nat,(∀i∈l,i<vs.toList.length)->AI h' Y (l.map λ i=>xs.getD i .none) (l.map λ i=>vs.toList.getD i .none):=by
     intro l
     induction l with
     |nil=>intro z;exact rfl
     |cons i l ih=>
      intro hl';have hi1:=hl' i (.head _);refine⟨_,_,rfl,hr6.nth (i:=i) ?_ ?_,ih λ j hj=>hl' j (.tail _ hj)⟩
      ·show xs[i]?=Aa (xs.getD i .none);rw[AK,Ar (by omega)];rfl
      ·show vs.toList[i]?=Aa (vs.toList.getD i .none);rw[AK,Ar hi1];rfl
    exact hgen _ hpl
theorem LZ(S:HC mg mb w G n)(hA:BQ (n+1) A):RK mg mb w G A:=by
 intro K C env U x f y g xs ys ks p q u r N hf hfn hp hx h64 hks hys J s I;refine U7 hf λ h1 h2=>?_;refine C6 (key:=Aa g) (AR:=λ s' vs=>∃l us,vs=[.ref l]/\s'.heap.PlainList l us/\AI s'.heap (Am C J U) xs us.toList) N I (OR hp) ⟨y,q,u,rfl,hfn⟩ (λ h=>by cases h)
  (λ Q E k=>Ee N h1 h2 I (by decide+kernel) (by decide+kernel) (by decide+kernel) k) (λ Q E k=>DG.one hx hp r J s I Q E λ s'1 us g'1 t'1 r'1=>?_) (λ s' g=>CM (f:=.builtin "sorted") (λ z e=>(by cases e)) _) λ s'1 vs I'1 t'1 ⟨l,us,e,hl,hr⟩=>?_
 ·refine E3 r'1.one λ v H2 hz H=>?_;refine Hm H λ l ws H3 hy hl hr=>?_;subst H3;subst H2;exact k s'1 _ g'1 t'1 ⟨l,ws,rfl,hl,hr⟩
 ·subst e;exact UQ S hA I'1.gi I'1.there hl hr h64 hks hys
open Sem (wp)
section
variable{prog:Program}
theorem MH{a:Aj}{g:Nat}{gs:qO}{P:Nat->Af->Af->Prop}{Y:qP}{Q:Option Ad->Af->Prop}(hh:A.handled=Ae)
  (hl:s.heap.NoLimit) (hroom:A.depth<CH)
  (hg:s.heap.IsGen a g) (hgs:s.gens[g]?=Aa gs)
  (hgo:gs.Goes (An prog w) A.in1 (λ n s'0 r s'1=>r=.ok (.ret .none)/\P n s'0 s'1) Y n (.send .none) (s.setGen g .running))
  (hY:∀v s'1 gs',gs'.bare=Ab->Y (n - 1) (s.setGen g .running) v s'1 (λ r' s''=>match n with
    |0=>False
    |m+1=>gs'.Goes (An prog w) A.in1 (λ n s'0 r s'1=>r=.ok (.ret .none)/\P n s'0 s'1) Y m r' s'')->Q (Aa v) (s'1.setGen g gs'))
  (hP:∀s'1,P n (s.setGen g .running) s'1->∀h',(∀b o,s'1.heap.get? b=Aa o->h'.get? b=Aa o)->Q Ae {s'1.setGen g .finished with heap:=h'}):
  As (An prog w) A (D7 (.ref a)) Q E s:=by
 unfold D7;refine Ah (Zs (GJ (name:=Fv "__next__") hg.typeIs slot_gen_next
  (K1 slot_gen_next hg.typeIs entry_gen_next ?_ (args_gen_next _))))
 show As _ A.in1 (Builtin.Generator.genWake (.ref a) (.send .none)) _ _ s;unfold Builtin.Generator.genWake;refine Ah (DI (wpAny_genNumber hg (Ah (wpAny_genState hgs ?_))))
 induction gs with
 |running=>exact hgo.elim
 |finished=>exact hgo.elim
 |_=>
  refine Ah (wpAny_roomToWake hl hroom ?_);show As _ A.in1 (.resume g (.send .none) [] _) _ _ s;refine wpAny_resumeQ hgs hgo (λ x s'1 hx=>?_) (λ v s'1 gs' hb hv=>?_)
  ·refine A9 hx λ ξ1 hp=>?_;subst ξ1;show As _ A.in1 (newExc (.type "StopIteration") []>>=_) _ _ _;refine Ah ?_;simp only [newExc,newTuple];refine Ah (Hb ?_ (by size_fits));refine Ah (m:=M0 _ _) (qM (a:=E6) (by first|rfl|(simp only [M0];rfl)) ?_)
   refine Hb ?_ (by size_fits);simp only [raiseNew];refine Ah (Ah (Zt ?_))
   first|rw[show A.in1.handled=Ae from hh]|rw[hh]
   refine RW<|Ah (RN (T:="StopIteration") (b:=Ab) ⟨_,AW _ rfl,rfl⟩ isSubtype_stop ?_);exact At (hP s'1 hp _ λ b o hb=>AS _ (AS _ hb))
  ·exact At ⟨v,rfl,At (hY v s'1 gs' hb hv)⟩
end
section
variable{prog:Program}{R:GenEnd}{Y:qP}{c:Code}{fs:List Frame}
 {K:Gj->Sem Ds} {ξ:Ad->Sem Ds} {gd:Bool->Bool} {lv:List Ad->List Ad}
theorem Sl{test:Ac}{body orelse:List CU}{pos:Pos}
  (h:As (An prog w) (A.over c fs) (isTrue test env (AM test env)) (λ b s'=>if b=Ab then Seg (An prog w) A R Y n s'0 c ((B4 body env).wrap K ξ gd lv) fs s' else Seg (An prog w) A R Y n s'0 c ((B4 orelse env).wrap K ξ gd lv) fs s') (λ x s'=>Seg (An prog w) A R Y n s'0 c (ξ x) fs s') s):
  Seg (An prog w) A R Y n s'0 c ((DP (.If test body orelse pos) env).wrap K ξ gd lv) fs s:=by
 have e:DP (.If test body orelse pos) env=(do HZ pos;if <-isTrue test env (AM test env) then B4 body env else B4 orelse env):=rfl;rw[e];show Seg _ A R Y n s'0 c (.at pos λ z=>((isTrue test env (AM test env)>>=λ b=>if b=Ab then B4 body env else B4 orelse env):Sem Gj).wrap K ξ gd lv) fs s;refine seg_at ?_;rw[D2,FY];refine Ig (A2 h (λ b s' hb=>?_) λ z z x=>x)
 induction b with
 |true=>exact hb
 |false=>exact hb
theorem aI{target iter:Ac}{body:List CU}{pos:Pos}(hs:∀x,BB iter env x=pure x)
  (h:As (An prog w) (A.over c fs) (AM iter env) (λ x s'1=>As (An prog w) (A.over c fs) (MZ x) (λ it s'2=>∀p,Seg (An prog w) A R Y n s'0 (.forLoop target it body [] env) ((An prog w).den (.forLoop target it body [] env))
   (.ret (λ r=>((match r with|.ok f=>(.pure f:Sem Gj)|.error e=>.raise e).onRaise λ (x:Ad)=>do
    if(<-field x 1)==E6 then unsupported "frame.own-activation:exception-without-traceback"
    K2 x env.frame).wrap K ξ gd lv) Ae (gd Ai) (lv []) c p []::fs) s'2) (λ x s'=>Seg (An prog w) A R Y n s'0 c (ξ x) fs s') s'1) (λ x s'=>Seg (An prog w) A R Y n s'0 c (ξ x) fs s') s):
  Seg (An prog w) A R Y n s'0 c ((DP (.For target iter body [] pos) env).wrap K ξ gd lv) fs s:=by
 show Seg _ A R Y n s'0 c (.at pos λ z=>((AM iter env>>=λ x=>BB iter env x>>=λ x=>HZ iter.pos>>=λ z=>UE [x] (MZ x)>>=λ it=>runOwn (.forLoop target it body [] env) env):Sem Gj).wrap K ξ gd lv) fs s;refine seg_at ?_;rw[D2,FY];refine Ig (A2 h (λ x s'1 h'1=>?_) λ z z e=>e);rw[hs x];show Seg _ A R Y n s'0 c (.at iter.pos λ z=>(UE [x] (MZ x)>>=λ it=>runOwn (.forLoop target it body [] env) env).wrap K ξ gd lv) fs s'1;refine seg_at ?_;rw[D2,FY];refine Ig (DI (A2 h'1 (λ it s'2 h'2=>?_) λ z z e=>e));exact seg_call h'2
theorem ME{target:Ac}{it:Ad}{body:List CU}
  (h:As (An prog w) (A.over (.forLoop target it body [] env) fs) (D7 it) (λ r s'1=>match r with
   |none=>Seg (An prog w) A R Y n s'0 (.block [] env) ((An prog w).den (.block [] env)) fs s'1
   |some v=>As (An prog w) (A.over (.forLoop target it body [] env) fs) (Bh target it v) (λ z s'2=>As (An prog w) (A.over (.forLoop target it body [] env) fs) (EH target env v) (λ z s'3=>
     Seg (An prog w) A R Y n s'0 (.forLoop target it body [] env) ((B4 body env).wrap (λ f=>match f with
      |.next|.cont=>.pure (.again (.forLoop target it body [] env))
      |.brk=>.pure (.done .next)
      |.ret v=>.pure (.done (.ret v))) (λ e=>(do Jc e env;IB e:Sem Unit).wrap (λ z=>.raise e) .raise id id) id id) fs s'3) (λ z z=>False) s'2) (λ z z=>False) s'1) (λ z z=>False) s):
  Seg (An prog w) A R Y n s'0 (.forLoop target it body [] env) ((An prog w).den (.forLoop target it body [] env)) fs s:=by
 show Seg _ A R Y n s'0 _ ((forTurn target it body [] env).onRaise (λ x=>do Jc x env;IB x)) fs s;unfold forTurn;rw[Sem.onRaise_eq_wrap];show Seg _ A R Y n s'0 _ (.at target.pos λ z=>((D7 it).onRaise (λ z=>HZ {target.pos with line:=0})>>=_).wrap _ _ _ _) fs s;refine seg_at ?_;rw[D2,FY];refine Ig (wpAny_onRaise (A2 h (λ r s'1 h'1=>?_) λ z z e=>e.elim))
 induction r with
 |none=>exact seg_again rfl h'1
 |some v=>
  show Seg _ A R Y n s'0 _ ((Bh target it v>>=λ z=>_:Sem Ds).wrap _ _ _ _) fs s'1;rw[D2,FY];refine Ig (A2 h'1 (λ z s'2 h'2=>?_) λ z z e=>e.elim);show Seg _ A R Y n s'0 _ ((EH target env v>>=λ z=>_:Sem Ds).wrap _ _ _ _) fs s'2;rw[D2,FY];refine Ig (A2 h'2 (λ z s'3 h'3=>?_) λ z z e=>e.elim);show Seg _ A R Y n s'0 _ ((B4 body env>>=λ f=>_:Sem Ds).wrap _ _ _ _) fs s'3;rw[D2,FY];rw[Sem.wrap_congr (B4 body env) _ _ (K':=λ f=>match f with
      |.next|.cont=>.pure (.again (.forLoop target it body [] env))
      |.brk=>.pure (.done .next)
      |.ret v=>.pure (.done (.ret v))) (H':=(λ e=>(do Jc e env;IB e:Sem Unit).wrap (λ z=>.raise e) .raise id id))
    (λ f=>by induction f<;>rfl)
    (λ e=>by first|exact Sem.bind_eq_wrap _ _|(show(do Jc e env;IB e:Sem Unit).bind (λ z=>.raise e)=_;rw[Sem.bind_eq_wrap]))]
  exact h'3
end
noncomputable def V.prim:V->Bool
 |.none=>Ab
 |.bool _=>Ab
 |.int _=>Ab
 |.str _=>Ab
 |_=>Ai
theorem A6.prim{h h':AV}{Y Y':Aj->Prop}{x:V}{v:Ad}(hp:x.prim=Ab)(r:A6 h Y x v):A6 h' Y' x v:=by induction x using V.casesOn<;>first|exact r|exact nf hp
def KX(U:AQ):Prop:=∀j,rd U j=.u\/∃V,rd U j=.w V/\V.prim=Ab
theorem Slot.prim{h h':AV}{Y Y':Aj->Prop}{a:Aj}{L:LV}{o:Option Ad}(hL:L=.u\/∃V,L=.w V/\V.prim=Ab)(r:Slot h Y a L o):Slot h' Y' a L o:=by
 rcases hL with rfl|⟨V,rfl,hp⟩
 ·trivial
 ·induction o with
  |none=>exact r
  |some v=>exact A6.prim hp r
theorem KX.noOwn(hp:KX U){xs:List V}(e:rd U j=.x xs):False:=by rcases hp j with q|⟨V,q,_⟩<;>rw[q] at e<;>cases e
theorem AX.jump(I:AX mg mb C J U s)(hp:KX U)(g:GI mg mb s')(kb:DS C.base s'.heap)(hk:∀b o,(C.mine b\/C.Y0 b)->s.heap.get? b=Aa o->s'.heap.get? b=Aa o):AX mg mb C J U s' where
 gi:=g
 keep:=kb
 wd0:=I.wd0
 y0:=λ b h=>by refine Aw (I.y0 b h) λ o e=>?_;exact⟨o,hk b o (.inr h) e⟩
 tb:=I.tb
 new:=I.new
 inj:=I.inj
 dicts:=λ D hD=>by exact AF (I.dicts D hD) λ m n hm=>⟨m,n.at λ o e=>hk D o (.inl (.inl hD)) e,λ i x e=>(hm i x e).prim (hp i)⟩
 cells:=λ i c e=>by refine AF (I.cells i c e) λ v H2 h3=>?_;refine AF H2 λ o h1 h2=>?_;exact⟨v,⟨o,hk c o (.inl (.inr ⟨i,e⟩)) h1,h2⟩,h3.prim (hp i)⟩
 owns:=λ i xs e=>(hp.noOwn e).elim
 ownY:=λ i xs e=>(hp.noOwn e).elim
 apart:=λ i j xs ys e=>(hp.noOwn e).elim
theorem AX.widen{W:Aj->Prop}(I:AX mg mb C J U s)(hp:KX U)(hW:∀b,W b->∃o,s.heap.get? b=Aa o):AX mg mb (C.plus W) J U s where
 gi:=I.gi
 keep:=I.keep
 wd0:=I.wd0
 y0:=λ b h=>h.elim (I.y0 b) (hW b)
 tb:=I.tb
 new:=I.new
 inj:=I.inj
 dicts:=λ D hD=>by exact AF (I.dicts D hD) λ m n hm=>⟨m,n,λ i x e=>(hm i x e).prim (hp i)⟩
 cells:=λ i c e=>by exact AF (I.cells i c e) λ v h1 h3=>⟨v,h1,h3.prim (hp i)⟩
 owns:=λ i xs e=>(hp.noOwn e).elim
 ownY:=λ i xs e=>(hp.noOwn e).elim
 apart:=λ i j xs ys e=>(hp.noOwn e).elim
set_option backward.match.sparseCases true

noncomputable def G0:EZ:=λ z z z=>Ae
theorem Sg:HC mg mb w G0 n:=by
 constructor
 ·intro z z z z h;exact nn h
 ·intro z z z z h;exact nn h
theorem Vz(h:BQ 1 A):Cx mg mb w G0 0 A:=⟨Sg,h.less (Bj _),LZ (n:=0) Sg h⟩
def Ki(mg mb:Str->Option Ad)(W1:Aj->Prop)(B:AV)(items:List V):qP:=λ m s'0 v s'1 kap=>
 (∃x,items[items.length - 1 - m]?=Aa x/\∀Y':Aj->Prop,(∀b,Y' b->W1 b\/∃o,s'0.heap.get? b=Aa o)->A6 s'1.heap Y' x v)/\GI mg mb s'1/\Mv W1 (λ z=>False) s'0 s'1/\(∀b,W1 b->∃o,s'1.heap.get? b=Aa o)/\
 ∀s'',(∀b o,W1 b->s'1.heap.get? b=Aa o->s''.heap.get? b=Aa o)->GI mg mb s''->DS B s''.heap->kap (.send .none) s''
def nN(mg mb:Str->Option Ad)(W1:Aj->Prop)(n:Nat)(s'0 s'1:Af):Prop:=n=0/\GI mg mb s'1/\Mv W1 (λ z=>False) s'0 s'1
def dK(mg mb:Str->Option Ad)(W1:Aj->Prop):GenEnd:=λ n s'0 r s'1=>r=.ok (.ret .none)/\nN mg mb W1 n s'0 s'1
section
variable{K0:Kx}{R:GenEnd}{c:Code}{fs:List Frame}
 {K:Gj->Sem Ds} {ξ:Ad->Sem Ds} {gd:Bool->Bool} {lv:List Ad->List Ad} {W1:Aj->Prop} {items:List V} {B:AV}
structure GT(W1:Aj->Prop)(s'0 s:Af):Prop where
 mv:Mv W1 (λ z=>False) s'0 s
 stay:∀b,(∃o,s'0.heap.get? b=Aa o)->∃o,s.heap.get? b=Aa o
theorem GT.refl:GT W1 s s:=⟨⟨λ z z z z e=>e,λ z z z e=>e,rfl⟩,λ z h=>h⟩
theorem GT.trans(x:GT W1 s'0 s'1)(y:GT W1 s'1 s'2):GT W1 s'0 s'2:=⟨(x.mv.trans y.mv).weak (λ z h=>h.elim id id) λ z h=>h.elim id id,λ b h=>y.stay b (x.stay b h)⟩
theorem Md{ye:Ac}{yp pos:Pos}{x:V}(hfs:splitAtGen fs=Ae)(hgd:gd Ai=Ai)(hfg:fs.any Frame.guarded=Ai)(hco:env.scope.isCoroutine=Ai)(hi:qN env=Ai)(hW1:∀b,(C.mine b\/C.Y0 b)↔W1 b)(hWT:∀b,W1 b->¬Tb b)(hp:KX U)(I:AX mg mb C J U s)(T:GT W1 s'0 s)
  (he:∀W,Cg mg mb w (C.plus W) (A.over c fs) U (AM ye env) x)
  (hx:items[items.length - 1 - n]?=Aa x)
  (hres:∀s'',AX mg mb C J U s''->(∀b o,W1 b->s.heap.get? b=Aa o->s''.heap.get? b=Aa o)->Seg (An pw w) A R (Ki mg mb W1 C.base items) n s'' c (K .next) fs s''):
  Seg (An pw w) A R (Ki mg mb W1 C.base items) (n+1) s'0 c ((DP (.Expr (.Yield (Aa ye) yp) pos) env).wrap K ξ gd lv) fs s:=by
 refine seg_Expr_Yield hfs hgd hfg (he (λ b=>∃o,s'0.heap.get? b=Aa o) J s (I.widen hp T.stay) _ _ λ s' v g' t' rv kap hk=>?_) hco hi;refine⟨⟨x,hx,λ Y' hY'=>rv.mono (.refl _) g'.cls λ b o z y=>Be.mpr ((hY' b y).elim (λ y=>.inl (((hW1 b).mpr y).elim (λ y=>.inr (.inl y)) .inl)) .inr)⟩,g',(T.mv.trans (Mv.of_stp (W:=W1) (gw:=λ z=>False) t')).weak (λ z h=>h.elim id id) (λ z h=>h.elim id id),λ b h=>FC g' t' ?_,λ s'' hkk g'' kb=>hk .none s'' (hres s'' ?_ λ b o h e=>hkk b o h (t'.keep b o (hWT b h) e))⟩
 ·exact(hW1 b).mpr h |>.elim I.mine_there (I.y0 b)
 ·exact(I.step t' g').jump hp g'' kb λ b o h e=>hkk b o ((hW1 b).mp h) e
theorem GT.of_fsp(hp:KX U)(hm:∀b,C.mine b->W1 b)(f:CT C J U s J' U' s'):GT W1 s s':=
 ⟨⟨λ b o n q e=>f.heap b o n (λ h=>q (hm b h)) (λ j xs e'=>(hp.noOwn e').elim) e,λ j x z e=>f.gens j x e,f.os⟩,f.stay⟩
theorem GT.of_stp(g:GI mg mb s')(t:C7 s s'):GT W1 s s':=⟨Mv.of_stp t,λ b h=>FC g t h⟩
theorem tK{p0 p1 p2:V}{cv:LV}(h0:p0.prim=Ab)(h1:p1.prim=Ab)(h2:p2.prim=Ab)(h3:cv=.u\/∃V,cv=.w V/\V.prim=Ab):KX [.w p0,.w p1,.w p2,cv]:=λ j=>by
 match j with
 |0=>exact .inr ⟨_,rfl,h0⟩
 |1=>exact .inr ⟨_,rfl,h1⟩
 |2=>exact .inr ⟨_,rfl,h2⟩
 |3=>exact h3
 |j+4=>exact .inl (rfl)
theorem VO{it:Aj}{x:Str}{t:Tok}{i:Nat}(hh:A.handled=Ae)
  (hit:s.heap.IsStrIter it "str_ascii_iterator" x t i) (hx:x.cps[i]?=Ae)
  (hE:∀h' e,(∀b o,b≠it->s.heap.get? b=Aa o->h'.get? b=Aa o)->(∃o,h'.get? it=Aa o)->(∃o,h'.get? e=Aa o/\o.cls=.type "StopIteration")->E (.ref e) {s with heap:=h'}):
  As (An pw w) A (Builtin.SmallTypes.nextOf (.ref it)) Q E s:=by
 refine E3 (id hit) λ o ho hc hd=>?_;unfold Builtin.SmallTypes.nextOf;refine Ah (GJ (name:=Fv "__next__") hit.typeIs PySem.F.slot_str_ascii_iterator_next
  (K1 PySem.F.slot_str_ascii_iterator_next hit.typeIs PySem.F.entry_str_ascii_iterator_next ?_ (PySem.F.args_str_ascii_iterator_next_1 _)))
 show As _ _ (field (.ref it) 0>>=_) _ _ s;refine Ah (RX ho hd (x:=.str x t) rfl ?_);show As _ _ (field (.ref it) 1>>=_) _ _ s;refine Ah (RX ho hd (x:=.int i 0) rfl ?_);simp only [Cd,hx];refine Ah (OZ (Ah (wpAny_setField ho hd (by simp) (Ah (wpAny_letGo ?_)))));show As _ _ (newExc (.type "StopIteration") []>>=_) _ _ _;refine Ah ?_;simp only [newExc,newTuple];refine Ah (Hb ?_ (by size_fits));refine Ah (m:=M0 _ _) (qM (a:=E6) (by first|rfl|(simp only [M0];rfl)) ?_)
 refine Hb ?_ (by size_fits);simp only [raiseNew];refine Ah (Zt ?_)
 first|rw[show A.in1.handled=Ae from hh]|rw[hh]
 refine Ah (At (RW ?_));exact hE _ _ (((BI ..).extBut.push _).push _) ⟨_,AS _ (AS _ (ES _ ho (Obj.isFreed_of_fields (Obj.data_mapFields hd _))))⟩ ⟨_,AW _ rfl,rfl⟩
theorem YC{it:Aj}{x:Str}{t:Tok}{i:Int}{k:Nat}{old:Ad}{Q:Option Ad->Af->Prop}(hh:A.handled=Ae)(he:IsEnum s.heap e it i old)(hit:s.heap.IsStrIter it "str_ascii_iterator" x t k) (hx:x.cps[k]?=Ae)
  (hQ:∀h',(∀b o,b≠it->s.heap.get? b=Aa o->h'.get? b=Aa o)->(∃o,h'.get? it=Aa o)->Q Ae {s with heap:=h'}):As (An pw w) A (D7 (.ref e)) Q E s:=by
 have hT:s.TypeIs (.ref e) "enumerate":=⟨_,he,rfl⟩;unfold D7;refine Ah (Zs (GJ (name:=Fv "__next__") hT PySem.F.slot_enumerate_next
  (K1 PySem.F.slot_enumerate_next hT PySem.F.entry_enumerate_next ?_ (PySem.F.args_enumerate_next_1 _))))
 show As _ _ (field (.ref e) 2>>=_) _ _ _;refine Ah (RX he rfl (x:=.ref it) rfl ?_);refine Ah (VO hh hit hx λ h' x he' hi' hx'=>?_);refine AF hx' λ o ho hc=>Ah (RN (T:="StopIteration") (b:=Ab) ⟨o,ho,hc⟩ isSubtype_stop ?_);exact At (hQ _ he' hi')
theorem nrE{h:AV}{it:Aj}{k:Int}{old:Ad}(z:IsEnum h e it k old):EO h e:=λ o vs q tk e1 d=>by rw[show h.get? e=_ from z] at e1;obtain rfl:=sj e1;cases d;nofun
theorem nrO{h:AV}{it T:Aj}{k:Int}{x:Ad}(z:IsEnumOut h e it k x T):EO h e:=λ o vs q tk e1 d=>by rw[show h.get? e=_ from z] at e1;obtain rfl:=sj e1;cases d;nofun
theorem nrS{h:AV}{it:Aj}{x:Str}{i:Nat}(z:h.IsStrIter it "str_ascii_iterator" x t i):EO h it:=λ o vs q tk e1 d=>by refine E3 (id z) λ o' z y d'=>?_;rw[z] at e1;obtain rfl:=sj e1;rw[d'] at d;cases d;nofun
structure Zm(C:Er)(W1:Aj->Prop)(e it:Aj):Prop where
 hW1:∀b,(C.mine b\/C.Y0 b)↔W1 b
 hY0:∀b,C.Y0 b↔b=e\/b=it
 hWT:∀b,W1 b->¬Tb b
 hem:¬C.mine e
 him:¬C.mine it
 heB:C.base.get? e=Ae
 hiB:C.base.get? it=Ae
structure Qq(h:AV)(e it:Aj)(l:List Nat)(t:Tok)(j:Nat)(old:Ad):Prop where
 en:IsEnum h e it j old
 st:h.IsStrIter it "str_ascii_iterator" (FZ l) t j
noncomputable def gρ(adr pv:V)(esc:Bool)(cv:LV):AQ:=[.w adr,.w pv,.w (.bool esc),cv]
inductive GB(K:Kx):List CU->Prop
 |mk {t1 y1 w8 w9 q1 w10 e2 w11 t2 q2 w12 e3 w13 y2 w14 w15 w16 w17} (c8:chk K (.v 2) t1=Ab) (c9:chk K (.tup (.cons (.v 1) (.cons (.o2 .a (.c (.str [92])) (.v 3)) .nil))) y1=Ab) (c10:F8 K q1 2=Ab) (c11:chk K (.c (.bool Ai)) e2=Ab) (c12:chk K (.o2 .eq (.v 3) (.c (.str [92]))) t2=Ab) (c13:F8 K q2 2=Ab) (c14:chk K (.c (.bool Ab)) e3=Ab) (c15:chk K (.tup (.cons (.v 1) (.cons (.v 3) .nil))) y2=Ab):GB K [.If t1 [.Expr (.Yield (Aa y1) w8) w9,.Assign [.Name q1 w10] e2 w11] [.If t2 [.Assign [.Name q2 w12] e3 w13] [.Expr (.Yield (Aa y2) w14) w15] w16] w17]
theorem lR{b it:Aj}(h:b∈[e,it]):b=e\/b=it:=(AL.mp h).elim .inl λ h=>.inr (List.mem_singleton.mp h)
theorem to2{b it:Aj}(h:b=e\/b=it):b∈[e,it]:=h.elim (λ h=>h▸.head _) λ h=>h▸.tail _ (.head _)
theorem two{p:Aj->Prop}{b it:Aj}(h:b∈[e,it])(x:p e)(y:p it):p b:=(lR h).elim (λ h=>h▸x) λ h=>h▸y
section
variable{it:Aj}{l:List Nat}{t:Tok}{old:Ad}{lb:List CU}{adr pv:V}{esc:Bool}{cv:LV}
theorem Qq.keep{h h':AV}(g:Qq h e it l t j old)(k1:∀o,h.get? e=Aa o->h'.get? e=Aa o)(k2:∀o,h.get? it=Aa o->h'.get? it=Aa o):Qq h' e it l t j old:=
 ⟨k1 _ g.en,AF g.st λ o ho hr=>⟨o,k2 o ho,hr⟩⟩
theorem Zm.We(L:Zm C W1 e it):W1 e:=(L.hW1 e).mp (.inr ((L.hY0 e).mpr (.inl rfl)))
theorem Zm.Wi(L:Zm C W1 e it):W1 it:=(L.hW1 it).mp (.inr ((L.hY0 it).mpr (.inr rfl)))
theorem Qq.fsp(L:Zm C W1 e it)(hp:KX U)(f:CT C J U s J U' s')(g:Qq s.heap e it l t j old):Qq s'.heap e it l t j old:=
 g.keep (f.heap e · (L.hWT e L.We) L.hem (λ z z q=>(hp.noOwn q).elim)) (f.heap it · (L.hWT it L.Wi) L.him (λ z z q=>(hp.noOwn q).elim))
theorem Qq.stp(L:Zm C W1 e it)(f:C7 s s')(g:Qq s.heap e it l t j old):Qq s'.heap e it l t j old:=
 g.keep (f.keep e · (L.hWT e L.We)) (f.keep it · (L.hWT it L.Wi))
theorem Qq.w1(L:Zm C W1 e it)(g:Qq s.heap e it l t j old)(f:∀b o,W1 b->s.heap.get? b=Aa o->s'.heap.get? b=Aa o):Qq s'.heap e it l t j old:=
 g.keep (f e · L.We) (f it · L.Wi)
theorem Rf(h0:adr.prim=Ab)(h1:pv.prim=Ab)(h3:cv=.u\/∃V,cv=.w V/\V.prim=Ab):KX (gρ adr pv esc cv):=tK h0 h1 rfl h3
theorem Zm.step(L:Zm C W1 e it){h':AV}{tk:Nat}(hp:KX U)(I:AX mg mb C J U s)(hk:∀b o,b∉[e,it]->s.heap.get? b=Aa o->h'.get? b=Aa o)(he:∃o,h'.get? e=Aa o)(hi:∃o,h'.get? it=Aa o)(he0:EO s.heap e)(hi0:EO s.heap it):
  AX mg mb C J U {s with heap:=h',toks:=tk}/\GT W1 s {s with heap:=h',toks:=tk}:=by
 have wrW:∀b,b∈[e,it]->W1 b:=λ b h=>two h L.We L.Wi;have g':GI mg mb {s with heap:=h',toks:=tk}:=I.gi.to I.wd0 I.keep hk (λ b o eb h=>by have q:C.base.get? b=Ae:=two (p:=λ b=>C.base.get? b=Ae) h L.heB L.hiB;rw[q] at eb;exact nn eb) (λ b h=>L.hWT b (wrW b h)) λ b h=>two (p:=EO s.heap) h he0 hi0
 have m:Mv (λ b=>b∈[e,it]) (λ z=>False) s {s with heap:=h',toks:=tk}:=⟨λ b o z q e'=>hk b o q e',λ z z z e'=>e',rfl⟩;have ex:∀b,b∈[e,it]->∃o,h'.get? b=Aa o:=λ b h=>two (p:=λ b=>∃o,h'.get? b=Aa o) h he hi;refine⟨I.mvY m g' (λ b h=>two (p:=λ b=>¬C.mine b) h L.hem L.him) (λ b h=>(L.hY0 b).mpr (lR h)) (λ b h=>two (p:=λ b=>C.base.get? b=Ae) h L.heB L.hiB) ex,⟨m.weak wrW λ z h=>h,λ b ⟨o,e'⟩=>?_⟩⟩
 by_cases q:b∈[e,it]
 ·exact ex b q
 ·exact⟨o,hk b o q e'⟩
structure xK(items xs:List V)(n:Nat):Prop where
 hn:n=xs.length
 hp:∃pre,items=pre++xs
theorem NY{x:V}{xs:List V}(h:xK items (x::xs) n){gC:Prop}(gk:∀m,n=m+1->items[items.length - 1 - m]?=Aa x->xK items xs m->gC):gC:=by
 refine Aw h.hp λ pre e=>gk xs.length h.hn ?_ ⟨rfl,pre++[x],by rw[e,A0];rfl⟩;rw[e,AB,show pre.length+(x::xs).length - 1 - xs.length=pre.length from Nat.add_sub_cancel ..,BY (A1 _),Fy]
 rfl
theorem Yz{ch:Nat}(hc:ch<128):Gr G0 (.o2 .eq (.v 3) (.c (.str [92]))) (gρ adr pv esc (.w (.str [ch])))=Aa (decide (ch=92)):=by
 show((if V.ok 8 (.str [ch])&&V.ok 8 (.str [92]) then Aa (V.bool (V.beq (.str [ch]) (.str [92]))) else Ae).bind truthy)=_;have h1:V.ok 8 (.str [ch])=Ab:=by show([ch].all (·<55296))=Ab;simp;omega
 rw[h1];show Aa ([ch]==[92])=_
 by_cases q:ch=92
 ·subst q;rfl
 ·rw[decide_eq_false q];congr 1;simpa using q
structure GFr(mg mb:Str->Option Ad)(w:B2)(A:Br)(K0:Kx)(C:Er)(env:Env)(W1:Aj->Prop)(e it:Aj)(c:Code)(fs:List Frame):Prop where
 N:AJ K0 C env
 hG:BQ 1 (A.over c fs)
 hfs:splitAtGen fs=Ae
 hfg:fs.any Frame.guarded=Ai
 hco:env.scope.isCoroutine=Ai
 L:Zm C W1 e it
structure xM(mg mb:Str->Option Ad)(w:B2)(A:Br)(C:Er)(J:Nat->Aj)(W1:Aj->Prop)(items:List V)(R:GenEnd)(e it:Aj)(l:List Nat)(t:Tok)(old:Ad)(adr:V)(j:Nat)(ch:Nat)(r:List Nat)(c:Code)(fs:List Frame)(k:Sem Ds):Prop where
 go:∀esc m s' s'5,xK items (FU r (j+1) esc) m->AX mg mb C J (gρ adr (.int j) esc (.w (.str [ch]))) s'5->Qq s'5.heap e it l t (j+1) old->GT W1 s' s'5->Seg (An pw w) A R (Ki mg mb W1 C.base items) m s' c k fs s'5
theorem X7{ch:Nat}{r:List Nat}(hb:GB K0 lb)(F:GFr mg mb w A K0 C env W1 e it c fs)(hgd:gd Ai=Ai)(hadr:adr.prim=Ab)(hch:ch<128)(I:AX mg mb C J (gρ adr (.int j) esc (.w (.str [ch]))) s)(g:Qq s.heap e it l t (j+1) old)(T:GT W1 s'0 s)(hit:xK items (FU (ch::r) j esc) n)
  (k:xM mg mb w A C J W1 items R e it l t old adr j ch r c fs (K .next)):
  Seg (An pw w) A R (Ki mg mb W1 C.base items) n s'0 c ((B4 lb env).wrap K ξ gd lv) fs s:=by
 have X:=Vz (mg:=mg) (mb:=mb) (w:=w) F.hG;have hp:∀esc,KX (gρ adr (.int j) esc (.w (.str [ch]))):=λ esc=>Rf hadr rfl (.inr ⟨_,rfl,rfl⟩);have hmW:∀b,C.mine b->W1 b:=λ b h=>(F.L.hW1 b).mp (.inl h);have hint:=Hs F.N
 cases hb with
 |@mk t1 y1 _ _ q1 _ e2 _ t2 q2 _ e3 _ y2 _ _ _ _ c8 c9 c10 c11 c12 c13 c14 c15=>
 refine CI (Sl (FJ X (.v 2) K0 C env _ t1 esc F.N c8 (by induction esc<;>rfl) J s I _ _ λ s'4 d g'4 t'4 ed=>?_))
 subst ed;have I:=I.step t'4 g'4;have T:=T.trans (GT.of_stp g'4 t'4);have g:=g.stp F.L t'4
 induction d with
 |true=>rw[if_pos rfl];refine NY hit λ m H2 hx hrest=>?_;subst H2;refine CI (Md F.hfs hgd F.hfg F.hco hint F.L.hW1 F.L.hWT (hp _) I T (λ W=>BP X _ K0 (C.plus W) env _ y1 _ F.N.plus c9 rfl) hx λ s'' I'' hkk=>?_);refine CI (Ig (Gf.asg F.N c10 (BP X _ K0 C env _ e2 (.bool Ai) F.N c11 rfl) (Q3 c11) J s'' I'' _ _ λ s'5 I'5 f'5=>?_));exact k.go Ai m s'' s'5 hrest I'5 ((g.w1 F.L hkk).fsp F.L (hp _) f'5) (GT.of_fsp (hp _) hmW f'5)
 |false=>
  rw[if_neg (by decide)];refine CI (Sl (FJ X _ K0 C env _ t2 _ F.N c12 (Yz hch) J s'4 I _ _ λ s'5 d g'5 t'5 ed=>?_));subst ed;have I:=I.step t'5 g'5;have T:=T.trans (GT.of_stp g'5 t'5);have g:=g.stp F.L t'5
  by_cases q:ch=92
  ·rw[if_pos (by simpa using q)];refine CI (Ig (Gf.asg F.N c13 (BP X _ K0 C env _ e3 (.bool Ab) F.N c14 rfl) (Q3 c14) J s'5 I _ _ λ s'6 I'6 f'6=>?_));exact k.go Ab n s'0 s'6 (by rw[<-show FU (ch::r) j Ai=_ from if_pos q];exact hit) I'6 (g.fsp F.L (hp _) f'6) (T.trans (GT.of_fsp (hp _) hmW f'6))
  ·rw[if_neg (by simpa using q)];refine NY (by rw[<-show FU (ch::r) j Ai=_ from if_neg q];exact hit) λ m H2 hx hrest=>?_;subst H2;refine CI (Md F.hfs hgd F.hfg F.hco hint F.L.hW1 F.L.hWT (hp _) I T (λ W=>BP X _ K0 (C.plus W) env _ y2 _ F.N.plus c15 rfl) hx λ s'' I'' hkk=>?_);exact k.go Ai m s'' s'' hrest I'' (g.w1 F.L hkk) .refl
def GW(w:B2)(A:Br)(e it:Aj)(l:List Nat)(t:Tok):Prop:=WalksT pw w A e [e,it] [e,it] (FZ l).cps.size (λ i vals=>∃t x,(∃c u,(FZ l).cps[i]?=Aa c/\x=.str ⟨#[c]⟩ u)/\vals=#[.int i t,x])
   (λ i h=>(∃old,IsEnum h e it i old)/\h.IsStrIter it "str_ascii_iterator" (FZ l) t i) (λ i T h=>(∃x,IsEnumOut h e it ((i:Int)+1) x T)/\h.IsStrIter it "str_ascii_iterator" (FZ l) t (i+1)/\T≠e/\T≠it)
structure Os(mg mb:Str->Option Ad)(C:Er)(J:Nat->Aj)(W1:Aj->Prop)(items:List V)(l:List Nat)(adr:V)(r:List Nat)(j:Nat)(esc:Bool)(pv:V)(cv:LV)(n:Nat)(s'0 s:Af):Prop where
 ez:esc=Ab->j≠0
 pp:pv.prim=Ab
 cp:cv=.u\/∃V,cv=.w V/\V.prim=Ab
 pj:j≠0->pv=.int ((j:Int) - 1)
 hit:xK items (FU r j esc) n
 I:AX mg mb C J (gρ adr pv esc cv) s
 T:GT W1 s'0 s
section
variable{tg:Ac}{cc:Code}(Fo:GFr mg mb w A K0 C env W1 e it cc fs)(hcc:cc=.forLoop tg (.ref e) lb [] env)(hei:e≠it)(hadr:adr.prim=Ab)
include Fo hcc hei hadr
theorem dJ(hend:∀n s'0 s pv esc cv,Os mg mb C J W1 items l adr [] l.length esc pv cv n s'0 s->Seg (An pw w) A R (Ki mg mb W1 C.base items) n s'0 (.block [] env) (leafOf (.ok .next)) fs s)
  (I:Os mg mb C J W1 items l adr [] l.length esc pv cv n s'0 s) (g:Qq s.heap e it l t l.length old):Seg (An pw w) A R (Ki mg mb W1 C.base items) n s'0 cc ((An pw w).den cc) fs s:=by
 subst hcc;refine ME (YC Fo.hG.hd g.en g.st (Array.getElem?_eq_none (A1 _)) λ h' hk hi'=>?_);exact A9 (Fo.L.step (tk:=s.toks) (Rf hadr I.pp I.cp) I.I (λ b o q e'=>hk b o (λ z=>q (to2 (.inr z))) e') ⟨_,hk e _ hei g.en⟩ hi' (nrE g.en) (nrS g.st)) λ I' T'=>hend n s'0 _ pv esc cv ⟨I.ez,I.pp,I.cp,I.pj,I.hit,I',I.T.trans T'⟩
theorem X6{ch:Nat}{r:List Nat}(hb:GB K0 lb)(W:GW w (A.over cc fs) e it l t)(c1:F5 K0 (.m [1,3]) tg=Ab)(hch:ch<128)(hlc:l[j]?=Aa ch)
  (I:Os mg mb C J W1 items l adr (ch::r) j esc pv cv n s'0 s) (g:Qq s.heap e it l t j old)
  (ih:∀esc m s' s'5 old,Os mg mb C J W1 items l adr r (j+1) esc (.int j) (.w (.str [ch])) m s' s'5->Qq s'5.heap e it l t (j+1) old->Seg (An pw w) A R (Ki mg mb W1 C.base items) m s' cc ((An pw w).den cc) fs s'5):
  Seg (An pw w) A R (Ki mg mb W1 C.base items) n s'0 cc ((An pw w).den cc) fs s:=by
 obtain⟨elts,k0,tp,rfl⟩:∃elts k0 tp,tg=.Tuple elts k0 tp:=OS.of (it:=.zip .a .a) (t:=.m [1,3]) rfl c1 ⟨_,_,rfl⟩;have hp:=Rf (esc:=esc) hadr I.pp I.cp;have hp3:∀esc,KX (gρ adr (.int j) esc (.w (.str [ch]))):=λ esc=>Rf hadr rfl (.inr ⟨_,rfl,rfl⟩);have hjl:j<l.length:=(List.getElem?_eq_some_iff.mp hlc).1;subst hcc;refine ME (WalksT.item W j s _ _ hjl ⟨⟨old,g.en⟩,g.st⟩ λ Tt vals h' tk hP hge hTup hMid hk=>?_);refine E1 hP λ t' xx H3 ξ4=>?_;refine E1 H3 λ c' u hc' ξ4=>?_;subst ξ4;subst ξ4;have hcc:c'=ch:=by
  have h2:l[j]?=Aa c':=by simpa[FZ] using hc'
  rw[hlc] at h2;exact(AE h2).symm
 subst hcc;refine CA (id hMid) λ ξ1 hit' hTe hTi=>?_;refine Aw ξ1 λ xo hEO=>?_;refine A9 (Fo.L.step (tk:=tk) hp I.I hk ⟨_,hEO⟩ (AF hit' λ o ho z=>⟨o,ho⟩) (nrE g.en) (nrS g.st)) λ I'1 T'1=>WalksT.go W _ _ _ j Tt _ _ _ hMid λ h'' hst hk2=>?_;refine A9 hst λ ξ1 hit2=>?_;refine Aw ξ1 λ old2 he2=>?_;refine A9 (Fo.L.step (tk:=tk) hp I'1 hk2 ⟨_,he2⟩ (AF hit2 λ o ho z=>⟨o,ho⟩) (nrO hEO) (nrS hit')) λ I'2 T'2=>?_;have hv:A6 h'' (Am C J (gρ adr pv esc cv)) (.tup [.int j,.str [c']]) (.ref Tt):=by refine E3 hTup λ o ho hcl H=>?_;refine Aw H λ m hdt=>?_;refine⟨show 2<=CN by decide,Tt,_,rfl,λ y=>?_,⟨o,hk2 _ _ (λ h=>(lR h).elim hTe hTi) ho,hcl,m,hdt⟩,_,_,rfl,⟨t',rfl⟩,_,_,rfl,⟨show 1<=CN by decide,u,rfl⟩,rfl⟩;exact Aw (I.I.there Tt y) λ o2 e2=>absurd (AT e2) (Nat.not_lt.mpr hge)
 refine Nf (t:=.m [1,3]) (U':=gρ adr (.int j) esc (.w (.str [c']))) Fo.N Fo.hG.hd c1 rfl hv I'2 λ s'3 I'3 f'3 z=>?_;have g2:Qq h'' e it l t (j+1) old2:=⟨he2,hit2⟩;exact X7 hb Fo rfl hadr hch I'3 (g2.fsp Fo.L hp f'3) (I.T.trans (T'1.trans (T'2.trans (GT.of_fsp hp (λ b h=>(Fo.L.hW1 b).mp (.inl h)) f'3)))) I.hit
  ⟨λ esc m s' s'5 hit5 I'5 g'5 T'5=>seg_again rfl (ih esc m s' s'5 old2 ⟨λ z=>JO j,rfl,.inr ⟨_,rfl,rfl⟩,λ z=>congrArg V.int (Int.add_sub_cancel (j:Int) 1).symm,hit5,I'5,T'5⟩ g'5)⟩
theorem X5(hb:GB K0 lb)(W:GW w (A.over cc fs) e it l t)(c1:F5 K0 (.m [1,3]) tg=Ab)(hcs:l.all (λ c=>decide (c<128))=Ab)
  (hend:∀n s'0 s pv esc cv,Os mg mb C J W1 items l adr [] l.length esc pv cv n s'0 s->Seg (An pw w) A R (Ki mg mb W1 C.base items) n s'0 (.block [] env) (leafOf (.ok .next)) fs s):
  ∀(r:List Nat) {j:Nat} {esc:Bool} {pv:V} {cv:LV} {n:Nat} {s'0 s:Af} {old:Ad},l.drop j=r->j<=l.length->Os mg mb C J W1 items l adr r j esc pv cv n s'0 s->Qq s.heap e it l t j old->Seg (An pw w) A R (Ki mg mb W1 C.base items) n s'0 cc ((An pw w).den cc) fs s:=λ I0=>by
 induction I0 with
 |nil=>intro j _ _ _ _ _ _ _ hd hj I g;have hje:j=l.length:=EP hj (List.drop_eq_nil_iff.mp hd);subst hje;exact dJ Fo hcc hei hadr hend I g
 |cons ch r IH=>
  intro j _ _ _ _ _ _ _ hd hj I g;have hlc:l[j]?=Aa ch:=by have:=congrArg (λ z:List Nat=>z[0]?) hd;simpa using this
  have hd':l.drop (j+1)=r:=by
   have:=congrArg (List.drop 1) hd
   rwa [Ij] at this
  exact X6 Fo hcc hei hadr hb W c1 (of_decide_eq_true (Al.mp hcs ch (Bi hlc))) hlc I g λ y y y y y I' g'=>IH hd' (List.getElem?_eq_some_iff.mp hlc).1 I' g'
end
end
end
set_option backward.match.sparseCases false
inductive Nb(K:Kx):List CU->Prop
 |mk {p0 w1 e0 w2 q0 w3 e1 w4 tg en w5 ad w6 w7 lb w18 t3 y3 w19 w20 w21} (c1:F8 K p0 1=Ab) (c2:chk K (.c (.int 0)) e0=Ab) (c3:F8 K q0 2=Ab) (c4:chk K (.c (.bool Ai)) e1=Ab) (c5:F5 K (.m [1,3]) tg=Ab) (c6:HJ K en "enumerate"=Ab) (c7:EI K ad 0=Ab) (hb:GB K lb) (c16:chk K (.v 2) t3=Ab) (c17:chk K (.tup (.cons (.v 1) (.cons (.c (.str [92])) .nil))) y3=Ab):Nb K [.Assign [.Name p0 w1] e0 w2,.Assign [.Name q0 w3] e1 w4,.For tg (.Call (.Name en w5) [.Name ad w6] [] w7) lb [] w18,.If t3 [.Expr (.Yield (Aa y3) w19) w20] [] w21]
theorem SQ:Nb (C0 (AA 1)) (AA 1).body:=.mk (by kernel_rfl) (by kernel_rfl) (by kernel_rfl) (by kernel_rfl) (by kernel_rfl) (by kernel_rfl) (by kernel_rfl) (.mk (by kernel_rfl) (by kernel_rfl) (by kernel_rfl) (by kernel_rfl) (by kernel_rfl) (by kernel_rfl) (by kernel_rfl) (by kernel_rfl)) (by kernel_rfl) (by kernel_rfl)
theorem Vo:(Te 1 ["addr"]&&((AA 1).scope.isGenerator&&!(AA 1).scope.isCoroutine))=Ab:=by decide+kernel
theorem X8:DefFacts0 1 ["addr"]/\(AA 1).scope.isGenerator=Ab/\(AA 1).scope.isCoroutine=Ai:=
 CJ Vo λ h1 h=>CJ h λ h2 h3=>⟨RH h1,h2,(BG _).mp h3⟩
theorem bT:∀x∈(AA 1).scope.names,x.2≠.cell:=by decide+kernel
section
variable{K0:Kx}{c:Code}{fs:List Frame}
 {K:Gj->Sem Ds} {ξ:Ad->Sem Ds} {gd:Bool->Bool} {lv:List Ad->List Ad} {W1:Aj->Prop} {items:List V} {B:AV}
theorem Uj{B:Br}(h:∃l,B.frames=Aa l):∃l,(B.over c fs).frames=Aa l:=by refine Aw h λ l h=>?_;unfold Around.over;simp only [pushEnvs_eq,h];exact⟨_,rfl⟩
theorem Vk{body:List CU}(h:BQ 5 A):BQ 1 (A.in1.over (.func body env) []):=by
 obtain⟨h1,h2,h3,l,h4⟩:=h;refine⟨h1,?_,?_,?_⟩
 ·show A.depth+V3 []+1+1<=850;have:V3 []=0:=rfl
  omega
 ·show A.units+1+0+3+20*1<=9000;omega
 ·exact Uj ⟨l,h4⟩
theorem Vj{body lb:List CU}{it:Ad}{k:Result->Sem Ds}{l0:List Ad}{p:Pos}(h:BQ 5 A):BQ 1 (A.in1.over (.forLoop tg it lb [] env) [.ret k Ae Ai l0 (.func body env) p []]):=by
 obtain⟨h1,h2,h3,l,h4⟩:=h;refine⟨?_,?_,?_,?_⟩
 ·show(markOver Ae A.handled A.handled)=Ae;rw[h1];rfl
 ·show A.depth+V3 [((.func body env:Code),p)]+0+1<=850;have:V3 [((.func body env:Code),p)]=1:=rfl
  omega
 ·show A.units+1+3+0+20*1<=9000;omega
 ·exact Uj ⟨l,h4⟩
theorem PC(N:AJ K0 C env){z:Str}{i:Nat}{p pos:Pos}{V:V}(hz:F8 K0 z i=Ab)(hx:chk K0 (.c V) x=Ab)(hV:(∃i,V=.int i)\/∃b,V=.bool b)(I:AX mg mb C J U s){Q:Gj->Af->Prop}
  (k:∀s',AX mg mb C J (wr U i (.w V)) s'->CT C J U s J (wr U i (.w V)) s'->s'.heap.objs.size=s.heap.objs.size->Q .next s'):As (An pw w) A (DP (.Assign [.Name z p] x pos) env) Q E s:=by
 refine Db (NK hz N) λ h1 h2 h3=>?_;have fin:∀(s'1:Af) v,GI mg mb s'1->C7 s s'1->s'1.heap.objs.size=s.heap.objs.size->A6 s'1.heap (Am C J U) V v->As (An pw w) A (RM env z v) (λ y=>Q .next) E s'1:=λ s'1 v g'1 t'1 hsz rv=>by have I'1:=I.step t'1 g'1;refine JT N h1 I'1 (λ h' tk st=>?_) h3;have I':=I'1.set_val (tk:=tk) st rv;exact AF st.same λ a' y hsb=>k _ I' ((CT.of_stp t'1 g'1).trans (CT.set I'1 I' st λ j xs e=>.inl ⟨j,xs,(Gm e).2,rfl⟩)) (hsb.1.trans hsz)
 rcases hV with⟨j,rfl⟩|⟨b,rfl⟩
 ·refine S6 hx λ cc kk pp h=>?_
  ·rw[eY h];exact CG (wpAny_Constant_int (fin _ _ (I.gi.toks _) (.toks _) rfl ⟨_,rfl⟩))
 ·refine S6 hx λ cc kk pp h=>?_
  ·rw[Y7 h];exact CG (wpAny_Constant_bool (fin _ _ I.gi (.refl _) rfl rfl))
theorem OI{l:List Nat}(h:l.all (λ c=>decide (c<128))=Ab):strIterType (FZ l)="str_ascii_iterator":=by unfold strIterType;rw[if_pos];show l.toArray.all (·<128)=Ab;rw[<-List.all_toArray] at h;exact h
theorem WR{R:GenEnd}{Y:qP}{p:Pos}(h:Seg (An pw w) A R Y n s'0 c (K .next) fs s):Seg (An pw w) A R Y n s'0 (.block [] env) (leafOf (.ok .next))
  (.ret (λ r=>((match r with|.ok f=>(.pure f:Sem Gj)|.error e=>.raise e).onRaise λ (x:Ad)=>do
    if(<-field x 1)==E6 then unsupported "frame.own-activation:exception-without-traceback"
    K2 x env.frame).wrap K ξ gd lv) Ae (gd Ai) (lv []) c p []::fs) s:=seg_leaf (.ok .next) h
def gW2(it:Aj)(b:Aj):Prop:=b=it+1\/b=it
def gW(C:Er)(it:Aj)(b:Aj):Prop:=C.mine b\/gW2 it b
theorem gLp{it:Aj}(hY0:∀b,¬C.Y0 b)(I:AX mg mb C J U s)(n1:s.heap.get? (it+1)=Ae)(n0:s.heap.get? it=Ae):Zm (C.plus (gW2 it)) (gW C it) (it+1) it where
 hW1:=λ b=>⟨λ h=>h.elim .inl λ h=>h.elim (λ h=>absurd h (hY0 b)) .inr,λ h=>h.elim .inl λ h=>.inr (.inr h)⟩
 hY0:=λ b=>⟨λ h=>h.elim (λ h=>absurd h (hY0 b)) id,.inr⟩
 hWT:=λ b h=>h.elim I.mineTb λ h=>h.elim (λ h=>h▸(I.fresh_facts n1).2.2.2) λ h=>h▸(I.fresh_facts n0).2.2.2
 hem:=(I.fresh_facts n1).1
 him:=(I.fresh_facts n0).1
 heB:=(I.fresh_facts n1).2.2.1
 hiB:=(I.fresh_facts n0).2.2.1
theorem X3{body:List CU}{it:Aj}{l:List Nat}{esc:Bool}{pv:V}{cv:LV}{t3 y3:Ac}{w19 w20 w21:Pos}(F:GFr mg mb w A K0 C env W1 e it (.func body env) [])(hgd:gd Ai=Ai)(c16:chk K0 (.v 2) t3=Ab)(c17:chk K0 (.tup (.cons (.v 1) (.cons (.c (.str [92])) .nil))) y3=Ab)(hK:K .next=leafOf (.ok (.ret .none)))
  (I:Os mg mb C J W1 (FU l 0 Ai) l (.str l) [] l.length esc pv cv n s'0 s):Seg (An pw w) A (dK mg mb W1) (Ki mg mb W1 C.base (FU l 0 Ai)) n s'0 (.func body env) ((B4 [.If t3 [.Expr (.Yield (Aa y3) w19) w20] [] w21] env).wrap K ξ gd lv) [] s:=by
 have X:=Vz (mg:=mg) (mb:=mb) (w:=w) F.hG;refine CI (Sl (FJ X (.v 2) K0 C env _ t3 esc F.N c16 (by induction esc<;>rfl) J s I.I _ _ λ s'4 d g'4 t'4 ed=>?_))
 have ed:=ed.symm;subst ed;have I5:=I.I.step t'4 g'4;have T5:=I.T.trans (GT.of_stp g'4 t'4);have hit:=I.hit;have hlen:=hit.hn
 induction esc with
 |true=>rw[if_pos rfl];have hpv':=I.pj (I.ez rfl);subst hpv';have hn1:n=1:=hlen;subst hn1;refine NY hit λ m e1 hx z=>?_;obtain rfl:m=0:=(C4 e1).symm;refine CI (Md rfl hgd rfl F.hco (Hs F.N) F.L.hW1 F.L.hWT (Rf rfl I.pp I.cp) I5 T5 (λ W=>BP X _ K0 (C.plus W) env _ y3 _ F.N.plus c17 rfl) hx λ s'' I'' hkk=>?_);show Seg _ _ _ _ _ _ _ (K .next) _ _;rw[hK];exact seg_end (.ok (.ret .none)) ⟨rfl,rfl,I''.gi,GT.refl.mv⟩
 |false=>rw[if_neg (by decide)];show Seg _ _ _ _ _ _ _ (K .next) _ _;rw[hK];exact seg_end (.ok (.ret .none)) ⟨rfl,hlen,g'4,T5.mv⟩
theorem Vn{body:List CU}(hA:BQ 5 A)(N:AJ K0 C env)(hco:env.scope.isCoroutine=Ai)(hY0:∀b,¬C.Y0 b)(hbody:Nb K0 body){l:List Nat}(hcs:l.all (λ c=>decide (c<128))=Ab)(I:AX mg mb C J [.w (.str l),.u,.u,.u] s):
  Seg (An pw w) A.in1 (dK mg mb (gW C s.heap.objs.size)) (Ki mg mb (gW C s.heap.objs.size) C.base (FU l 0 Ai)) (FU l 0 Ai).length s (.func body env) ((An pw w).den (.func body env)) [] s:=by
 generalize hit0:s.heap.objs.size=it
 cases hbody with
 |@mk p0 _ e0 _ q0 _ e1 _ tg en _ ad _ _ lb _ t3 y3 _ _ _ c1 c2 c3 c4 c5 c6 c7 hb c16 c17=>
 have hpr:∀{V1 V2:LV},(V1=.u\/∃V,V1=.w V/\V.prim=Ab)->(V2=.u\/∃V,V2=.w V/\V.prim=Ab)->KX [.w (.str l),V1,V2,.u]:=λ h1 h2 j=>by
  match j with
  |0=>exact .inr ⟨_,rfl,rfl⟩
  |1=>exact h1
  |2=>exact h2
  |j+3=>exact .inl (by induction j using A5<;>rfl)
 refine seg_func (CI (Ig (PC N c1 c2 (.inl ⟨0,rfl⟩) I λ s'1 I'1 f'1 z'1=>?_)));refine CI (Ig (PC N c3 c4 (.inr ⟨Ai,rfl⟩) I'1 λ s'2 I'2 f'2 z'2=>?_));refine CI (aI (λ z=>rfl) ?_);refine Db (L6 c6) λ een h1 h2=>A9 (Gb c7) λ a1 a2=>?_;subst een;have z12:s'2.heap.objs.size=it:=(z'2.trans z'1).trans hit0;have T2:GT (gW C it) s s'2:=(GT.of_fsp (hpr (.inl rfl) (.inl rfl)) (λ b h=>.inl h) f'1).trans (GT.of_fsp (hpr (.inr ⟨_,rfl,rfl⟩) (.inl rfl)) (λ b h=>.inl h) f'2)
 clear f'1 f'2 z'1 z'2 I'1 I hit0 hpr
 refine Gx (key:=Ae) (f:=.type "enumerate") (AR:=λ s' vs=>s'=s'2/\∃t,vs=[.str (FZ l) t]) N I'2 (OR λ z z=>rfl) rfl (λ h=>by cases h) (λ Q E k=>Ee N h1 h2 I'2 (by decide+kernel) (by decide+kernel) (by decide+kernel) k) (λ Q E k=>?_)
  (λ s' g=>CM (f:=.type "enumerate") (λ z e=>(by cases e)) _) λ s'3 vs I'3 t'3 H=>?_
 ·refine BA (Jm (Hu N a1 (by nofun) I'2 (λ v q=>Ec (k s'2 [v] I'2.gi (.refl _) ⟨rfl,?_⟩)) a2) (H6 a2).1) rfl;refine A9 ((show A6 s'2.heap (λ z=>False) (.str l) v from q)) λ z H=>?_;refine Aw H λ t H2=>?_;subst H2;exact⟨t,rfl⟩
 ·refine A9 H λ e3 H=>Aw H λ t ev=>?_;subst e3 ev;refine call_enumerate_str λ h' he hi hsz hk=>wpAny_pyIter_enum he λ p=>?_;rw[OI hcs] at hi;have none0:∀b,it<=b->s'3.heap.get? b=Ae:=λ b hb=>by
   cases e:s'3.heap.get? b with
   |none=>rfl
   |some o=>exact absurd (AT e) (Nat.not_lt.mpr (z12▸hb))
  rw[z12] at he hi ⊢;have n1:=none0 _ (Dw it);have n0:=none0 _ (A1 it);have t4:C7 s'3 {s'3 with heap:=h'}:=.all hk s'3.toks;have g4:GI mg mb {s'3 with heap:=h'}:=I'2.gi.all hk s'3.toks;have I'4:AX mg mb (C.plus (gW2 it)) J (gρ (.str l) (.int 0) Ai .u) {s'3 with heap:=h'}:=I'2.more t4 g4 (λ b q=>q.elim (λ q=>q▸n1) λ q=>q▸n0) λ b q=>q.elim (λ q=>q▸⟨_,he⟩) λ q=>q▸AF hi λ o ho z=>⟨o,ho⟩;have L:=gLp hY0 I'2 n1 n0;exact X5 ⟨N.plus,Vj hA,rfl,rfl,hco,L⟩ rfl (Dx _) rfl hb
   (WalksT.enumerateD (Draws.strAscii (by show markOver Ae A.handled A.handled=Ae;rw[hA.hd];rfl) _ _ t) _ (Dx _) (λ h=>Dx _ (List.mem_singleton.mp h)) (List.mem_singleton.mpr rfl)) c5 hcs
   (λ n s'0 s' pv esc cv I'=>WR (X3 ⟨N.plus,Vk hA,rfl,rfl,hco,L⟩ rfl c16 c17 rfl I')) l rfl (Bj _)
   (esc:=Ai) (pv:=.int 0) ⟨λ h=>nf h,rfl,.inl rfl,λ h=>absurd rfl h,⟨rfl,[],rfl⟩,I'4,T2.trans (GT.of_stp g4 t4)⟩ ⟨he,hi⟩
end
def GSt(mg mb:Str->Option Ad)(w:B2)(A:Br)(B:AV)(items:List V)(g ga:Nat)(s'0 sm:Af)(mine:Aj->Prop)(c:Code):Nat->(Aj->Prop)->Af->Prop
 |0,W,s=>(∀b,W b↔mine b\/b=ga)/\s.heap.IsGen ga g/\s.gens[g]?=Aa (.fresh c)/\∀b o,mine b->sm.heap.get? b=Aa o->s.heap.get? b=Aa o
 |i+1,W,s=>∃(W1:Aj->Prop) (gs:qO) (sr:Af),(∀b,W b↔W1 b\/b=ga)/\s.heap.IsGen ga g/\s.gens[g]?=Aa gs/\(∀b o,W1 b->sr.heap.get? b=Aa o->s.heap.get? b=Aa o)/\(∀b,W1 b->∃o,sr.heap.get? b=Aa o)/\(∀b,W1 b->s'0.heap.get? b=Ae)/\(∀b,W1 b->b≠ga)/\
   ∀s'',(∀b o,W1 b->sr.heap.get? b=Aa o->s''.heap.get? b=Aa o)->GI mg mb s''->DS B s''.heap->gs.Goes (An pw w) A.in1 (dK mg mb W1) (Ki mg mb W1 B items) (items.length - (i+1)) (.send .none) s''
section
variable{sm:Af}{K0:Kx}{c:Code}{items:List V}{g ga:Nat}{mine:Aj->Prop}{l:List Nat}{body:List CU}
theorem GI.setGen(x:GI mg mb s){gs:qO}(h:gs.bare=Ab):GI mg mb (s.setGen g gs):=⟨x.wd,λ y hy=>by
 rcases Array.mem_or_eq_of_mem_setIfInBounds hy with q|q
 ·exact x.bare y q
 ·rw[q];exact h⟩
structure fH(mg mb:Str->Option Ad)(w:B2)(A:Br)(K0:Kx)(C:Er)(env:Env)(body:List CU)(l:List Nat)(J:Nat->Aj)(s'0 sm:Af)(ga:Nat):Prop where
 hA:BQ 5 A
 N:AJ K0 C env
 hco:env.scope.isCoroutine=Ai
 hY0:∀b,¬C.Y0 b
 hbody:Nb K0 body
 hcs:l.all (λ c=>decide (c<128))=Ab
 I:AX mg mb C J [.w (.str l),.u,.u,.u] sm
 hm:∀b,C.mine b->s'0.heap.get? b=Ae
 hmg:∀b,C.mine b->b≠ga
 ga0:s'0.heap.get? ga=Ae
 gab:∀b o,s'0.heap.get? b=Aa o->b<ga
 gi0:GI mg mb s'0
 kb0:DS C.base s'0.heap
theorem gE:KX [.w (.str l),.u,.u,.u]:=λ j=>by
 match j with
 |0=>exact .inr ⟨_,rfl,rfl⟩
 |1=>exact .inl rfl
 |2=>exact .inl rfl
 |3=>exact .inl rfl
 |j+4=>exact .inl (rfl)
variable(ξ:fH mg mb w A K0 C env body l J s'0 sm ga)
include ξ
theorem fH.baseN{b:Aj}(h:s'0.heap.get? b=Ae):C.base.get? b=Ae:=by
 cases e:C.base.get? b with
 |none=>rfl
 |some o=>
  by_cases q:Tb b
  ·refine Aw (ξ.gi0.wd.tb b q) λ vs e2=>?_;rw[h] at e2;exact nn e2
  ·rw[ξ.kb0 b o q e] at h;cases h
theorem fH.notT{b:Aj}(h:s'0.heap.get? b=Ae):¬Tb b:=λ q=>by refine Aw (ξ.gi0.wd.tb b q) λ vs e2=>?_;rw[h] at e2;exact nn e2
theorem Pm{i:Nat}{W:Aj->Prop}(st:GSt mg mb w A C.base (HK l 0) g ga s'0 sm C.mine (.func body env) i W s)(g':GI mg mb s)(kb:DS C.base s.heap){gC:Prop}(gk:∀W1 gs,s.gens[g]?=Aa gs->s.heap.IsGen ga g->gs.Goes (An pw w) A.in1 (dK mg mb W1) (Ki mg mb W1 C.base (HK l 0)) ((HK l 0).length - i) (.send .none) (s.setGen g .running)->((∀b,W1 b->W b\/s.heap.get? b=Ae))->((∀b,W1 b->s'0.heap.get? b=Ae))->((∀b,W1 b->b≠ga))->gC):gC:=by
 induction i using A5 with
 |zero=>
  refine CA st λ h1 h2 h3 h4=>?_;have hgs:ga<s.heap.objs.size:=by refine Lc h2 λ o z z ho z=>?_;exact AT ho
  have none0:∀b,s.heap.objs.size<=b->s.heap.get? b=Ae:=λ b hb=>by
   cases e:s.heap.get? b with
   |none=>rfl
   |some o=>have q:b<s.heap.objs.size:=AT e;exact absurd q (Nat.not_lt.mpr hb)
  have none1:∀b,s.heap.objs.size<=b->s'0.heap.get? b=Ae:=λ b hb=>by
   cases e:s'0.heap.get? b with
   |none=>rfl
   |some o=>exact absurd (ξ.gab b o e) (Nat.not_lt.mpr (Ak (B9 hgs) hb))
  have I':AX mg mb C J [.w (.str l),.u,.u,.u] (s.setGen g .running):=ξ.I.jump gE (g'.setGen rfl) kb λ b o m e=>by
   rcases m with m|m
   ·exact h4 b o m e
   ·exact absurd m (ξ.hY0 b)
  refine gk _ _ h3 h2 ⟨rfl,Vn ξ.hA ξ.N ξ.hco ξ.hY0 ξ.hbody ξ.hcs I'⟩ (λ b h=>?_) (λ b h=>?_) (λ b h=>?_)
  ·rcases h with h|h|h
   ·exact .inl ((h1 b).mpr (.inl h))
   ·exact .inr (none0 b (by rw[h];exact Dw _))
   ·exact .inr (none0 b (by rw[h];exact A1 _))
  ·rcases h with h|h|h
   ·exact ξ.hm b h
   ·exact none1 b (by rw[h];exact Dw _)
   ·exact none1 b (by rw[h];exact A1 _)
  ·have hgs:ga<(s.setGen g .running).heap.objs.size:=hgs;rcases h with h|h|h
   ·exact ξ.hmg b h
   ·exact h▸Fw (GC hgs)
   ·exact h▸Fw hgs
 |succ i=>refine UJ st λ W1 gs sr h1 h2 h3 h4 H=>?_;exact CA H λ h5 h6 h8 h7=>gk W1 gs h3 h2 (h7 _ h4 (g'.setGen rfl) kb) (λ b h=>.inl ((h1 b).mpr (.inl h))) h6 h8
omit ξ in
theorem Mv.setGens{W:Aj->Prop}{gs:qO}(m:Mv W (λ z=>False) (s.setGen g .running) s'1):Mv W (λ j=>j=g) s (s'1.setGen g gs):=⟨m.heap,λ j x q e=>by
 have h1:(s.setGen g .running).gens[j]?=Aa x:=by show(s.gens.setIfInBounds g .running)[j]?=Aa x;rw[Array.getElem?_setIfInBounds_ne (λ h=>q h.symm)];exact e
 show(s'1.gens.setIfInBounds g gs)[j]?=Aa x;rw[Array.getElem?_setIfInBounds_ne (λ h=>q h.symm)];exact m.gens j x (λ h=>h) h1,m.os⟩
theorem Vm(tg:Ac){Y:Aj->Prop}(hg:s'0.gens[g]?=Ae)(hsm:∀b,C.mine b->∃o,sm.heap.get? b=Aa o):To mg mb w A tg ga (HK l 0) Y C.base s'0 (λ j=>j=g) (GSt mg mb w A C.base (HK l 0) g ga s'0 sm C.mine (.func body env)) where
 new:=λ i W s st b hb=>by
  induction i using A5 with
  |zero=>exact((st.1 b).mp hb).elim (ξ.hm b) λ h=>h▸ξ.ga0
  |succ i=>(refine UJ st λ W1 gs sr h1 h2 h3 h4 H=>?_;refine CA H λ h5 h6 h8 h7=>?_);exact((h1 b).mp hb).elim (h6 b) λ h=>h▸ξ.ga0
 newg:=λ j h=>h▸hg
 there:=λ i W s st b hb=>by
  induction i using A5 with
  |zero=>
   rcases(st.1 b).mp hb with h|h
   ·refine Aw (hsm b h) λ o e=>?_;exact⟨o,st.2.2.2 b o h e⟩
   ·refine Lc st.2.1 λ o z z ho z=>?_;exact⟨o,h▸ho⟩
  |succ i=>
   refine UJ st λ W1 gs sr h1 h2 h3 h4 H=>?_;refine CA H λ h5 h6 h8 h7=>?_;rcases(h1 b).mp hb with h|h
   ·refine Aw (h5 b h) λ o e=>?_;exact⟨o,h4 b o h e⟩
   ·refine Lc h2 λ o z z ho z=>?_;exact⟨o,h▸ho⟩
 frame:=λ i W s s' st k kg=>by
  induction i using A5 with
  |zero=>refine CA st λ h1 H2 h3 h4=>?_;refine Lc H2 λ o nm qn ho hr=>?_;exact⟨h1,⟨o,nm,qn,k ga o ((h1 ga).mpr (.inr rfl)) ho,hr⟩,kg g _ rfl h3,λ b o m e=>k b o ((h1 b).mpr (.inl m)) (h4 b o m e)⟩
  |succ i=>refine UJ st λ W1 gs sr h1 ξ5 h3 h4 h5=>?_;refine Lc ξ5 λ o nm qn ho hr=>?_;exact⟨W1,gs,sr,h1,⟨o,nm,qn,k ga o ((h1 ga).mpr (.inr rfl)) ho,hr⟩,kg g _ rfl h3,λ b o m e=>k b o ((h1 b).mpr (.inl m)) (h4 b o m e),h5⟩
 item:=λ i x W s hx st gi fr kb Q E Qn k=>by
  refine Pm ξ st gi kb λ W1 gs h1 h2 h3 h4 h5 h6=>?_;have hi:i<(HK l 0).length:=(List.getElem?_eq_some_iff.mp hx).1;have hroom:A.depth<CH:=by have:=ξ.hA.dp;have e:CH=1000:=rfl;omega
  have hgsz:g<s.gens.size:=(Array.getElem?_eq_some_iff.mp h1).1;refine MH (P:=nN mg mb W1) (Y:=Ki mg mb W1 C.base (HK l 0)) ξ.hA.hd gi.wd.nolimit hroom h2 h1 h3 (λ v s'1 gs' hb hy=>?_) λ s'1 hp h' hk=>?_
  ·refine R4 hy λ ξ1 g'1 m'1 ht hres=>?_;refine AF ξ1 λ y hy1 hy2=>?_;have ei:(HK l 0).length - 1 - ((HK l 0).length - i - 1)=i:=by omega
   rw[ei,hx] at hy1;obtain rfl:=sj hy1;obtain⟨m,em⟩:∃m,(HK l 0).length - i=m+1:=⟨(HK l 0).length - i - 1,by omega⟩;rw[em] at hres;have em2:m=(HK l 0).length - (i+1):=by omega
   have hrun:s'1.gens[g]?=Aa .running:=m'1.gens g _ (λ h=>h) (by show(s.gens.setIfInBounds g .running)[g]?=Aa .running;rw[Array.getElem?_setIfInBounds_self_of_lt hgsz])
   have hg1:(s'1.setGen g gs').gens[g]?=Aa gs':=by show(s'1.gens.setIfInBounds g gs')[g]?=Aa gs';rw[Array.getElem?_setIfInBounds_self_of_lt (Array.getElem?_eq_some_iff.mp hrun).1]
   refine Lb h2 λ o nm qn ho hc hr=>?_;have ho1:s'1.heap.get? ga=Aa o:=m'1.heap ga o (ξ.notT ξ.ga0) (λ h=>h6 ga h rfl) ho;refine Ug (s:=s'1.setGen g gs') ho1 hc (by decide) (k _ v W1 (λ b=>W1 b\/b=ga) (g'1.setGen hb) (Mv.setGens m'1) h4 (λ b h=>?_) ⟨W1,gs',s'1,λ b=>VY,⟨o,nm,qn,ho1,hc,hr⟩,hg1,λ b o z e=>e,ht,h5,h6,λ s'' k1 k2 k3=>?_⟩ λ Y' hY'=>?_)
   ·rcases h with h|h
    ·exact h4 b h
    ·exact .inl (by
      subst h
      induction i using A5 with
      |zero=>exact(st.1 b).mpr (.inr rfl)
      |succ i=>refine Lc st λ W2 z z q z=>?_;exact(q b).mpr (.inr rfl))
   ·rw[<-em2];exact hres s'' k1 k2 k3
   ·refine hy2 Y' λ b hb=>?_;rcases hY' b hb with(h|h)|h
    ·exact .inl h
    ·exact .inr ⟨o,h▸ho⟩
    ·exact .inr h.1
  ·have:=hp.1;omega
 done:=λ W s st gi fr kb Q E Qs k=>by
  refine Pm ξ st gi kb λ W1 gs h1 h2 h3 h4 h5 h6=>?_;have hroom:A.depth<CH:=by have:=ξ.hA.dp;have e:CH=1000:=rfl;omega
  refine MH (P:=nN mg mb W1) (Y:=Ki mg mb W1 C.base (HK l 0)) ξ.hA.hd gi.wd.nolimit hroom h2 h1 h3 (λ v s'1 gs' hb hy=>?_) λ s'1 hp h' hk=>?_
  ·exfalso
   refine R4 hy λ z g'1 m'1 ht hres=>?_;have:=hres s'1 (λ b o z e=>e) g'1 λ b o n e=>m'1.heap b o n (λ q=>by rw[ξ.baseN (h5 b q)] at e;exact nn e) (kb b o n e);rw[Fy] at this;exact this
  ·refine Db hp λ z g'1 m'1=>?_;have m2:=Mv.setGens (gs:=.finished) m'1;refine k _ ((g'1.setGen rfl).all hk _) ⟨λ b o n q e=>hk b o (m2.heap b o n (λ h=>?_) e),λ j x q e=>m2.gens j x q e,m2.os⟩;rcases h4 b h with h|h
   ·exact q h
   ·rw[h] at e;exact nn e
end
section
variable{sm:Af}{c:Code}{items:List V}{g ga:Nat}{l:List Nat}
theorem AX.rebase(I:AX mg mb C J U s)(hp:KX U)(hk:DS B s.heap)(hw:Wd mg mb B)(ht:∀b,Tb b->∃o,B.get? b=Aa o)(hn:∀b,C.mine b->B.get? b=Ae):AX mg mb ⟨C.loc,C.Y0,B⟩ J U s where
 gi:=I.gi
 keep:=hk
 wd0:=hw
 y0:=I.y0
 tb:=ht
 new:=hn
 inj:=I.inj
 dicts:=I.dicts
 cells:=I.cells
 owns:=λ i xs e=>(hp.noOwn e).elim
 ownY:=λ i xs e=>(hp.noOwn e).elim
 apart:=λ i j xs ys e=>(hp.noOwn e).elim
theorem vT:∀i,(21,i)∈Fe->i=1:=λ i h=>by
 have:∀p∈Fe,p.1=21->p.2=1:=by decide
 exact this _ h rfl
theorem nM(N:AJ K C env)(hA:BQ 5 A){x:Str}{v:Ac}{p q:Pos}(hf:EC K 21 x=Ab)(hpl:Bo v)(hv:Cg mg mb w C A U (AM v env) (.str l))(hcs:(l.all λ c=>decide (c<128))=Ab):
  Zk mg mb w C A U tg (AM (.Call (.Name x p) [v] [] q) env) (HK l 0):=λ J s I Q E k=>by
 refine Db (Ir hf) λ h1 h2 H=>?_;refine AF H λ m h3 h4=>?_;refine Gx (key:=Ae) (f:=.ref 21) (AR:=λ s' vs=>∃t,vs=[.str (FZ l) t]/\A6 s'.heap (λ z=>False) (.str l) (.str (FZ l) t)) N I (OR hpl) rfl (λ h=>by cases h)
  (λ Q E k=>CQ N h1 h2 I (Iu I.gi h3 h4) k) (λ Q E k=>?_) (λ s' g=>Dy g h3) λ s'1 vs I'1 t'1 ⟨t,e,rt⟩=>?_
 ·refine DG.one hv hpl q J s I _ _ λ s'1 us g'1 t'1 r'1=>?_;refine AF r'1.one λ u H2 rv=>?_;subst H2;refine A9 ((show A6 s'1.heap (λ z=>False) (.str l) u from rv)) λ q H=>?_;refine Aw H λ t H2=>?_;subst H2;exact k s'1 _ g'1 t'1 ⟨t,rfl,q,t,rfl⟩
 ·subst e;have em:=vT m h3;subst em;refine Db X8 λ D hgen hco=>E1 (I'1.gi.wd.fn _ h3) λ dV kV FA DO=>?_;obtain⟨o,doc,pm,c,oc,cvs,t',ct,ho,hnt,hdat,hnc,hoc,hod,hq⟩:=FA.ob;refine A9 (DO.1 (by decide)) λ ξ1 H2=>?_;subst ξ1;subst H2;refine xW ?_;have hroom:A.depth<CH:=by have:=hA.dp;have e:CH=1000:=rfl;exact BQ.room hA
  refine codeAny_call_generator hroom ho hdat hco hgen rfl ⟨c,oc,cvs,t',rfl,hoc,hod,hq⟩ ?_;have hb:fN s'1 (NU 1 .none .none doc pm (.ref c) ct) ⟨[.str (FZ l) t],[]⟩ ((["addr"]:List Str).zip [.str (FZ l) t]):=BindsTo.of_eq rfl;refine hb _ _ _ _<|wpAny_newFunctionEnv_cells (scope:=(AA 1).scope) D.kind (λ y hy=>?_) λ env' henv s'2 xx=>?_
  ·have hx1:y.1="addr":=by
    have:=LQ (f:=(·.1)) hy;simpa using this
   have hacc:=Lj (x:="addr") D.pn (j:=0) rfl;rcases HA (D:=0) (cells:=[]) D.acc hacc with⟨hm,_⟩|⟨hm,_⟩|⟨_,hlk,_⟩
   ·exact .inl (by rw[hx1];exact BE D.nd hm)
   ·exact absurd rfl (bT _ hm)
   ·exact nn hlk
  ·subst henv;refine⟨I'1.gi.wd.nolimit.keeps xx.toInCall.keep,?_⟩;refine Pt (Y:=λ z=>False) (vs:=[.str l]) (ns:=4) (f:=21) (fd:=NU 1 .none .none doc pm (.ref c) ct) D rfl rfl rfl I'1.gi (λ b h=>h.elim) ⟨_,_,rfl,rt,rfl⟩ rfl (by decide) xx λ C' e1 e2 z N' I' t'2=>?_;have hbs:∀b,s'1.heap.get? b=Ae->C.base.get? b=Ae:=λ b h=>DY I'1 h;have mine0:∀b,C'.mine b->s'1.heap.get? b=Ae:=λ b h=>e2▸I'.new b h;have I2:AX mg mb ⟨C'.loc,C'.Y0,C.base⟩ (λ z=>0) [.w (.str l),.u,.u,.u] s'2:=I'.rebase gE (λ b o n e=>t'2.keep b o n (I'1.keep b o n e)) I'1.wd0 I'1.tb λ b h=>hbs b (mine0 b h);have N2:AJ (C0 (AA 1)) ⟨C'.loc,C'.Y0,C.base⟩ (BX (NU 1 .none .none doc pm (.ref c) ct) s'1.heap.objs.size 21):=⟨N'.kind,N'.acc,N'.glob,N'.loc,N'.cell,N'.free,N'.gl,N'.bi⟩;generalize hob:({cls:=.type "generator",data:=.fields #[.int s'2.gens.size 0,.str (NU 1 .none .none doc pm (.ref c) ct).name s'2.toks,.str (NU 1 .none .none doc pm (.ref c) ct).qualname (s'2.toks+1)]}:Obj)=ob;have g3:GI mg mb {s'2 with gens:=s'2.gens.push (.fresh (.func (AA 1).body (BX (NU 1 .none .none doc pm (.ref c) ct) s'1.heap.objs.size 21))),toks:=s'2.toks+1+1,heap:=s'2.heap.push ob}:=⟨(I'.gi.push ob 0).wd,I'.gi.bare.push rfl⟩;have t3:C7 s'2 {s'2 with gens:=s'2.gens.push (.fresh (.func (AA 1).body (BX (NU 1 .none .none doc pm (.ref c) ct) s'1.heap.objs.size 21))),toks:=s'2.toks+1+1,heap:=s'2.heap.push ob}:=⟨.push _ _,λ j x e=>by
    show(s'2.gens.push _)[j]?=Aa x;rw[Array.getElem?_push,if_neg (Ci (Array.getElem?_eq_some_iff.mp e).1)];exact e,rfl⟩
   have hg:s'1.gens[s'2.gens.size]?=Ae:=by
    cases e:s'1.gens[s'2.gens.size]? with
    |none=>rfl
    |some x=>exact absurd (Array.getElem?_eq_some_iff.mp (t'2.gens _ x e)).1 (Ch _)
   have gab:∀b o,s'1.heap.get? b=Aa o->b<s'2.heap.objs.size:=λ b o e=>by exact Aw (FC I'.gi t'2 ⟨o,e⟩) λ o' e'=>AT e'
   have ga0:s'1.heap.get? s'2.heap.objs.size=Ae:=by
    cases e:s'1.heap.get? s'2.heap.objs.size with
    |none=>rfl
    |some o=>exact absurd (gab _ o e) (Ch _)
   have thr:∀b,C'.mine b->∃o,s'2.heap.get? b=Aa o:=λ b h=>I'.mine_there h;have ξ:fH mg mb w A (C0 (AA 1)) ⟨C'.loc,C'.Y0,C.base⟩ (BX (NU 1 .none .none doc pm (.ref c) ct) s'1.heap.objs.size 21) (AA 1).body l (λ z=>0) s'1 {s'2 with gens:=s'2.gens.push (.fresh (.func (AA 1).body (BX (NU 1 .none .none doc pm (.ref c) ct) s'1.heap.objs.size 21))),toks:=s'2.toks+1+1,heap:=s'2.heap.push ob} s'2.heap.objs.size:=
    {hA:=hA,N:=N2,hco:=hco,hY0:=λ b h=>by rw[show(⟨C'.loc,C'.Y0,C.base⟩:Er).Y0=C'.Y0 from rfl,e1] at h;exact h,hbody:=SQ,hcs:=hcs,I:=I2.step t3 g3,hm:=mine0
     hmg:=λ b h=>by refine Aw (thr b h) λ o e=>?_;exact Ci (AT e)
     ga0:=ga0,gab:=gab,gi0:=I'1.gi,kb0:=I'1.keep}
   have hpush:(s'2.heap.push ob).get? s'2.heap.objs.size=Aa ob:=AW _ (by rw[<-hob];rfl);refine wpAny_pyIter_gen (g:=s'2.gens.size) ⟨_,_,_,hpush,by rw[<-hob],by rw[<-hob],by rw[<-hob]⟩<|k s'1 _ s'2.heap.objs.size (λ j=>j=s'2.gens.size) _ (λ b=>C'.mine b\/b=s'2.heap.objs.size) t'1 I'1.gi (t'2.trans t3) g3 (Vm ξ tg hg λ b h=>(I2.step t3 g3).mine_there h) ⟨λ b=>VY,⟨_,_,_,hpush,by rw[<-hob],by rw[<-hob],by rw[<-hob]⟩,?_,λ b o z e=>e⟩;show(s'2.gens.push _)[s'2.gens.size]?=_;rw[Array.getElem?_push,if_pos rfl]
   rfl
theorem X4(hA:BQ 5 A){is:List Nat}{v:Ac}{x:Str}{p q:Pos}(N:AJ K C env)(hf:EC K 21 x=Ab)(ht:F5 K (.m is) tg=Ab)(hpl:Bo v)(hv:Cg mg mb w C A U (AM v env) (.str l))(hcs:(l.all λ c=>decide (c<128))=Ab)
  {y:List CU} {pos:Pos} {b:AQ->Option (Fl×AQ)} {res:Fl×AQ} (hb:∀C' U res,AJ K C' env->b U=Aa res->D1 mg mb w C' A U (B4 y env) res) (hr:B7 (.m is) b (HK l 0) U=Aa res):
  D1 mg mb w C A U (DP (.For tg (.Call (.Name x p) [v] [] q) y [] pos) env) res:=
 Uk N hA.hd ht (nM N hA hf hpl hv hcs) hb hr λ z=>rfl
end
section
variable{us:List Ad}{C:List Ad->Prop}
@[elab_as_elim] theorem Vb(h:us.length=n+1)(k:∀a r,r.length=n->C (a::r)):C us:=by
 induction us using Aq with
 |nil=>cases h
 |cons a r=>exact k a r (C4 h)
@[elab_as_elim] theorem Q5(h:us.length=1)(k:∀a,C [a]):C us:=Vb h λ a r h=>by rw[List.length_eq_zero_iff.mp h];exact k a
@[elab_as_elim] theorem P1(h:us.length=2)(k:∀a b,C [a,b]):C us:=Vb h λ a r h=>Q5 h (k a)
@[elab_as_elim] theorem Vc(h:us.length=3)(k:∀a b c,C [a,b,c]):C us:=Vb h λ a r h=>P1 h (k a)
@[elab_as_elim] theorem cK(h:us.length=4)(k:∀a b c d,C [a,b,c,d]):C us:=Vb h λ a r h=>Vc h (k a)
@[elab_as_elim] theorem len6(h:us.length=6)(k:∀a b c d e f,C [a,b,c,d,e,f]):C us:=Vb h λ a r h=>Vb h λ b r h=>cK h (k a b)
end
def By(i n:Nat)(pn:List Str):Prop:=∀(doc pm cd ct:Ad) (us:List Ad),us.length=n->Hc (NU i .none .none doc pm cd ct) ⟨us,[]⟩=pure (pn.zip us)
theorem DE{f i:Nat}{pn:List Str}(hf:RR.contains f=Ai)(h:By i pn.length pn):GS f i pn:=by
 intro s Y vs us vs' key dV kV DO hr hfill hl;unfold HW at hfill;rw[if_neg (by rw[hf];nofun)] at hfill
 induction key with
 |some g=>exact nn hfill
 |none=>
  obtain rfl:=sj hfill;refine A9 (DO.1 (λ q=>by rw[List.contains_iff_mem.mpr q] at hf;cases hf)) λ ξ1 H2=>?_;subst ξ1;subst H2
  refine⟨[],by rw[DT];exact hr,?_⟩;rw[DT];exact λ doc pm cd ct=>BindsTo.of_eq (h doc pm cd ct us (by rw[hr.length,hl]))
theorem pb28:By 2 1 ["addr"]:=λ doc pm cd ct us h=>Q5 h λ a=>by kernel_rfl
theorem zZ:By 7 3 ["a","b","n"]:=λ doc pm cd ct us h=>Vc h λ a b c=>by kernel_rfl
theorem pb35:By 3 1 ["addr"]:=λ doc pm cd ct us h=>Q5 h λ a=>by kernel_rfl
theorem pb42:By 4 1 ["email_header_fields"]:=λ doc pm cd ct us h=>Q5 h λ a=>by kernel_rfl
theorem zY:By 8 6 ["a12","a3","b","b1","b2","n"]:=λ doc pm cd ct us h=>len6 h λ a b c d e f=>by kernel_rfl
theorem zX:By 9 2 ["a","n"]:=λ doc pm cd ct us h=>P1 h λ a b=>by kernel_rfl
theorem zW:By 10 2 ["digits","n"]:=λ doc pm cd ct us h=>P1 h λ a b=>by kernel_rfl
theorem zV:By 11 2 ["a","b"]:=λ doc pm cd ct us h=>P1 h λ a b=>by kernel_rfl
theorem tP:By 12 2 ["a","b"]:=λ doc pm cd ct us h=>P1 h λ a b=>by kernel_rfl
theorem uC:By 22 2 ["ch_a","ch_b"]:=λ doc pm cd ct us h=>P1 h λ a b=>by kernel_rfl
theorem uB:By 23 3 ["a","b","max_cost"]:=λ doc pm cd ct us h=>Vc h λ a b c=>by kernel_rfl
theorem uA:By 25 2 ["row","i"]:=λ doc pm cd ct us h=>P1 h λ a b=>by kernel_rfl
theorem tZ:By 26 1 ["steps"]:=λ doc pm cd ct us h=>Q5 h λ a=>by kernel_rfl
theorem tY:By 27 3 ["goal","size","letters"]:=λ doc pm cd ct us h=>Vc h λ a b c=>by kernel_rfl
theorem tW:By 28 3 ["goal","row","turn"]:=λ doc pm cd ct us h=>Vc h λ a b c=>by kernel_rfl
theorem tV:By 29 4 ["ways","word","marks","turn"]:=λ doc pm cd ct us h=>cK h λ a b c d=>by kernel_rfl
theorem gH:By 30 2 ["q","a"]:=λ doc pm cd ct us h=>P1 h λ a b=>by kernel_rfl
theorem tU:By 31 1 ["order"]:=λ doc pm cd ct us h=>Q5 h λ a=>by kernel_rfl
theorem tT:By 32 1 ["item"]:=λ doc pm cd ct us h=>Q5 h λ a=>by kernel_rfl
theorem tS:By 33 2 ["row","left"]:=λ doc pm cd ct us h=>P1 h λ a b=>by kernel_rfl
theorem tR:By 34 4 ["way","letters","numbers","q"]:=λ doc pm cd ct us h=>cK h λ a b c d=>by kernel_rfl
theorem tQ:By 35 1 ["script"]:=λ doc pm cd ct us h=>Q5 h λ a=>by kernel_rfl
noncomputable abbrev LN:List Str:=["a","x","lo","hi","key"]
noncomputable def IZ{Z:Type}(S:Setting):List Obj->Sem Z->Option (List Aj×Z)
 |os,.pure a=>if os.isEmpty then Aa ([],a) else Ae
 |os,.rule _ k=>IZ S os (k ())
 |os,.point _ k=>IZ S os (k ())
 |os,.ask k=>IZ S os (k S)
 |os,.load a _ k=>match os with
  |[]=>Ae
  |o::os=>(IZ S os (k o)).map λ r=>(a::r.1,r.2)
 |_,_=>Ae
theorem QF{Z:Type}{M:Model}{Γ:Ctx}{Q:Z->Pos->Af->Prop}{E:Ad->Pos->Af->Prop}{p:Pos}{a:Z}(q:Q a p s):
  ∀(t:Sem Z) (os:List Obj) (as:List Aj),IZ ⟨M.prog,M.w.params⟩ os t=Aa (as,a)->(∀x∈as.zip os,s.heap.get? x.1=Aa x.2)->Sem.wp M Γ t Q E p s:=by
 intro t
 induction t with
 |pure b=>
  intro os as e h;refine iK e λ z e=>?_
  cases e;exact q
 |rule _ k ih=>intro os as e h;exact ih () os as e h
 |point _ k ih=>intro os as e h;exact ih () os as e h
 |ask k ih=>intro os as e h;exact ih _ os as e h
 |load b _ k ih=>
  intro os as e h
  induction os using Aq with
  |nil=>exact nn e
  |cons o os=>
   refine mK e λ r e1 e2=>?_
   cases e2
   exact⟨o,h _ (.head _),ih o os r.1 e1 λ x hx=>h x (.tail _ hx)⟩
 |_=>intro os as e h;exact nn e
theorem FI{fd:Gl}{args:Args}{binds:List (Str×Ad)}{os:List Obj}{as:List Aj}(e:∀S,IZ S os (Hc fd args)=Aa (as,binds))(h:∀x∈as.zip os,s.heap.get? x.1=Aa x.2):fN s fd args binds:=
 λ z z z z q z z z=>QF q _ os as (e _) h
structure VU(i:Nat):Prop where
 b2:∀S (T D:Aj) (doc pm cd ct x y c c':Ad) (d d':Option Aj) (t t':Tok) (n m:Nat) (hs:Int) (l l':Array (Option Ad)),IZ S [⟨c,d,.seq #[.int 0 t,.none] n,l⟩,⟨c',d',.dict #[⟨hs,.str "key" t',.none⟩] m,l'⟩] (Hc (NU i (.ref T) (.ref D) doc pm cd ct) ⟨[x,y],[]⟩)=Aa ([T,D],LN.zip [x,y,.int 0 t,.none,.none])
 b3:∀S (T D:Aj) (doc pm cd ct x y z c c':Ad) (d d':Option Aj) (t t':Tok) (n m:Nat) (hs:Int) (l l':Array (Option Ad)),IZ S [⟨c,d,.seq #[.int 0 t,.none] n,l⟩,⟨c',d',.dict #[⟨hs,.str "key" t',.none⟩] m,l'⟩] (Hc (NU i (.ref T) (.ref D) doc pm cd ct) ⟨[x,y,z],[]⟩)=Aa ([T,D],LN.zip [x,y,z,.none,.none])
 b4:∀S (T D:Aj) (doc pm cd ct x y z u c c':Ad) (d d':Option Aj) (t t':Tok) (n m:Nat) (hs:Int) (l l':Array (Option Ad)),IZ S [⟨c,d,.seq #[.int 0 t,.none] n,l⟩,⟨c',d',.dict #[⟨hs,.str "key" t',.none⟩] m,l'⟩] (Hc (NU i (.ref T) (.ref D) doc pm cd ct) ⟨[x,y,z,u],[]⟩)=Aa ([T,D],LN.zip [x,y,z,u,.none])
 k2:∀S (T D:Aj) (doc pm cd ct x y g c:Ad) (d:Option Aj) (t:Tok) (n:Nat) (l:Array (Option Ad)),IZ S [⟨c,d,.seq #[.int 0 t,.none] n,l⟩] (Hc (NU i (.ref T) (.ref D) doc pm cd ct) ⟨[x,y],[("key",g)]⟩)=Aa ([T],LN.zip [x,y,.int 0 t,.none,g])
 k3:∀S (T D:Aj) (doc pm cd ct x y z g c:Ad) (d:Option Aj) (t:Tok) (n:Nat) (l:Array (Option Ad)),IZ S [⟨c,d,.seq #[.int 0 t,.none] n,l⟩] (Hc (NU i (.ref T) (.ref D) doc pm cd ct) ⟨[x,y,z],[("key",g)]⟩)=Aa ([T],LN.zip [x,y,z,.none,g])
 k4:∀S (T D:Aj) (doc pm cd ct x y z u g c:Ad) (d:Option Aj) (t:Tok) (n:Nat) (l:Array (Option Ad)),IZ S [⟨c,d,.seq #[.int 0 t,.none] n,l⟩] (Hc (NU i (.ref T) (.ref D) doc pm cd ct) ⟨[x,y,z,u],[("key",g)]⟩)=Aa ([T],LN.zip [x,y,z,u,g])
theorem wR:VU 14:=⟨by intros;kernel_rfl,by intros;kernel_rfl,by intros;kernel_rfl,by intros;kernel_rfl,by intros;kernel_rfl,by intros;kernel_rfl⟩
theorem wQ:VU 15:=⟨by intros;kernel_rfl,by intros;kernel_rfl,by intros;kernel_rfl,by intros;kernel_rfl,by intros;kernel_rfl,by intros;kernel_rfl⟩
theorem wP:VU 16:=⟨by intros;kernel_rfl,by intros;kernel_rfl,by intros;kernel_rfl,by intros;kernel_rfl,by intros;kernel_rfl,by intros;kernel_rfl⟩
theorem wO:VU 17:=⟨by intros;kernel_rfl,by intros;kernel_rfl,by intros;kernel_rfl,by intros;kernel_rfl,by intros;kernel_rfl,by intros;kernel_rfl⟩
theorem dI{h:AV}{T:Aj}{o:Obj}(e:h.get? T=Aa o):∀x∈[T].zip [o],h.get? x.1=Aa x.2:=λ x hx=>by rw[List.mem_singleton.mp hx];exact e
theorem nK{h:AV}{T D:Aj}{o p:Obj}(e:h.get? T=Aa o)(e':h.get? D=Aa p):∀x∈[T,D].zip [o,p],h.get? x.1=Aa x.2:=λ x hx=>(AL.mp hx).elim (λ q=>q▸e) (dI e' x)
theorem Fq{f i:Nat}(hf:f∈RR)(F:VU i):GS f i LN:=by
 intro s Y vs us vs' key dV kV DO hr hfill hl;unfold HW at hfill;rw[if_pos (List.contains_iff_mem.mpr hf)] at hfill
 induction DO.2 hf with
 |mk T D o od t t' n m hs e1 n1 h1 d1 e2 n2 h2 d2=>
 subst e1 e2;obtain⟨c,d,dt,l⟩:=o;obtain⟨c',d',dt',l'⟩:=od;subst d1;subst d2;rcases vs with _|⟨a,_|⟨b,_|⟨e,r⟩⟩⟩
 ·exact nn hfill
 ·exact nn hfill
 ·obtain rfl:=sj hfill;refine E1 hr.two λ x y H3 w=>?_;subst H3
  induction key with
  |none=>exact⟨[.int 0 t,.none,.none],hr.append ⟨_,_,rfl,⟨t,rfl⟩,_,_,rfl,rfl,_,_,rfl,rfl,rfl⟩,λ doc pm cd ct=>FI (λ S=>F.b2 S T D doc pm cd ct x y c c' d d' t t' n m hs l l') (nK h1 h2)⟩
  |some g=>exact⟨[.int 0 t,.none,.ref g],hr.append ⟨_,_,rfl,⟨t,rfl⟩,_,_,rfl,rfl,_,_,rfl,rfl,rfl⟩,λ doc pm cd ct=>FI (λ S=>F.k2 S T D doc pm cd ct x y (.ref g) c d t n l) (dI h1)⟩
 ·induction r using Aq with
  |nil=>
   obtain rfl:=sj hfill;obtain⟨x,y,z,rfl⟩:=Vc (C:=λ us=>∃a b c,us=[a,b,c]) hr.length λ a b c=>⟨a,b,c,rfl⟩
   induction key with
   |none=>exact⟨[.none,.none],hr.append ⟨_,_,rfl,rfl,_,_,rfl,rfl,rfl⟩,λ doc pm cd ct=>FI (λ S=>F.b3 S T D doc pm cd ct x y z c c' d d' t t' n m hs l l') (nK h1 h2)⟩
   |some g=>exact⟨[.none,.ref g],hr.append ⟨_,_,rfl,rfl,_,_,rfl,rfl,rfl⟩,λ doc pm cd ct=>FI (λ S=>F.k3 S T D doc pm cd ct x y z (.ref g) c d t n l) (dI h1)⟩
  |cons e' r=>
   refine iK hfill λ hk e=>?_;obtain rfl:=sj e
   induction r using Aq with
   |cons=>exact nf hk
   |nil=>
    obtain⟨x,y,z,u,rfl⟩:=cK (C:=λ us=>∃a b c d,us=[a,b,c,d]) hr.length λ a b c d=>⟨a,b,c,d,rfl⟩
    induction key with
    |none=>exact⟨[.none],hr.append ⟨_,_,rfl,rfl,rfl⟩,λ doc pm cd ct=>FI (λ S=>F.b4 S T D doc pm cd ct x y z u c c' d d' t t' n m hs l l') (nK h1 h2)⟩
    |some g=>exact⟨[.ref g],hr.append ⟨_,_,rfl,rfl,rfl⟩,λ doc pm cd ct=>FI (λ S=>F.k4 S T D doc pm cd ct x y z u (.ref g) c d t n l) (dI h1)⟩
structure qI where
 f:Nat
 i:Nat
 ns:Nat
 pn:List Str
 b:E5
def OH:List qI:=[⟨28,2,Fc,["addr"],BM⟩,⟨35,3,G1,["addr"],Cs⟩,⟨42,4,FP,["email_header_fields"],FV⟩,
 ⟨49,7,Pg,["a","b","n"],CR⟩,⟨56,8,Pf,["a12","a3","b","b1","b2","n"],Iy⟩,⟨77,11,Ln,["a","b"],DF⟩,⟨84,12,Lm,["a","b"],IV⟩,
 ⟨102,15,JA,LN,EN⟩,⟨120,17,Kz,LN,Fg⟩,⟨127,22,GY,["ch_a","ch_b"],G3⟩,⟨134,23,FQ,["a","b","max_cost"],Az⟩,
 ⟨141,25,I8,["row","i"],Ja⟩,⟨148,26,Pe,["steps"],PB⟩,⟨153,27,NM,["goal","size","letters"],Ol⟩,⟨158,28,NN,["goal","row","turn"],IU⟩,
 ⟨165,29,Pd,["ways","word","marks","turn"],PA⟩,⟨177,31,GZ,["order"],G4⟩,⟨184,32,Ll,["item"],LA⟩,⟨198,34,MJ,["way","letters","numbers","q"],MR⟩]
structure Zn(e:qI):Prop where
 mem:(e.f,e.i)∈Fe
 d:Dh e.i e.pn=Ab
 nd:e.pn.Nodup
 chk:Ct (C0 (AA e.i)) e.b (AA e.i).body=Ab
 bind:GS e.f e.i e.pn
noncomputable def Zx(f:Nat)(l:List qI):Option qI:=l.find? λ e=>AG f e.f
theorem T6{f:Nat}{e:qI}{l:List qI}(h:Zx f l=Aa e):e∈l/\e.f=f:=⟨List.mem_of_find?_eq_some h,(Av (List.find?_some h:)).symm⟩
theorem EK{f i ns nn:Nat}{pn:List Str}{b:E5}(h:(Fe.contains (f,i)&&Dh i pn&&decide pn.Nodup&&!RR.contains f)=Ab)(hc:Ct (C0 (AA i)) b (AA i).body=Ab)(hb:By i nn pn)(hl:pn.length=nn:=by rfl):Zn ⟨f,i,ns,pn,b⟩:=by subst hl;simp only [Co,BG,decide_eq_true_eq] at h;exact⟨List.contains_iff_mem.mp h.1.1.1,h.1.1.2,h.1.2,hc,DE h.2 hb⟩
theorem T4{f i ns:Nat}{b:E5}(h:(Fe.contains (f,i)&&Dh i LN&&decide LN.Nodup&&RR.contains f)=Ab)(hc:Ct (C0 (AA i)) b (AA i).body=Ab)(F:VU i):Zn ⟨f,i,ns,LN,b⟩:=by simp only [Co,decide_eq_true_eq] at h;exact⟨List.contains_iff_mem.mp h.1.1.1,h.1.1.2,h.1.2,hc,Fq (List.contains_iff_mem.mp h.2) F⟩
theorem Wx:∀e∈OH,Zn e:=by have c1:=EK (ns:=Fc) (f:=28) (by decide+kernel) Hw pb28;have c2:=EK (ns:=G1) (f:=35) (by decide+kernel) Jl pb35;have c3:=EK (ns:=FP) (f:=42) (by decide+kernel) H7 pb42;have c4:=EK (ns:=Pg) (f:=49) (by decide+kernel) Rx zZ;have c5:=EK (ns:=Pf) (f:=56) (by decide+kernel) Rw zY;have c6:=EK (ns:=Ln) (f:=77) (by decide+kernel) N9 zV;have c7:=EK (ns:=Lm) (f:=84) (by decide+kernel) N8 tP;have c8:=T4 (ns:=JA) (f:=102) (by decide+kernel) Ml wQ;have c9:=T4 (ns:=Kz) (f:=120) (by decide+kernel) MU wO;have c10:=EK (ns:=GY) (f:=127) (by decide+kernel) Jj uC;have c11:=EK (ns:=FQ) (f:=134) (by decide+kernel) H8 uB;have c12:=EK (ns:=I8) (f:=141) (by decide+kernel) Ly uA;have c13:=EK (ns:=Pe) (f:=148) (by decide+kernel) Rv tZ;have c14:=EK (ns:=NM) (f:=153) (by decide+kernel) Qh tY;have c15:=EK (ns:=NN) (f:=158) (by decide+kernel) Qi tW;have c16:=EK (ns:=Pd) (f:=165) (by decide+kernel) Ru tV;have c17:=EK (ns:=GZ) (f:=177) (by decide+kernel) Jk tU;have c18:=EK (ns:=Ll) (f:=184) (by decide+kernel) N7 tT;have c19:=EK (ns:=MJ) (f:=198) (by decide+kernel) OO tR;exact List.forall_mem_cons.mpr ⟨c1,List.forall_mem_cons.mpr ⟨c2,List.forall_mem_cons.mpr ⟨c3,List.forall_mem_cons.mpr ⟨c4,List.forall_mem_cons.mpr ⟨c5,List.forall_mem_cons.mpr ⟨c6,List.forall_mem_cons.mpr ⟨c7,List.forall_mem_cons.mpr ⟨c8,List.forall_mem_cons.mpr ⟨c9,List.forall_mem_cons.mpr ⟨c10,List.forall_mem_cons.mpr ⟨c11,List.forall_mem_cons.mpr ⟨c12,List.forall_mem_cons.mpr ⟨c13,List.forall_mem_cons.mpr ⟨c14,List.forall_mem_cons.mpr ⟨c15,List.forall_mem_cons.mpr ⟨c16,List.forall_mem_cons.mpr ⟨c17,List.forall_mem_cons.mpr ⟨c18,List.forall_mem_cons.mpr ⟨c19,(λ _ h=>absurd h List.not_mem_nil)⟩⟩⟩⟩⟩⟩⟩⟩⟩⟩⟩⟩⟩⟩⟩⟩⟩⟩⟩
theorem XO:G8 (C0 (AA 14)) 102 (AA 14).body:=.mk (by kernel_rfl) (by kernel_rfl) (by kernel_rfl) (by kernel_rfl) (by kernel_rfl) (by kernel_rfl) (by kernel_rfl) (by kernel_rfl) (by kernel_rfl) (by kernel_rfl) (by kernel_rfl) (by kernel_rfl) (by kernel_rfl) (by kernel_rfl) (by kernel_rfl) (by kernel_rfl) (by kernel_rfl) (by kernel_rfl) (by kernel_rfl) (by kernel_rfl) (by kernel_rfl)
theorem XN:G8 (C0 (AA 16)) 120 (AA 16).body:=.mk (by kernel_rfl) (by kernel_rfl) (by kernel_rfl) (by kernel_rfl) (by kernel_rfl) (by kernel_rfl) (by kernel_rfl) (by kernel_rfl) (by kernel_rfl) (by kernel_rfl) (by kernel_rfl) (by kernel_rfl) (by kernel_rfl) (by kernel_rfl) (by kernel_rfl) (by kernel_rfl) (by kernel_rfl) (by kernel_rfl) (by kernel_rfl) (by kernel_rfl) (by kernel_rfl)
theorem YO:Dh 14 LN=Ab:=by decide+kernel
theorem YN:Dh 16 LN=Ab:=by decide+kernel
theorem Xr(N:AJ K C env)(I:AX mg mb C J U s){x:Str}{k:Nat}{ks:List V}(hz:EI K x k=Ab)(h:rd U k=.w (.list ks)):ks.length<=CN:=by
 have a:=N.acc x k (Gb hz).1;have fin:∀o,Slot s.heap (Am C J U) (J k) (rd U k) o->ks.length<=CN:=λ o q=>by
  rw[h] at q
  induction o with
  |none=>induction q
  |some v=>exact q.1
 cases e:C.loc k with
 |no=>rw[e] at a;induction a
 |dict D y=>exact AF (I.dicts D ⟨k,y,e⟩) λ m z hm=>fin _ (hm k y e)
 |cell c=>exact AF (I.cells k c e) λ v z hm=>fin _ hm
theorem bD(X:Cx mg mb w G n A)(Fr:J9 mg mb w G n){i f:Nat}{es:Fu}:OT mg mb w A G F (.asgOc i f es):=λ K C env U s res N h he=>by refine aK h λ q h1 h2=>?_;refine F1 (J1 h1) λ p p' H3=>?_;subst H3;refine Ms h2 λ c1 c2 h3=>?_;have:=Av h3;subst this;exact mE he λ xs e1=>bK (show((IS G es U).bind λ vs=>(G 42 vs Ae).bind BD)=Aa xs from e1) λ vs e2 e3=>bK e3 λ u e4 e5=>WJ X Fr N c1 c2 e2 (Cu e5▸e4)
theorem Xb(X:Cx mg mb w G n A)(hA:BQ (n+1) A){f i:Nat}{e:Ex}{key:Option Nat}:OT mg mb w A G F (.n f i e key):=λ K C env U s res N h he=>by
 refine aK h λ x h1 h2=>?_;refine Aw (Po h1) λ p0 H2=>?_;subst H2;refine aK h2 λ q h3 h4=>cE h3 λ p1 p2=>Ms h4 λ c1 c4 h5=>aK h5 λ r h6 h7=>CJ h7 λ h7 h8=>aK h7 λ y h9 c2=>aK h8 λ z h10 c3=>Aw (BL h9) λ p3 h9=>?_;rw[Fp h6,h9,Cv h10];refine HX (show((EE (rd U i)).bind λ xs=>(ev G e U).bind λ v=>(IP G f key xs v).map λ ys=>(Fl.next,wr U i (.x ys)))=Aa res from he) λ xs ea e1=>bK e1 λ v e2 e3=>?_;refine mE e3 λ ys e4=>?_;refine bK (show((match key with|none=>Aa v|some g=>G g [v] Ae).bind λ kx=>((Ca (f==111) (G 120 [.list xs,kx,.int 0,.none] key) (Ca (f==93) (G 102 [.list xs,kx,.int 0,.none] key) Ae)).bind Bb).bind λ p=>if 0<=p/\p.toNat<=xs.length/\xs.length<CN then Aa (JC xs p.toNat v) else Ae)=Aa ys from e4) λ kx e5 e6=>?_
 have hkx:P3 G key v=Aa kx:=by induction key<;>exact e5
 refine HY e6 λ p e7 e8=>iK e8 λ hz e9=>?_;obtain rfl:=sj e9;have hx:=BP X e K C env U _ v N c3 e2;refine A9 (HU e7) λ g1 g2=>?_
 cases hf:f==111 with
 |true=>rw[eq_of_beq hf] at c1;exact Q9 N X.S hA (by decide) YN (by decide) rfl XN rfl (Fq (by decide) wP) c1 c2 ea hx (AH c3) (M6 c4) hkx (g1 hf) hz.1 hz.2.1 hz.2.2
 |false=>refine A9 (Hf (g2 hf)) λ g3 g4=>?_;rw[eq_of_beq g3] at c1;exact Q9 N X.S hA (by decide) YO (by decide) rfl XO rfl (Fq (by decide) wR) c1 c2 ea hx (AH c3) (M6 c4) hkx g4 hz.1 hz.2.1 hz.2.2
theorem kW(X:Cx mg mb w G n A){i k:Nat}{vs:List Nat}:OT mg mb w A G F (.pops i j vs k):=λ K C env U s res N h he=>by refine aK h λ q h1 h2=>?_;refine F1 (J1 h1) λ p p' H3=>?_;subst H3;refine Ms h2 λ c1 c8 h3=>aK h3 λ c h4 h5=>Aw (Mf h4) λ p1 h4=>aK h5 λ g h6 h7=>bK h6 λ g0 h8 h9=>iK h9 λ ha h9=>?_;obtain rfl:=sj h9;refine Zh h7 λ h27 h12 h11 h10=>aK h11 λ z h13 c2=>aK h10 λ m h14 h15=>CJ h15 λ h28 h16=>aK h16 λ K' c4 h17=>aK h17 λ v h18 h19=>Ms h19 λ h19 h21 h20=>aK h19 λ y h22 c5=>aK h21 λ a h23 h24=>aK h24 λ pn h25 c6=>aK h20 λ pn' h26 c7=>A9 (Qm h14) λ c0 h14=>Aw (BL h13) λ p2 h13=>Aw (BL h22) λ p3 h22=>Aw (BL h25) λ p4 h25=>Aw (BL h26) λ p5 h26=>?_;have hv:=Cv h18;subst hv;refine A9 (Hf (show Ca (noOwn [v] U&&[v].all λ v=>decide (v<U.length)) ((EE (rd U j)).bind λ left=>((Bv (rd U k)).bind BD).bind λ ks=>(L2 ks left).map λ r=>(Fl.next,wr (wr U j (.x r.2)) i (.w (.list r.1)))) Ae=Aa res from he)) λ hb e1=>HX e1 λ left el e2=>Oj e2 λ ks e3 e4=>?_;have ek:=Hy e3;refine mE e4 λ r e5=>?_;intro J s I;rw[h4,Fp h8,BC h27,J4 (of_decide_eq_true ha) (BC h12),h14,h13,h22,h26,Cv h23,h25,Dj h28];exact ZW N X.hA.hd c0 c1 c2 c4 c5 c6 c7 c8 el ek (of_decide_eq_true (Al.mp (B6 hb).2 v (.head _))) (Q4 (B6 hb).1 v (.head _)) e5 (by rw[(MI e5).1];exact Xr N I c2 ek) J s I
theorem sD(X:Cx mg mb w G n A)(hA:BQ (n+1) A)(Fr:J9 mg mb w G n){st:St}(hs:TG st=Ab):OT mg mb w A G F st:=by
 induction st using St.casesOn<;>first|exact nf hs|skip
 ·exact bD X Fr
 ·exact Xb X hA
 ·exact kW X
theorem fV(S:HC mg mb w G n)(Fr:J9 mg mb w G n)(h4:4<=n)(A:Br)(hA:BQ (n+1) A):Sx mg mb w G n F A:=
 have X:=⟨S,hA.less (Dw _),LZ S hA⟩
 ⟨X,λ N hf ht hpl hv hcs=>X4 (hA.less (by exact Nat.le_add_of_sub_le h4)) N hf ht hpl hv hcs,λ hs N h he=>sD X hA Fr hs _ _ _ _ _ _ N h he⟩
noncomputable def qZ(f:Nat)(fl:Fl):Option V:=@Fl.casesOn (λ _=>Option V) fl (if AG f 42 then Ae else Aa .none) (λ v=>if AG f 42 then Ae else Aa v) λ xs=>Aa (.list xs)
theorem Wr{Z:Type}{c:Prop}[Decidable c]{a b:Z}(h:(if c then Ae else Aa a)=Aa b):a=b:=by
 by_cases q:c
 ·exact nn ((if_pos q).symm.trans h)
 ·exact sj ((if_neg q).symm.trans h)
def UW(G:EZ)(F:Nat)(f:Nat)(vs:List V)(key:Option Nat):Option V:=(Zx f OH).bind λ e=>(HW f vs key).bind λ vs'=>if vs'.length=e.pn.length then(Bw G F e.b (Ei vs' e.ns)).bind λ r=>qZ f r.1 else Ae
theorem TK(S:HC mg mb w G n)(Fr:J9 mg mb w G n)(h4:4<=n){f:Nat}{vs:List V}{key:Option Nat}(h:UW G F f vs key=Aa r)(hA:BQ (n+2) A)(g:GI mg mb s){Y:Aj->Prop}(hY:∀b,Y b->∃o,s.heap.get? b=Aa o){us:List Ad}(hr:AI s.heap Y vs us):
  ∃fl,qZ f fl=Aa r/\Ok mg mb w A s (C2 (.ref f) us (Kh key)) λ s' v=>KC s s' Y fl v:=by
 refine bK h λ e h1 h=>bK h λ vs' h2 h=>iK h λ hl h=>bK h λ p h3 h5=>?_;refine A9 (T6 h1) λ hm H2=>?_;subst H2;have E:=Wx e hm;exact⟨p.1,h5,wA E.mem E.d E.nd E.chk E.bind (λ A hA=>fV S Fr h4 A hA) h2 hl h3 hA g hY hr⟩
theorem J3{Y:Aj->Prop}(g:GI mg mb s')(hY:∀b,Y b->∃o,s.heap.get? b=Aa o){f:Nat}{v:Ad}(h:qZ f fl=Aa r)(x:KC s s' Y fl v):A6 s'.heap Y r v:=by
 induction fl using Fl.casesOn with
 |next=>exact Wr h▸x
 |ret v=>exact Wr h▸x
 |reto xs=>obtain rfl:=sj h;refine A9 x λ hz H=>?_;refine Hm H λ a us e ha hl hr=>?_;refine⟨hz,a,us,e,λ y=>?_,hl,AI.mono (.refl _) g.cls (λ b o z y=>.inl y) hr⟩;exact Aw (hY a y) λ o e=>nn (ha.symm.trans e)
theorem aO{f:Nat}{vs:List V}{key:Option Nat}(h:UW G F f vs key=Aa r):∃i,(f,i)∈Fe:=by refine bK h λ e h1 h=>?_;refine A9 (T6 h1) λ hm H2=>?_;subst H2;exact⟨e.i,(Wx e hm).mem⟩
section
theorem AX.notFn(I:AX mg mb C J U s){b:Aj}{o:Obj}(e:s.heap.get? b=Aa o)(hd:(∃fd,o.data=.func fd)\/∃vs,o.data=.fields vs):¬C.mine b/\∀i xs,rd U i=.x xs->J i≠b:=by
 refine⟨λ h=>?_,λ i xs h q=>?_⟩
 ·rcases h with⟨i,x,q⟩|⟨i,q⟩
  ·refine AF (I.dicts b ⟨i,x,q⟩) λ m H2 z=>?_;refine Lb H2 λ o' es ep e2 d2 z=>?_;rw[e] at e2;obtain rfl:=sj e2;rw[d2] at hd;rcases hd with⟨_,h⟩|⟨_,h⟩<;>cases h
  ·refine AF (I.cells i b q) λ v H2 z=>?_;refine AF H2 λ o' e2 d2=>?_;rw[e] at e2;obtain rfl:=sj e2;rw[d2] at hd;rcases hd with⟨_,h⟩|⟨_,h⟩<;>cases h
 ·refine CA (I.owns i xs h) λ z z z H=>?_;refine AF H λ vs H2 z=>?_;obtain⟨n,e2⟩:=H2;rw[q,e] at e2;obtain rfl:=sj e2;rcases hd with⟨_,h⟩|⟨_,h⟩<;>cases h
theorem AX.mvC(I:AX mg mb C J U s)(g':GI mg mb s'){Wc Wo:Aj->Prop}(hWc:∀b,Wc b->∃j,C.loc j=.cell b)(hWo:∀b,Wo b->∃i xs,rd U i=.x xs/\b=J i)
  (hρ:∀j,rd U'2 j=rd U j\/∃xs ys,rd U j=.x xs/\rd U'2 j=.x ys)
  (hk:∀b o,¬Tb b->¬Wo b->¬Wc b->s.heap.get? b=Aa o->s'.heap.get? b=Aa o) (hge:∀(j:Nat) x,s.gens[j]?=Aa x->s'.gens[j]?=Aa x) (hos:s'.os=s.os)
  (hc:∀j c,C.loc j=.cell c->Wc c->∃v,s'.heap.IsCell c v/\Slot s'.heap (Am C J U) (J j) (rd U'2 j) v)
  (ho:∀j ys,rd U'2 j=.x ys->(Wo (J j)->ys.length<=CN/\∃vs,s'.heap.PlainList (J j) vs/\AI s'.heap (Am C J U) ys vs.toList)/\(¬Wo (J j)->rd U'2 j=rd U j)):
  AX mg mb C J U'2 s'/\CT C J U s J U'2 s':=by
 have own:∀j zs,rd U'2 j=.x zs->∃us,rd U j=.x us:=λ j zs e=>by
  rcases hρ j with q|⟨xs,ys,q,_⟩
  ·exact⟨zs,q▸e⟩
  ·exact⟨xs,q⟩
 have own':∀j zs,rd U j=.x zs->∃us,rd U'2 j=.x us:=λ j zs e=>by
  rcases hρ j with q|⟨xs,ys,_,q⟩
  ·exact⟨zs,q.trans e⟩
  ·exact⟨ys,q⟩
 have av:∀b,Am C J U'2 b↔Am C J U b:=λ b=>by
  constructor
  ·rintro (y|y|⟨j,zs,e1,e2⟩)
   ·exact .inl y
   ·exact .inr (.inl y)
   ·exact Aw (own j zs e1) λ us e=>.inr (.inr ⟨j,us,e,e2⟩)
  ·rintro (y|y|⟨j,zs,e1,e2⟩)
   ·exact .inl y
   ·exact .inr (.inl y)
   ·exact Aw (own' j zs e1) λ us e=>.inr (.inr ⟨j,us,e,e2⟩)
 have wm:∀b,Wc b->C.mine b:=λ b h=>.inr (hWc b h);have hkY:∀b o,¬Tb b->¬Am C J U b->s.heap.get? b=Aa o->s'.heap.get? b=Aa o:=λ b o nt y e=>hk b o nt (λ q=>by(refine E1 (hWo b q) λ i xs e1 ξ4=>?_;subst ξ4);exact y (.inr (.inr ⟨i,xs,e1,rfl⟩))) (λ q=>y (.inr (.inl (wm b q)))) e;have up:∀V u,A6 s.heap (Am C J U) V u->A6 s'.heap (Am C J U'2) V u:=λ V u r=>r.monoY hkY I.gi.cls λ b o w y=>(av b).mp y;have ups:∀V u,AI s.heap (Am C J U) V u->AI s'.heap (Am C J U'2) V u:=λ V u r=>AI.monoY hkY I.gi.cls (λ b o w y=>(av b).mp y) r;have slot:∀j o,Slot s.heap (Am C J U) (J j) (rd U j) o->Slot s'.heap (Am C J U'2) (J j) (rd U'2 j) o:=λ j o q=>by
  rcases hρ j with e|⟨xs,ys,e1,e2⟩
  ·rw[e];exact q.mono up
  ·rw[e1] at q;rw[e2]
   induction o with
   |none=>exact q
   |some v=>exact q
 have slot2:∀j o,Slot s'.heap (Am C J U) (J j) (rd U'2 j) o->Slot s'.heap (Am C J U'2) (J j) (rd U'2 j) o:=λ j o q=>q.mono λ V u r=>r.mono (.refl _) g'.cls λ b o w y=>(av b).mp y;have woM:∀b,Wo b->¬C.mine b:=λ b h=>by(refine E1 (hWo b h) λ i xs e ξ4=>?_;subst ξ4);exact(I.owns i xs e).2.1
 have thr:∀b,(∃o,s.heap.get? b=Aa o)->∃o,s'.heap.get? b=Aa o:=λ b ⟨o,e⟩=>by
  by_cases t:Tb b
  ·refine Aw (g'.wd.tb b t) λ vs e=>?_;exact⟨_,e⟩
  ·by_cases q:Wo b
   ·refine E1 (hWo b q) λ i xs e1 ξ4=>?_;subst ξ4;refine Aw (own' i xs e1) λ us e2=>?_;refine A9 ((ho i us e2).1 q) λ w H=>?_;refine AF H λ vs H2 w=>?_;obtain⟨n,e3⟩:=H2;exact⟨_,e3⟩
   ·by_cases q2:Wc b
    ·refine Aw (hWc b q2) λ j e1=>?_;refine AF (hc j b e1 q2) λ v H2 w=>?_;refine AF H2 λ o e2 w=>?_;exact⟨o,e2⟩
    ·exact⟨o,hk b o t q q2 e⟩
 have nbase:∀b o,C.base.get? b=Aa o->¬Wo b/\¬Wc b:=λ b o e=>⟨λ q=>(by refine E1 (hWo b q) λ i xs e1 ξ4=>?_;subst ξ4;rw[(I.owns i xs e1).1] at e;exact nn e),λ q=>(by rw[I.new b (wm b q)] at e;exact nn e)⟩
 refine⟨{
  gi:=g'
  keep:=λ b o n e=>hk b o n (nbase b o e).1 (nbase b o e).2 (I.keep b o n e)
  wd0:=I.wd0
  y0:=λ b h=>thr b (I.y0 b h)
  tb:=I.tb,new:=I.new,inj:=I.inj
  dicts:=λ D hD=>by refine AF (I.dicts D hD) λ m n hm2=>⟨m,n.at λ o e=>hk D o (I.mineTb (.inl hD)) (λ q=>woM D q (.inl hD)) (λ q=>?_) e,λ j x e=>slot j _ (hm2 j x e)⟩;refine Aw (hWc D q) λ j e1=>?_;refine AF (I.cells j D e1) λ v H2 w=>?_;refine AF H2 λ o e2 d2=>?_;refine Lb n λ o' es ep e3 d3 w=>?_;rw[e2] at e3;obtain rfl:=sj e3;rw[d2] at d3;cases d3
  cells:=λ j c e=>by
   by_cases q:Wc c
   ·exact AF (hc j c e q) λ v h1 h2=>⟨v,h1,slot2 j _ h2⟩
   ·refine AF (I.cells j c e) λ v H2 h3=>?_;refine AF H2 λ o h1 h2=>?_;exact⟨v,⟨o,hk c o (I.mineTb (.inr ⟨j,e⟩)) (λ z=>woM c z (.inr ⟨j,e⟩)) q h1,h2⟩,slot j _ h3⟩
  owns:=λ j zs e=>by
   refine Aw (own j zs e) λ us e0=>?_;refine CA (I.owns j us e0) λ h1 h2 h3 H=>?_;refine AF H λ vs H2 h5=>?_;obtain⟨n,h4⟩:=H2
   by_cases q:Wo (J j)
   ·refine A9 ((ho j zs e).1 q) λ p1 H=>?_;refine AF H λ vs' p2 p3=>?_;exact⟨h1,h2,p1,vs',p2,AI.mono (.refl _) g'.cls (λ b o w y=>(av b).mp y) p3⟩
   ·have e1:=(ho j zs e).2 q;rw[e,e0] at e1
    cases e1
    exact⟨h1,h2,h3,vs,⟨n,hk _ _ (I.ownTb e0) q (λ z=>h2 (wm _ z)) h4⟩,ups _ _ h5⟩
  ownY:=λ j zs e=>by refine Aw (own j zs e) λ us e=>?_;exact I.ownY j us e
  apart:=λ j k zs us e1 e2 e3=>by refine Aw (own j zs e1) λ w e1=>Aw (own k us e2) λ w e2=>?_;exact I.apart j k _ _ e1 e2 e3},⟨λ b o n m ow e=>hk b o n (λ q=>by(refine E1 (hWo b q) λ i xs e1 ξ4=>?_;subst ξ4);exact ow i xs e1 rfl) (λ q=>m (wm b q)) e,λ j zs e=>?_,hge,hos,thr⟩⟩
 exact Aw (own j zs e) λ us e=>.inl ⟨j,us,e,rfl⟩
noncomputable def Hv(C:Er)(Y:Aj->Prop)(L:Aj)(nL:Nat)(nm:Nat->Str)(cs:Nat->Option (Aj×Nat)):Er:=
 ⟨λ k=>if k<nL then .dict L (nm k) else match cs k with|some p=>.cell p.1|none=>.no,Y,C.base⟩
def RQ(C:Er)(J:Nat->Aj)(U:AQ)(cs:Nat->Option (Aj×Nat)):Aj->Prop:=
 λ b=>Am C J U b/\∀k p,cs k=Aa p->b≠p.1/\∀xs,rd U p.2=.x xs->b≠J p.2
theorem FD{Y:Aj->Prop}{L:Aj}{nL:Nat}{nm:Nat->Str}{cs:Nat->Option (Aj×Nat)}{k:Nat}:(∃x,(Hv C Y L nL nm cs).loc k=.dict L x/\k<nL/\x=nm k)\/(∃p,(Hv C Y L nL nm cs).loc k=.cell p.1/\¬k<nL/\cs k=Aa p)\/((Hv C Y L nL nm cs).loc k=.no/\¬k<nL/\cs k=Ae):=by
 by_cases h:k<nL
 ·exact .inl ⟨nm k,by show(if k<nL then _ else _)=_;rw[if_pos h],h,rfl⟩
 ·right
  cases e:cs k with
  |some p=>exact .inl ⟨p,by show(if k<nL then _ else _)=_;rw[if_neg h,e],h,rfl⟩
  |none=>exact .inr ⟨by show(if k<nL then _ else _)=_;rw[if_neg h,e],h,rfl⟩
noncomputable def wU(b:Nat)(p0 p1 p2:Aj×Nat)(k:Nat):Option (Aj×Nat):=if k=b then Aa p0 else if k=b+1 then Aa p1 else if k=b+2 then Aa p2 else Ae
noncomputable def zH(J:Nat->Aj)(b:Nat)(p0 p1 p2:Aj×Nat)(k:Nat):Aj:=if k=b then J p0.2 else if k=b+1 then J p1.2 else J p2.2
theorem Fi{b:Nat}{p0 p1 p2:Aj×Nat}{P:Nat->Aj×Nat->Prop}(h0:P b p0)(h1:P (b+1) p1)(h2:P (b+2) p2):∀k p,wU b p0 p1 p2 k=Aa p->P k p:=λ k p h=>by
 have h:(if k=b then Aa p0 else if k=b+1 then Aa p1 else if k=b+2 then Aa p2 else Ae)=Aa p:=h
 by_cases q:k=b
 ·rw[if_pos q] at h;rw[q,<-sj h];exact h0
 ·rw[if_neg q] at h
  by_cases q:k=b+1
  ·rw[if_pos q] at h;rw[q,<-sj h];exact h1
  ·rw[if_neg q] at h;exact iK h λ q h=>by rw[q,<-sj h];exact h2
structure UC(C:Er)(J:Nat->Aj)(U:AQ)(nL:Nat)(cs:Nat->Option (Aj×Nat))(J':Nat->Aj)(U'1:AQ):Prop where
 loc:∀k p,cs k=Aa p->C.loc p.2=.cell p.1
 inj:∀k p,cs k=Aa p->∀k' p',cs k'=Aa p'->p.2=p'.2->k=k'
 hi:∀k p,cs k=Aa p->¬k<nL
 sg:∀k p,cs k=Aa p->J' k=J p.2
 rh:∀k p,cs k=Aa p->rd U'1 k=rd U p.2
 own:∀k zs,rd U'1 k=.x zs->∃p,cs k=Aa p
noncomputable def KP:LV->Bool
 |.x _=>Ai
 |_=>Ab
noncomputable def PX:Nat->List LV->Bool
 |_,[]=>Ab
 |0,_::r=>r.all KP
 |n+1,x::r=>KP x&&PX n r
theorem lN:∀{U:List LV},U.all KP=Ab->∀{k zs},rd U k≠.x zs
:=@λ U=>by
 induction U with
 |nil=>exact λ z k zs e=>nomatch e
 |cons x r IH=>
  intro h k zs e;have h:=B6 (show(KP x&&r.all KP)=Ab from h)
  induction k using A5 with
  |zero=>have e:x=.x zs:=e;have h:=h.1;rw[e] at h;exact nf h
  |succ k=>exact IH h.2 (k:=k) e
theorem U6:∀{b:Nat} {U:List LV},PX b U=Ab->∀{k zs},rd U k=.x zs->k=b
:=@λ b U=>by
 induction U generalizing b with
 |nil=>intro h k zs e;exact nomatch e
 |cons x r IH=>
  intro h k zs e
  induction b using A5 with
  |zero=>
   induction k using A5 with
   |zero=>rfl
   |succ k=>exact absurd e (lN (show r.all KP=Ab from h) (k:=k))
  |succ b=>
   have h:=B6 (show(KP x&&PX b r)=Ab from h)
   induction k using A5 with
   |zero=>have e:x=.x zs:=e;have h:=h.1;rw[e] at h;exact nf h
   |succ k=>exact congrArg Nat.succ (IH b h.2 (k:=k) e)
theorem wZ{b:Nat}{p0 p1 p2:Aj×Nat}{U'1:AQ}(l0:C.loc p0.2=.cell p0.1)(l1:C.loc p1.2=.cell p1.1)(l2:C.loc p2.2=.cell p2.1)(d01:p0.2≠p1.2)(d02:p0.2≠p2.2)(d12:p1.2≠p2.2)
  (e0:rd U'1 b=rd U p0.2) (e1:rd U'1 (b+1)=rd U p1.2) (e2:rd U'1 (b+2)=rd U p2.2) (own:PX b U'1=Ab):UC C J U b (wU b p0 p1 p2) (zH J b p0 p1 p2) U'1 where
 loc:=Fi l0 l1 l2
 inj:=Fi (Fi (λ z=>rfl) (λ e=>absurd e d01) λ e=>absurd e d02) (Fi (λ e=>absurd e.symm d01) (λ z=>rfl) λ e=>absurd e d12) (Fi (λ e=>absurd e.symm d02) (λ e=>absurd e.symm d12) λ z=>rfl)
 hi:=Fi (Ch _) (Nat.not_lt.mpr (Cr _ _)) (Nat.not_lt.mpr (Cr _ _))
 sg:=Fi (if_pos rfl) ((if_neg (Dx _)).trans (if_pos rfl)) ((if_neg (Fw (GC (G9 _)))).trans (if_neg (Dx _)))
 rh:=Fi e0 e1 e2
 own:=λ k zs e=>⟨p0,if_pos (U6 own e)⟩
section
variable{L:Aj}{nL:Nat}{nm:Nat->Str}{cs:Nat->Option (Aj×Nat)}(Cp:UC C J U nL cs J' U')
include Cp
theorem M9{b:Aj}(h:(Hv C (RQ C J U cs) L nL nm cs).mine b):b=L\/∃k p,cs k=Aa p/\b=p.1/\C.mine b:=by
 rcases h with⟨k,x,e⟩|⟨k,e⟩
 ·rcases FD (C:=C) (Y:=RQ C J U cs) (L:=L) (nL:=nL) (nm:=nm) (cs:=cs) (k:=k) with⟨y,e2,_⟩|⟨p,e2,_⟩|⟨e2,_⟩<;>rw[e] at e2<;>cases e2
  exact .inl rfl
 ·rcases FD (C:=C) (Y:=RQ C J U cs) (L:=L) (nL:=nL) (nm:=nm) (cs:=cs) (k:=k) with⟨y,e2,_⟩|⟨p,e2,_,e3⟩|⟨e2,_⟩<;>rw[e] at e2<;>cases e2
  exact .inr ⟨k,p,e3,rfl,.inr ⟨p.2,Cp.loc k p e3⟩⟩
theorem Ma{k:Nat}{xs:List V}(e:rd U' k=.x xs){gC:Prop}(gk:∀p,cs k=Aa p->rd U p.2=.x xs->J' k=J p.2->gC):gC:=
 Aw (Cp.own k xs e) λ p h=>gk p h ((Cp.rh k p h).symm.trans e) (Cp.sg k p h)
theorem XT(I:AX mg mb C J U s)(t:C7 s s'1)(g:GI mg mb s'1){m:Str->Option Ad}(hL:s.heap.get? L=Ae)(hns:s'1.heap.Ns L m)(hnm:∀i j,i<nL->j<nL->nm i=nm j->i=j)
  (hlo:∀k,k<nL->(∃V u,rd U' k=.w V/\m (nm k)=Aa u/\A6 s.heap (Am C J U) V u)\/rd U' k=.u):
  AX mg mb (Hv C (RQ C J U cs) L nL nm cs) J' U' s'1:=by
 have nE:∀{b:Aj},(∃o,s.heap.get? b=Aa o)->b≠L:=λ h q=>Aw h λ o e=>by rw[q,hL] at e;exact nn e
 have cinj:∀{i j p p'},cs i=Aa p->cs j=Aa p'->p.1=p'.1->i=j:=λ {i j p p'} h h' e=>Cp.inj i p h j p' h' (I.inj _ _ (by rw[Cp.loc i p h,Cp.loc j p' h',e]) (by rw[Cp.loc i p h];nofun))
 have hY:∀b o,s.heap.get? b=Aa o->Am (Hv C (RQ C J U cs) L nL nm cs) J' U' b->Am C J U b:=λ b o e y=>by
  rcases y with y|y|⟨k,xs,e1,e2⟩
  ·exact y.1
  ·rcases M9 Cp y with h|⟨k,p,_,_,h⟩
   ·exact absurd h (nE ⟨o,e⟩)
   ·exact .inr (.inl h)
  ·exact Ma Cp e1 λ p z h3 h4=>.inr (.inr ⟨p.2,xs,h3,h4.symm.trans e2⟩)
 have up:∀V u,A6 s.heap (Am C J U) V u->A6 s'1.heap (Am (Hv C (RQ C J U cs) L nL nm cs) J' U') V u:=λ V u r=>r.mono t.keep I.gi.cls hY;exact{
  gi:=g,keep:=I.keep.trans t.keep,wd0:=I.wd0
  y0:=λ b h=>FC g t (I.there b h.1)
  tb:=I.tb
  new:=λ b h=>by
   rcases M9 Cp h with rfl|⟨k,p,_,_,h⟩
   ·exact DY I hL
   ·exact I.new b h
  inj:=λ i j e1 e2=>by
   rcases FD (C:=C) (Y:=RQ C J U cs) (L:=L) (nL:=nL) (nm:=nm) (cs:=cs) (k:=i) with⟨y,q,h1,h2⟩|⟨p,q,h1,h2⟩|⟨q,_⟩
   ·rcases FD (C:=C) (Y:=RQ C J U cs) (L:=L) (nL:=nL) (nm:=nm) (cs:=cs) (k:=j) with⟨y',q',h1',h2'⟩|⟨p',q',_⟩|⟨q',_⟩<;>rw[q,q'] at e1
    ·injection e1 with _ e3;exact hnm i j h1 h1' (by rw[<-h2,<-h2',e3])
    ·exact(by cases e1)
    ·exact(by cases e1)
   ·rcases FD (C:=C) (Y:=RQ C J U cs) (L:=L) (nL:=nL) (nm:=nm) (cs:=cs) (k:=j) with⟨y',q',_⟩|⟨p',q',h1',h2'⟩|⟨q',_⟩<;>rw[q,q'] at e1
    ·exact(by cases e1)
    ·injection e1 with e3;exact cinj h2 h2' e3
    ·exact nomatch e1
   ·exact absurd q e2
  dicts:=λ D hD=>by
   have hDL:D=L:=by
    refine F1 hD λ k x e=>?_;rcases FD (C:=C) (Y:=RQ C J U cs) (L:=L) (nL:=nL) (nm:=nm) (cs:=cs) (k:=k) with⟨y,e2,_⟩|⟨p,e2,_⟩|⟨e2,_⟩<;>rw[e] at e2<;>cases e2
    rfl
   subst hDL;refine⟨m,hns,λ k x e=>?_⟩;rcases FD (C:=C) (Y:=RQ C J U cs) (L:=D) (nL:=nL) (nm:=nm) (cs:=cs) (k:=k) with⟨y,e2,h1,h2⟩|⟨p,e2,_⟩|⟨e2,_⟩<;>rw[e] at e2<;>cases e2
   rcases hlo k h1 with⟨V,u,e3,e4,e5⟩|e3
   ·rw[e3,h2,e4];exact up V u e5
   ·rw[e3];trivial
  cells:=λ k c e=>by
   rcases FD (C:=C) (Y:=RQ C J U cs) (L:=L) (nL:=nL) (nm:=nm) (cs:=cs) (k:=k) with⟨y,e2,_⟩|⟨p,e2,h1,h2⟩|⟨e2,_⟩<;>rw[e] at e2<;>cases e2
   refine AF (I.cells p.2 p.1 (Cp.loc k p h2)) λ v H2 q3=>?_;refine AF H2 λ o q1 q2=>?_;exact⟨v,⟨o,t.keep _ _ (I.mineTb (.inr ⟨p.2,Cp.loc k p h2⟩)) q1,q2⟩,by rw[Cp.rh k p h2,Cp.sg k p h2];exact q3.mono up⟩
  owns:=λ k xs e=>by
   refine Ma Cp e λ p h2 h3 h4=>?_;refine CA (I.owns p.2 xs h3) λ q1 q2 q3 H=>?_;refine AF H λ vs H2 q5=>?_;obtain⟨n,q4⟩:=H2;rw[h4];refine⟨q1,λ h=>?_,q3,vs,⟨n,t.keep _ _ (I.ownTb h3) q4⟩,AI.mono t.keep I.gi.cls hY q5⟩;rcases M9 Cp h with h|⟨_,_,_,_,h⟩
   ·exact nE ⟨_,q4⟩ h
   ·exact q2 h
  ownY:=λ k xs e h=>Ma Cp e λ p h2 h3 h4=>(h.2 k p h2).2 xs h3 h4
  apart:=λ i j xs ys e1 e2 e3=>Ma Cp e1 λ p h2 h3 h4=>Ma Cp e2 λ p' h2' h3' h4'=>Cp.inj i p h2 j p' h2' (I.apart p.2 p'.2 xs ys h3 h3' (h4.symm.trans (e3.trans h4')))}
theorem Ue(I:AX mg mb C J U s)(t:C7 s s'1)(hL:s.heap.get? L=Ae){ρf:AQ}(I'2:AX mg mb (Hv C (RQ C J U cs) L nL nm cs) J' ρf s'2)(f'2:CT (Hv C (RQ C J U cs) L nL nm cs) J' U' s'1 J' ρf s'2)
  (hf:∀k p,cs k=Aa p->rd ρf k=rd U p.2\/∃xs ys,rd U p.2=.x xs/\rd ρf k=.x ys) (h2:∀k p,cs k=Aa p->rd U'2 p.2=rd ρf k) (h3:∀j,(∀k p,cs k=Aa p->p.2≠j)->rd U'2 j=rd U j):
  AX mg mb C J U'2 s'2/\CT C J U s J U'2 s'2:=by
 have lc:∀k p,cs k=Aa p->(Hv C (RQ C J U cs) L nL nm cs).loc k=.cell p.1:=λ k p h=>by show(if k<nL then _ else _)=_;rw[if_neg (Cp.hi k p h),h]
 have cinj:∀{k p j c},cs k=Aa p->C.loc j=.cell c->c=p.1->j=p.2:=λ {k p j c} h e q=>I.inj _ _ (by rw[e,q,Cp.loc k p h]) (by rw[e];nofun);have aw:∀b,Am C J U b->Am (Hv C (RQ C J U cs) L nL nm cs) J' ρf b:=λ b y=>by
  by_cases q1:∃k p,cs k=Aa p/\b=p.1
  ·exact E1 q1 λ k p h e=>.inr (.inl (.inr ⟨k,e▸lc k p h⟩))
  ·by_cases q2:∃k p xs,cs k=Aa p/\rd U p.2=.x xs/\b=J p.2
   ·refine Lb q2 λ k p xs h e eb=>?_;rcases hf k p h with q|⟨_,ys,_,q⟩
    ·exact .inr (.inr ⟨k,xs,q.trans e,(Cp.sg k p h).trans eb.symm⟩)
    ·exact .inr (.inr ⟨k,ys,q,(Cp.sg k p h).trans eb.symm⟩)
   ·exact .inl ⟨y,λ k p h=>⟨λ e=>q1 ⟨k,p,h,e⟩,λ xs e eb=>q2 ⟨k,p,xs,h,e,eb⟩⟩⟩
 refine I.mvC (Wc:=λ b=>∃k p,cs k=Aa p/\b=p.1) (Wo:=λ b=>∃k p xs,cs k=Aa p/\rd U p.2=.x xs/\b=J p.2) I'2.gi (λ b q=>E1 q λ k p h e=>⟨p.2,e▸Cp.loc k p h⟩) (λ b q=>Lb q λ k p xs w e eb=>⟨p.2,xs,e,eb⟩) (λ j=>?_) (λ b o nt no nc e=>?_) (λ j z e=>f'2.gens j z (t.gens j z e)) (f'2.os.trans t.os) (λ j c' e q=>?_) (λ j zs e=>?_)
 ·by_cases q:∃k p,cs k=Aa p/\p.2=j
  ·refine E1 q λ k p h ej=>?_;subst ej;rw[h2 k p h];exact hf k p h
  ·exact .inl (h3 j λ k p h ej=>q ⟨k,p,h,ej⟩)
 ·refine f'2.heap b o nt (λ h=>?_) (λ j zs e' q=>Ma Cp e' λ p h e2 es=>no ⟨j,p,zs,h,e2,q.symm.trans es⟩) (t.keep b o nt e);rcases M9 Cp h with h|⟨k,p,h,eb,_⟩
  ·rw[h,hL] at e;exact nn e
  ·exact nc ⟨k,p,h,eb⟩
 ·refine E1 q λ k p h ec=>?_;have ej:=cinj h e ec;subst ej;refine AF (I'2.cells k p.1 (lc k p h)) λ v hv hs=>?_;rw[Cp.sg k p h] at hs;exact⟨v,ec▸hv,by rw[h2 k p h];exact hs.mono λ V u r=>r.mono (.refl _) I'2.gi.cls λ b o w y=>aw b y⟩
 ·by_cases q:∃k p,cs k=Aa p/\p.2=j
  ·refine E1 q λ k p h ej=>?_;subst ej;have e':=(h2 k p h).symm.trans e;refine⟨λ w=>?_,λ no=>?_⟩
   ·refine CA (I'2.owns k zs e') λ w w q3 H=>?_;refine AF H λ vs q4 q5=>?_;exact⟨q3,vs,Cp.sg k p h▸q4,AI.mono (.refl _) I'2.gi.cls (λ b o w y=>aw b y) q5⟩
   ·rcases hf k p h with q|⟨xs,_,q,_⟩
    ·exact(h2 k p h).trans q
    ·exact absurd ⟨k,p,xs,h,q,rfl⟩ no
  ·have e3:=h3 j λ k p h ej=>q ⟨k,p,h,ej⟩;refine⟨λ no=>?_,λ w=>e3⟩;exact Lb no λ k p xs h e4 es=>absurd ⟨k,p,h,(I.apart j p.2 zs xs (e3.symm.trans e) e4 es).symm⟩ q
end
end
set_option backward.match.sparseCases true
noncomputable def bW(l:List CU)(k:Nat):Ib×Pos:=match l[k]? with
 |some (.FunctionDef name args body _ _ _ scope _ _ pos)=>(⟨name,args,body,scope⟩,pos)
 |_=>(⟨"",⟨[],[],Ae,[],[],Ae,[]⟩,[],⟨.function,[],Ai,Ai,[]⟩⟩,default)
def HE:Ib:=(bW (AA 9).body 1).1
def IR:Ib:=(bW (AA 10).body 0).1
noncomputable def IN(i:Ib)(ns:List Str):Kx:=⟨i.scope.names,ns.zip (Bp ns.length)⟩
noncomputable def GM:List Str:=["x","L","R","mid","shift","upper","lower","a_digits","inner","n"]
noncomputable def Jg:List Str:=["L","R","mid","shift","digits","inner","n"]
def QB(h:AV)(f:Aj)(i:Ib)(qual:Str)(cl:List (Str×Aj)):Prop:=Mu h f i.name qual i.args i.body i.scope cl .none .none
section
variable{i:Ib}
theorem QB.keep{h h':AV}(x:QB h f i qual cl)(k:DS h h'):QB h' f i qual cl:=Mu.keep x k
theorem QB.fsp(x:QB s.heap f i qual cl)(I:AX mg mb C J U s)(fs:CT C J U s J' U' s'):QB s'.heap f i qual cl:=by obtain⟨o,doc,pm,c,oc,vs,t,ctv,e1,n1,e2,n2,e3,e4,r⟩:=id x;exact A9 (I.notFn e1 (.inl ⟨_,e2⟩)) λ p1 p2=>A9 (I.notFn e3 (.inr ⟨_,e4⟩)) λ q1 q2=>⟨o,doc,pm,c,oc,vs,t,ctv,fs.heap _ _ n1 p1 p2 e1,n1,e2,n2,fs.heap _ _ n2 q1 q2 e3,e4,r⟩
theorem QB.keeper{h:AV}(x:QB h f i qual cl):∃k,(k=B3\/k=BO\/k=Bt)/\LP (An pw w) h (Ek (.ref f)) k:=by obtain⟨o,doc,pm,c,oc,vs,t,ctv,e1,n1,e2,_,_,_,_⟩:=x;exact Q6 h ⟨o,_,e1,e2⟩
def HG(mg mb:Str->Option Ad)(w:B2)(C:Er)(A:Br)(U:AQ)(t:Sem Gj)(fl:Fl)(U':AQ):Prop:=
 ∀J s,AX mg mb C J U s->∀(Q:Gj->Af->Prop) (E:Ad->Af->Prop),(∀s' f,AX mg mb C J U' s'->CT C J U s J U' s'->Ot C J U' fl f s'->Q f s')->As (An pw w) A t Q E s
theorem HG.of{st:CU}(h:Gf mg mb w C A U (DP st env) U'):HG mg mb w C A U (DP st env) .next U':=λ J s I Q E k=>h J s I Q E λ s' I' f'=>k s' .next I' f' rfl
theorem HG.nil:HG mg mb w C A U (B4 [] env) .next U:=λ J s I Q E k=>CO (k s .next I .refl rfl)
theorem HG.cons{st:CU}{rest:List CU}(h:HG mg mb w C A U (DP st env) .next U'0)(h':HG mg mb w C A U'0 (B4 rest env) fl U'):HG mg mb w C A U (B4 (st::rest) env) fl U':=λ J s I Q E k=>
 Ay (h J s I _ _ λ s'1 f'1 I'1 fs'1 ok=>by subst ok;exact h' J s'1 I'1 Q E λ s'2 f'2 I'2 fs'2 ok=>k s'2 f'2 I'2 (fs'1.trans fs'2) ok)
theorem HG.stop{st:CU}{rest:List CU}{V:V}(h:HG mg mb w C A U (DP st env) (.ret V) U'):HG mg mb w C A U (B4 (st::rest) env) (.ret V) U':=λ J s I Q E k=>
 Ay (h J s I _ _ λ s'1 f'1 I'1 fs'1 ok=>by refine AF ok λ v H2 hv=>?_;subst H2;exact k s'1 _ I'1 fs'1 ⟨v,rfl,hv⟩)
theorem HG.ite{test:Ac}{body orelse:List CU}{pos:Pos}{c:Bool}(ht:Ni mg mb w C A U (isTrue test env (AM test env)) c)(h1:c=Ab->HG mg mb w C A U (B4 body env) fl U')(h2:c=Ai->HG mg mb w C A U (B4 orelse env) fl U'):
  HG mg mb w C A U (DP (.If test body orelse pos) env) fl U':=λ J s I Q E k=>by
 refine KZ (ht J s I _ _ λ s'1 d g t e=>?_);subst e
 induction d with
 |true=>exact h1 rfl J s'1 (I.step t g) Q E λ s'2 f I'2 f'2 ok=>k s'2 f I'2 ((CT.of_stp t g).trans f'2) ok
 |false=>exact h2 rfl J s'1 (I.step t g) Q E λ s'2 f I'2 f'2 ok=>k s'2 f I'2 ((CT.of_stp t g).trans f'2) ok
theorem HG.ret{pos:Pos}(hx:Cg mg mb w C A U (AM x env) a):HG mg mb w C A U (DP (.Return (Aa x) pos) env) (.ret a) U:=λ J s I Q E k=>Dk (hx J s I _ _ λ s' v g t r=>k s' _ (I.step t g) (CT.of_stp t g) ⟨v,rfl,r⟩)
theorem HG.ret0{pos:Pos}:HG mg mb w C A U (DP (.Return Ae pos) env) (.ret .none) U:=λ J s I Q E k=>wpAny_Return_none (k s _ I .refl ⟨.none,rfl,rfl⟩)
theorem HG.setidx(N:AJ K C env){fx:Str}{p q pos:Pos}{i:Nat}{xs:List V}{k:Int}(hv:EI K fx i=Ab)(hi:rd U i=.x xs)(hx:Cg mg mb w C A U (AM x env) a)(hy:Cg mg mb w C A U (AM y env) (.int k))(h0:0<=k)(hk:k.toNat<xs.length):
  HG mg mb w C A U (DP (.Assign [.Subscript (.Name fx p) y q] x pos) env) .next (wr U i (.x (xs.set k.toNat a))):=λ J s I Q E kk=>by
 refine wpAny_Assign_Subscript (hx J s I _ _ λ s'1 v'1 g'1 t'1 ra=>?_) QN;have I'1:=I.step t'1 g'1;refine CZ N hv hi I'1 (hy J s'1 I'1 _ _ λ s'2 v'2 g'2 t'2 rb=>?_);have I'2:=I'1.step t'2 g'2;refine iE rb λ t=>?_;refine CA (I'2.owns i xs hi) λ z z hz H=>?_;refine AF H λ vs hpl hr=>?_;have e:vs.size=xs.length:=by rw[<-Ax];exact hr.length
 have hzz:CN=16777216:=rfl;refine Kw hpl h0 (by omega) (by omega) λ h' hpl' hs'=>?_;have:=I'2.setOwn (tk:=s'2.toks) (ys:=xs.set k.toNat a) hi hs' hpl' (by rw[Array.toList_setIfInBounds];exact hr.set (ra.step g'1 t'2) _) (by rw[FX];exact hz);exact kk _ .next this.1 ((CT.of_stp (t'1.trans t'2) g'2).trans this.2) rfl
theorem HG.asgE(X:Cx mg mb w G n A)(N:AJ K C env){i:Nat}{e:Ex}{z:Str}{p pos:Pos}(hz:F8 K z i=Ab)(h:chk K e x=Ab)(hs:DQ x (Aa (.Name z p)) pos.line env=pure Ai)(he:ev G e U=Aa v):HG mg mb w C A U (DP (.Assign [.Name z p] x pos) env) .next (wr U i (.w v)):=
 HG.of (Gf.asg N hz (BP X e K C env U x v N h he) hs)
def SN(i:Ib)(pn:List Str):Bool:=Ua i.scope.kind&&!i.scope.isGenerator&&!i.scope.isCoroutine&&i.scope.names.all (λ x=>decide (x.2≠.cell))&&pn.all λ x=>decide (lk x i.scope.names=Aa .local)
structure fG(i:Ib)(pn:List Str):Prop where
 kind:i.scope.kind=.function
 gen:i.scope.isGenerator=Ai
 co:i.scope.isCoroutine=Ai
 nocell:∀x∈i.scope.names,x.2≠.cell
 loc:∀x∈pn,i.scope.names.lookup x=Aa .local
theorem uZ{i:Ib}{pn:List Str}(h:SN i pn=Ab):fG i pn:=CJ h λ h h5=>CJ h λ h h4=>CJ h λ h h3=>CJ h λ h1 h2=>⟨L9 h1,(BG _).mp h2,(BG _).mp h3,λ x hx=>of_decide_eq_true (Al.mp h4 x hx),λ x hx=>(HV _ _).symm.trans (of_decide_eq_true (Al.mp h5 x hx))⟩
noncomputable abbrev Vv(i:Ib)(L f:Aj)(qual:Str)(cl:List (Str×Aj))(cd:Ad):Env:=newEnv i.scope L C8 cl (qual++".<locals>.") (Aa f) cd Ae Es
theorem Ra{pn:List Str}{us:List Ad}(D:fG i pn)(hb:∀doc pm cd ct,Hc (fnX i.name qual i.args i.body i.scope cl .none .none doc pm Ae cd ct) ⟨us,[]⟩=pure (pn.zip us))(hl:us.length=pn.length)(hA:BQ (n+1) A)(g:GI mg mb s)(x:QB s.heap f i qual cl)
  (h:∀s'1 c,GI mg mb s'1->C7 s s'1->s.heap.get? s.heap.objs.size=Ae->s'1.heap.Ns s.heap.objs.size (λ x=>(pn.zip us).reverse.lookup x)->BQ n (A.deeper (Vv i s.heap.objs.size f qual cl (.ref c)))->∀E',As (An pw w) (A.deeper (Vv i s.heap.objs.size f qual cl (.ref c))) (B4 i.body (Vv i s.heap.objs.size f qual cl (.ref c))) (λ fl s'=>Q (match fl with|.ret v=>v|_=>.none) s') E' s'1):
  As (An pw w) A (C2 (.ref f) us []) Q E s:=by
 obtain⟨o,doc,pm,c,oc,vs,t,ctv,e1,n1,e2,n2,e3,e4,e5⟩:=x;refine xW ?_;have hroom:A.depth<CH:=by have:=hA.dp;have e:CH=1000:=rfl;exact BQ.room hA
 refine codeAny_call_function hroom e1 e2 D.co D.gen rfl ⟨c,oc,vs,t,rfl,e3,e4,e5⟩ ?_;rw[hb];refine At (wpAny_newFunctionEnv D.nocell (λ x hx=>D.loc x.1 ?_) (λ h' hns hsb=>?_) D.kind)
 ·have:=LQ (f:=(·.1)) hx
  rwa [HR hl.symm] at this
 ·have hk:∀b o,s.heap.get? b=Aa o->h'.get? b=Aa o:=λ b o e=>hsb.extBut b o (Ci (AT e)) (AS _ e);refine⟨g.wd.nolimit.keeps hk,codeAny_func ?_⟩;exact h {s with heap:=h',toks:=s.toks+(pn.zip us).length} c (g.all hk _) (.all hk _) (Ew _) hns (BQ.deeper hA) _
end
set_option backward.match.sparseCases false
noncomputable def KT:Nat->Int->Int->Int->Int->List V->Option (List V)
 |0,_,_,_,_,_=>Ae
 |d+1,n,x,L,R,xs=>
  if L+1=R then(if 0<=L/\L.toNat<xs.length then Aa (xs.set L.toNat (.int x)) else Ae) else
  (((Cj .shr (.int (L+R)) (.int 1)).bind Bb).bind λ m=>((Cj .mul (.int (m - L)) (.int n)).bind Bb).bind λ sh=>((Cj .shr (.int x) (.int sh)).bind Bb).bind λ up=>((Cj .shl (.int up) (.int sh)).bind Bb).bind λ t=>(KT d n (Dq x t) L m xs).bind λ ys=>KT d n up m R ys)
noncomputable def NR:Nat->Int->List V->Int->Int->Option Int
 |0,_,_,_,_=>Ae
 |d+1,n,ds,L,R=>
  if L+1=R then(JD ds L).bind Bb else
  (((Cj .shr (.int (L+R)) (.int 1)).bind Bb).bind λ m=>((Cj .mul (.int (m - L)) (.int n)).bind Bb).bind λ sh=>(NR d n ds m R).bind λ hi=>((Cj .shl (.int hi) (.int sh)).bind Bb).bind λ t=>(NR d n ds L m).map λ lo=>t+lo)
noncomputable def eT(i j:Nat):Ex:=.o2 .eq (.o2 .a (.v i) (.c (.int 1))) (.v j)
noncomputable def dU(i j:Nat):Ex:=.o2 .shr (.o2 .a (.v i) (.v j)) (.c (.int 1))
noncomputable def yM(m i n:Nat):Ex:=.o2 .mul (.o2 .sub (.v m) (.v i)) (.v n)
@[elab_as_elim] theorem wY{gC:List CU->Prop}(gk:∀t1 ad w1 l1 w2 x1 w3 w4 w5 mid w6 e1 w7 sh w8 e2 w9 up w10 e3 w11 lo w12 e4 w13 in1 w14 a1 a2 a3 w15 w16 dD w17 b1 b2 b3 w18 w19,chk (IN HE GM) (eT 1 2) t1=Ab->EI (IN HE GM) ad 7=Ab->chk (IN HE GM) (.v 1) l1=Ab->chk (IN HE GM) (.v 0) x1=Ab->F8 (IN HE GM) mid 3=Ab->chk (IN HE GM) (dU 1 2) e1=Ab->F8 (IN HE GM) sh 4=Ab->chk (IN HE GM) (yM 3 1 9) e2=Ab->F8 (IN HE GM) up 5=Ab->chk (IN HE GM) (.o2 .shr (.v 0) (.v 4)) e3=Ab->F8 (IN HE GM) lo 6=Ab->chk (IN HE GM) (.o2 .bxor (.v 0) (.o2 .shl (.v 5) (.v 4))) e4=Ab->EI (IN HE GM) in1 8=Ab->chk (IN HE GM) (.v 6) a1=Ab->chk (IN HE GM) (.v 1) a2=Ab->chk (IN HE GM) (.v 3) a3=Ab->EI (IN HE GM) dD 8=Ab->chk (IN HE GM) (.v 5) b1=Ab->chk (IN HE GM) (.v 3) b2=Ab->chk (IN HE GM) (.v 2) b3=Ab->gC [.If t1 [.Assign [.Subscript (.Name ad w1) l1 w2] x1 w3,.Return Ae w4] [] w5,.Assign [.Name mid w6] e1 w7,.Assign [.Name sh w8] e2 w9,.Assign [.Name up w10] e3 w11,.Assign [.Name lo w12] e4 w13,.Expr (.Call (.Name in1 w14) [a1,a2,a3] [] w15) w16,.Expr (.Call (.Name dD w17) [b1,b2,b3] [] w18) w19]):gC HE.body:=gk _ _ _ _ _ _ _ _ _ _ _ _ _ _ _ _ _ _ _ _ _ _ _ _ _ _ _ _ _ _ _ _ _ _ _ _ _ _ _ (by kernel_rfl) (by kernel_rfl) (by kernel_rfl) (by kernel_rfl) (by kernel_rfl) (by kernel_rfl) (by kernel_rfl) (by kernel_rfl) (by kernel_rfl) (by kernel_rfl) (by kernel_rfl) (by kernel_rfl) (by kernel_rfl) (by kernel_rfl) (by kernel_rfl) (by kernel_rfl) (by kernel_rfl) (by kernel_rfl) (by kernel_rfl) (by kernel_rfl)
theorem XR:SN HE ["x","L","R"]=Ab:=by decide+kernel
noncomputable def yD:Str:="_int2digits.<locals>.inner"
theorem pU(cl:List (Str×Aj))(x L R doc pm cd ct:Ad):Hc (fnX HE.name yD HE.args HE.body HE.scope cl .none .none doc pm Ae cd ct) ⟨[x,L,R],[]⟩=pure ((["x","L","R"]:List Str).zip [x,L,R]):=by kernel_rfl
theorem FW{o:Option V}{i:Int}(h:o.bind Bb=Aa i):o=Aa (.int i):=by refine bK h λ v h1 h2=>?_;rw[h1,B5 h2]
section
variable{i:Ib}
theorem RF(N:AJ K C env){z:Str}{p pos:Pos}{e'0:Ac}{xs:List Ac}{us:List V}(I:AX mg mb C J U s)(hz:EI K z j=Ab)(hj:rd U j=.w (.fn f))(hx:DG mg mb w C A U (e'0::xs) env us)(hp:∀x∈e'0::xs,Bo x)(hf:QB s.heap f i qual cl)
  (hc:∀s'1 vs,AX mg mb C J U s'1->C7 s s'1->AI s'1.heap (Am C J U) us vs->As (An pw w) A (C2 (.ref f) vs []) Q E s'1):As (An pw w) A (AM (.Call (.Name z p) (e'0::xs) [] pos) env) Q E s:=by
 refine A9 (Gb hz) λ h1 h2=>GD (Jm (Hu N h1 (by rw[hj];nofun) I (λ v e=>?_) h2) (H6 h2).1);rw[hj] at e;have e:v=.ref f:=e;subst e;have hps:(MX pos (Gh (e'0::xs) env)).any (·.1)=Ai:=LC hp;refine C9 (P:=λ h=>∃k,(k=B3\/k=BO\/k=Bt)/\LP (An pw w) h (Ek (.ref f)) k) (by show(_||Ai)=Ai;rw[hps];rfl) (λ h hh=>hh) ?_;rw[hp e'0 (.head _) xs env];refine EG ?_;have h3:=hx pos J s I (λ vs s'=>(λ (a:Args) s'=>(∃k,(k=B3\/k=BO\/k=Bt)/\LP (An pw w) s'.heap (Ek (.ref f)) k)/\As (An pw w) A (C2 (.ref f) ([]++a.pos) a.kw) Q E s') ⟨vs,[]⟩ s') E λ s'1 vs g'1 t'1 r'1=>⟨(hf.keep t'1.keep).keeper,hc s'1 vs (I.step t'1 g'1) t'1 r'1⟩;rw[hp e'0 (.head _) xs env] at h3;exact h3
def Tr(mg mb:Str->Option Ad)(w:B2)(f cn ca cf:Aj)(d:Nat):Prop:=
 ∀⦃A:Br⦄ ⦃C:Er⦄ ⦃J:Nat->Aj⦄ ⦃U:AQ⦄ ⦃s:Af⦄ ⦃jn ja jf:Nat⦄ ⦃xs ys:List V⦄ ⦃n x L R:Int⦄,BQ (d+1) A->AX mg mb C J U s->C.loc jn=.cell cn->C.loc ja=.cell ca->C.loc jf=.cell cf->rd U jn=.w (.int n)->rd U ja=.x xs->rd U jf=.w (.fn f)->
  QB s.heap f HE yD [("n",cn),("inner",cf),("a_digits",ca)]->KT d n x L R xs=Aa ys->∀(t1 t2 t3:Tok) (Q:Ad->Af->Prop) (E:Ad->Af->Prop),(∀s',AX mg mb C J (wr U ja (.x ys)) s'->CT C J U s J (wr U ja (.x ys)) s'->Q .none s')->
  As (An pw w) A (C2 (.ref f) [.int x t1,.int L t2,.int R t3] []) Q E s
theorem Mp{cn ca cf:Aj}(hr:Tr mg mb w f cn ca cf d)(hA:BQ (d+1) A)(N:AJ K C env){zn:Str}{a1 a2 a3:Ac}{p pos up:Pos}{jn ja jf:Nat}{xs ys:List V}{k X L R:Int}(l1:C.loc jn=.cell cn)(l2:C.loc ja=.cell ca)(l3:C.loc jf=.cell cf)
  (r1:rd U jn=.w (.int k)) (r2:rd U ja=.x xs) (r3:rd U jf=.w (.fn f)) (hz:EI K zn jf=Ab) (h1:Cg mg mb w C A U (AM a1 env) (.int X)) (h2:Cg mg mb w C A U (AM a2 env) (.int L)) (h3:Cg mg mb w C A U (AM a3 env) (.int R)) (p1:Bo a1) (p2:Bo a2) (p3:Bo a3)
  (he:KT d k X L R xs=Aa ys) (J:Nat->Aj) (s:Af) (I:AX mg mb C J U s) (hf:QB s.heap f HE yD [("n",cn),("inner",cf),("a_digits",ca)]) (Q:Gj->Af->Prop) (E:Ad->Af->Prop) (kk:∀s',AX mg mb C J (wr U ja (.x ys)) s'->CT C J U s J (wr U ja (.x ys)) s'->Q .next s'):
  As (An pw w) A (DP (.Expr (.Call (.Name zn p) [a1,a2,a3] [] pos) up) env) Q E s:=by
 refine Jo ?_ (Hs N) rfl;refine RF N I hz r3 (Dz h1 p1 (DG.two h2 p2 h3 p3)) (Tm p1 p2 p3) hf λ s'1 vs I'1 t'1 rr=>?_;refine yW rr.three λ v1 v2 v3 ξ4 ξ5 ξ6 H=>?_;refine Aw H λ t3 H2=>?_;subst H2;subst ξ4;refine iE ξ5 λ t1=>?_;exact iE ξ6 λ t2=>hr hA I'1 l1 l2 l3 r1 r2 r3 (hf.keep t'1.keep) he t1 t2 t3 _ _ λ s' I' f'=>kk s' I' ((CT.of_stp t'1 I'1.gi).trans f')
end
noncomputable abbrev SX(X L R:Int)(x3 x4 x5 x6:LV)(xs:List V)(f:Aj)(k:Int):AQ:=[.w (.int X),.w (.int L),.w (.int R),x3,x4,x5,x6,.x xs,.w (.fn f),.w (.int k)]
section
variable{i:Ib}
theorem JS{o:O2}{e e':Ex}{z:Str}{p:Pos}{l:Nat}(h:chk K (.o2 o e e') x=Ab):DQ x (Aa (.Name z p)) l env=pure Ai:=by
 rcases O6 (z:=z) (p:=p) (l:=l) (env:=env) x with hs|⟨_,_,_,_,rfl,_⟩|⟨_,_,_,_,q⟩|⟨_,_,_,_,_,q⟩
 ·exact hs
 ·exact(gI h).elim
 ·exact absurd q ((Lx h).1 _ _ _ _)
 ·exact absurd q ((Lx h).2 _ _ _ _ _)
theorem pO(N:AJ (IN HE GM) C env){cn ca cf:Aj}(hr:Tr mg mb w f cn ca cf d)(hA:BQ (d+1) A)(l1:C.loc 9=.cell cn)(l2:C.loc 7=.cell ca)(l3:C.loc 8=.cell cf){k X L R:Int}{xs ys:List V}
  (he:KT (d+1) k X L R xs=Aa ys) (J:Nat->Aj) (s:Af) (I:AX mg mb C J (SX X L R .u .u .u .u xs f k) s) (hf:QB s.heap f HE yD [("n",cn),("inner",cf),("a_digits",ca)]) (Q:Gj->Af->Prop) (E:Ad->Af->Prop)
  (kk:∀s' fl ρf,AX mg mb C J ρf s'->CT C J (SX X L R .u .u .u .u xs f k) s J ρf s'->(∀j,j<7->∀zs,rd ρf j≠.x zs)->ρf.length=10->rd ρf 7=.x ys->rd ρf 8=.w (.fn f)->rd ρf 9=.w (.int k)->(fl=.next\/fl=.ret .none)->Q fl s'):
  As (An pw w) A (B4 HE.body env) Q E s:=by
 have X1:Cx mg mb w G0 0 A:=Vz (hA.less (by exact DU 1 d));refine wY λ t1 ad z l1e z x1 z z z mid z e1 z sh z e2 z up z e3 z lo z e4 z in1 z a1 a2 a3 z z dD z b1 b2 b3 z z c1 c2 c3 c4 c5 c6 c7 c8 c9 c10 c11 c12 c13 c14 c15 c16 c17 c18 c19 c20=>?_;have he':(if L+1=R then(if 0<=L/\L.toNat<xs.length then Aa (xs.set L.toNat (.int X)) else Ae) else
  (((Cj .shr (.int (L+R)) (.int 1)).bind Bb).bind λ m=>((Cj .mul (.int (m - L)) (.int k)).bind Bb).bind λ sh=>((Cj .shr (.int X) (.int sh)).bind Bb).bind λ up=>((Cj .shl (.int up) (.int sh)).bind Bb).bind λ t=>
  (KT d k (Dq X t) L m xs).bind λ ys=>KT d k up m R ys))=Aa ys:=he
 have tst1:Gr G0 (eT 1 2) (SX X L R .u .u .u .u xs f k)=Aa (decide (L+1=R)):=by
  show(Cj .eq (.int (L+1)) (.int R)).bind truthy=_;show Aa ((L+1)==R)=_
  congr 1
 have ht:=FJ X1 (eT 1 2) _ C env _ t1 _ N c1 tst1
 split at he'
 ·rename_i hLR;refine iK he' λ hz he'=>?_;obtain rfl:=sj he';refine(HG.stop (V:=.none) (HG.ite ht (λ z=>HG.cons (HG.setidx N c2 rfl (BP X1 (.v 0) _ C env _ x1 (.int X) N c4 rfl) (BP X1 (.v 1) _ C env _ l1e (.int L) N c3 rfl) hz.1 hz.2) (HG.stop HG.ret0)) (λ q=>?_))) J s I Q E λ s' fl I' f' ok=>?_
  ·rw[decide_eq_false_iff_not] at q;exact absurd hLR q
  ·refine AF ok λ v H2 H3=>?_;subst H2;subst H3;refine kk s' _ _ I' f' (λ j hj zs e=>?_) rfl rfl rfl rfl (.inr rfl)
   match j,hj with
   |0,_=>cases e
   |1,_=>cases e
   |2,_=>cases e
   |3,_=>cases e
   |4,_=>cases e
   |5,_=>cases e
   |6,_=>cases e
 ·rename_i hLR;refine bK he' λ m hm he'=>bK he' λ sv hs he'=>bK he' λ uv hu he'=>bK he' λ tv htv he'=>bK he' λ zs hz1 hz2=>?_;have hm:=FW hm;have hs:=FW hs;have hu:=FW hu;have htv:=FW htv;have lower:Cj .bxor (.int X) (.int tv)=Aa (.int (Dq X tv)):=rfl;refine Ay (HG.ite (fl:=.next) ht (λ q=>absurd (of_decide_eq_true q) hLR) (λ z=>HG.nil) J s I _ _ λ s1 f1 I1 fs1 ok=>?_);subst ok;refine Ay (HG.asgE (v:=.int m) X1 N c5 c6 (JS c6) (show ev G0 (dU 1 2) (SX X L R .u .u .u .u xs f k)=_ from hm) J s1 I1 _ _ λ s2 f2 I2 fs2 ok=>?_);subst ok;refine Ay (HG.asgE (v:=.int sv) X1 N c7 c8 (JS c8) (show ev G0 (yM 3 1 9) (SX X L R (.w (.int m)) .u .u .u xs f k)=_ from hs) J s2 I2 _ _ λ s3 f3 I3 fs3 ok=>?_);subst ok;refine Ay (HG.asgE (v:=.int uv) X1 N c9 c10 (JS c10) (show ev G0 (.o2 .shr (.v 0) (.v 4)) (SX X L R (.w (.int m)) (.w (.int sv)) .u .u xs f k)=_ from hu) J s3 I3 _ _ λ s4 f4 I4 fs4 ok=>?_);subst ok;have hlo:ev G0 (.o2 .bxor (.v 0) (.o2 .shl (.v 5) (.v 4))) (SX X L R (.w (.int m)) (.w (.int sv)) (.w (.int uv)) .u xs f k)=Aa (.int (Dq X tv)):=by
   show(Cj .shl (.int uv) (.int sv)).bind (λ y=>Cj .bxor (.int X) y)=_;rw[htv];rfl
  refine Ay (HG.asgE (v:=.int (Dq X tv)) X1 N c11 c12 (JS c12) hlo J s4 I4 _ _ λ s5 f5 I5 fs5 ok=>?_);subst ok;have hf5:=((((hf.fsp I fs1).fsp I1 fs2).fsp I2 fs3).fsp I3 fs4).fsp I4 fs5;refine Ay (Mp hr hA N l1 l2 l3 rfl rfl rfl c13 (BP X1 (.v 6) _ C env _ a1 (.int (Dq X tv)) N c14 rfl) (BP X1 (.v 1) _ C env _ a2 (.int L) N c15 rfl) (BP X1 (.v 3) _ C env _ a3 (.int m) N c16 rfl) (AH c14) (AH c15) (AH c16) hz1 J s5 I5 hf5 _ _ λ s6 I6 fs6=>?_);have hf6:=hf5.fsp I5 fs6;refine Ay (Mp hr hA N l1 l2 l3 rfl rfl rfl c17 (BP X1 (.v 5) _ C env _ b1 (.int uv) N c18 rfl) (BP X1 (.v 3) _ C env _ b2 (.int m) N c19 rfl) (BP X1 (.v 2) _ C env _ b3 (.int R) N c20 rfl) (AH c18) (AH c19) (AH c20) hz2 J s6 I6 hf6 _ _ λ s7 I7 fs7=>CO ?_);refine kk s7 _ _ I7 ((((((fs1.trans fs2).trans fs3).trans fs4).trans fs5).trans fs6).trans fs7) (λ j hj zs e=>?_) rfl rfl rfl rfl (.inl rfl)
  match j,hj with
  |0,_=>cases e
  |1,_=>cases e
  |2,_=>cases e
  |3,_=>cases e
  |4,_=>cases e
  |5,_=>cases e
  |6,_=>cases e
end
theorem Xj:∀i j:Fin 7,GM.getD i.1 ""=GM.getD j.1 ""->i=j:=by decide+kernel
theorem Xi:∀i j:Fin 4,Jg.getD i.1 ""=Jg.getD j.1 ""->i=j:=by decide+kernel
def qC(i:Ib)(ns:List Str)(nL:Nat)(cn:List Str):Bool:=(IN i ns).acc.all λ p=>(decide (lk p.1 i.scope.names=Aa .local)&&(decide (p.2<nL)&&Mi p.1 (ns.getD p.2 "")))||(decide (lk p.1 i.scope.names=Aa .free)&&(decide (nL<=p.2)&&(cn[p.2 - nL]?).any (Mi p.1)))
section
variable{i:Ib}
theorem mW{pn:List Str}(D:fG i pn){ns:List Str}{nL:Nat}{nm:Nat->Str}{cs:Nat->Option (Aj×Nat)}{L:Aj}{Y:Aj->Prop}{cd:Ad}
  (h:∀z j,lk z (IN i ns).acc=Aa j->(j<nL/\z=nm j/\lk z i.scope.names=Aa .local)\/(¬j<nL/\lk z i.scope.names=Aa .free/\∃p,cs j=Aa p/\cl.lookup z=Aa p.1)):AJ (IN i ns) (Hv C Y L nL nm cs) (Vv i L f qual cl cd):=by
 have ek:∀z,(Vv i L f qual cl cd).kindOf z=i.scope.names.lookup z:=λ z=>rfl;refine⟨D.kind,λ z j hz=>?_,λ z hz=>?_,λ z hz=>?_,λ z hz=>?_,λ z hz=>?_,rfl,rfl⟩
 ·rcases h z j hz with⟨h1,h2,h3⟩|⟨h1,h2,p,h3,h4⟩
  ·have e:(Hv C Y L nL nm cs).loc j=.dict L (nm j):=by show(if j<nL then _ else _)=_;rw[if_pos h1]
   rw[e];exact⟨h2.symm,by rw[ek,<-HV];exact h3,rfl⟩
  ·have e:(Hv C Y L nL nm cs).loc j=.cell p.1:=by show(if j<nL then _ else _)=_;rw[if_neg h1,h3]
   rw[e];exact⟨.inr (by rw[ek,<-HV];exact h2),h4⟩
 ·rw[ek,<-HV];exact hz
 ·rw[ek,<-HV];exact hz
 ·rw[ek,<-HV];exact hz
 ·right;rw[ek,<-HV];exact hz
theorem Ud{pn:List Str}(D:fG i pn){ns cn:List Str}{nL:Nat}{cs:Nat->Option (Aj×Nat)}{L:Aj}{Y:Aj->Prop}{cd:Ad}(h:qC i ns nL cn=Ab)(hc:∀m z,cn[m]?=Aa z->∃p,cs (nL+m)=Aa p/\cl.lookup z=Aa p.1):
  AJ (IN i ns) (Hv C Y L nL (λ k=>ns.getD k "") cs) (Vv i L f qual cl cd):=mW D λ z j hz=>by
 rcases(qL _ _).mp (Al.mp h _ (GN hz)) with q|q
 ·exact CJ q λ q1 q=>CJ q λ q2 q3=>.inl ⟨of_decide_eq_true q2,Dj q3,of_decide_eq_true q1⟩
 ·refine CJ q λ q1 q=>CJ q λ q2 q3=>?_;have q2:nL<=j:=of_decide_eq_true q2;refine .inr ⟨Nat.not_lt.mpr q2,of_decide_eq_true q1,?_⟩
  cases e:cn[j - nL]? with
  |none=>rw[show(cn[(z,j).2 - nL]?)=Ae from e] at q3;exact nf q3
  |some y=>rw[show(cn[(z,j).2 - nL]?)=Aa y from e] at q3;have hy:z=y:=Dj q3;rw[hy];exact Nat.add_sub_cancel' q2▸hc _ y e
theorem cn3{x y z:Str}{b:Nat}{p0 p1 p2:Aj×Nat}(h0:cl.lookup x=Aa p0.1)(h1:cl.lookup y=Aa p1.1)(h2:cl.lookup z=Aa p2.1):∀m n,[x,y,z][m]?=Aa n->∃p,wU b p0 p1 p2 (b+m)=Aa p/\cl.lookup n=Aa p.1
 |0,n,e=>by obtain rfl:=sj e;exact⟨p0,if_pos rfl,h0⟩
 |1,n,e=>by obtain rfl:=sj e;exact⟨p1,(if_neg (Dx _)).trans (if_pos rfl),h1⟩
 |2,n,e=>by obtain rfl:=sj e;exact⟨p2,(if_neg (Fw (GC (G9 _)))).trans ((if_neg (Dx _)).trans (if_pos rfl)),h2⟩
theorem xG:qC HE GM 7 ["a_digits","inner","n"]=Ab:=by decide+kernel
theorem pL{cn ca cf:Aj}:∀d,Tr mg mb w f cn ca cf d:=λ I0=>by
 induction I0 with
 |zero=>exact λ z z z z z z z z z z z z z z z z z z z z z z z he=>nn (show(Ae:Option (List V))=Aa _ from he)
 |succ d IH=>
  exact λ A C J U s jn ja jf xs ys k X L R hA I l1 l2 l3 r1 r2 r3 hf he t1 t2 t3 Q E kk=>by
   have D:=uZ XR;have naf:ja≠jf:=λ e=>by rw[e,r3] at r2;exact(LV.noConfusion r2)
   have nan:ja≠jn:=λ e=>by rw[e,r1] at r2;exact(LV.noConfusion r2)
   have nfn:jf≠jn:=λ e=>by rw[e,r1] at r3;exact nomatch r3
   refine Ra (n:=d+1) D (λ doc pm cd ct=>pU _ _ _ _ doc pm cd ct) rfl hA I.gi hf λ s'1 c g'1 t'1 hLn hns hG E'=>?_;have Cp:UC C J U 7 (wU 7 (ca,ja) (cf,jf) (cn,jn)) (zH J 7 (ca,ja) (cf,jf) (cn,jn)) [.w (.int X),.w (.int L),.w (.int R),.u,.u,.u,.u,.x xs,.w (.fn f),.w (.int k)]:=wZ l2 l3 l1 naf nan nfn r2.symm r3.symm r1.symm rfl;have I'1:=XT Cp (nm:=λ k=>GM.getD k "") I t'1 g'1 hLn hns (λ i j hi hj e=>congrArg Fin.val (Xj ⟨i,hi⟩ ⟨j,hj⟩ e)) λ k hk=>by
    match k,hk with
    |0,_=>exact .inl ⟨_,_,rfl,rfl,⟨t1,rfl⟩⟩
    |1,_=>exact .inl ⟨_,_,rfl,rfl,⟨t2,rfl⟩⟩
    |2,_=>exact .inl ⟨_,_,rfl,rfl,⟨t3,rfl⟩⟩
    |3,_=>exact .inr rfl
    |4,_=>exact .inr rfl
    |5,_=>exact .inr rfl
    |6,_=>exact .inr rfl
   refine pO (d:=d) (Ud D xG (cn3 rfl rfl rfl)) (IH) hG rfl rfl rfl he _ s'1 I'1 (hf.keep t'1.keep) _ E' λ s'2 fl ρf I'2 f'2 hno hlen e7 e8 e9 hfl=>?_;have fin:=Ue (U'2:=wr U ja (.x ys)) Cp I t'1 hLn I'2 f'2 (Fi (.inr ⟨xs,ys,r2,e7⟩) (.inl (e8.trans r3.symm)) (.inl (e9.trans r1.symm)))
    (Fi ((DB (fZ r2)).trans e7.symm) ((AU (Ne.symm naf)).trans (r3.trans e8.symm)) ((AU (Ne.symm nan)).trans (r1.trans e9.symm))) λ j h=>AU (Ne.symm (h 7 _ (if_pos rfl)))
   rcases hfl with rfl|rfl
   ·exact kk s'2 fin.1 fin.2
   ·exact kk s'2 fin.1 fin.2
end
section
variable{i:Ib}
theorem Yu{Z:Type}(v:Z):∀k:Nat,(AD k [v]).flatten=AD k v:=λ I0=>by
 induction I0 with
 |zero=>exact rfl
 |succ k IH=>rw[List.replicate_succ,List.flatten_cons,IH];rfl
theorem Nx{h:AV}{Y:Aj->Prop}{V:V}{v:Ad}(r:A6 h Y V v):∀k:Nat,AI h Y (AD k V) (AD k v):=λ I0=>by
 induction I0 with
 |zero=>exact rfl
 |succ k IH=>exact⟨v,_,rfl,r,IH⟩
theorem dO{k:Int}{e'0:Ac}{p pos:Pos}(hx:Cg mg mb w C A U (AM e'0 env) a)(hp:Bo e'0)(hy:Cg mg mb w C A U (AM y env) (.int k))(h0:0<=k)(hk:k.toNat<=CN)(I:AX mg mb C J U s):
  Ok mg mb w A s (AM (.BinOp (.List [e'0] p) .Mult y pos) env) λ s' v=>iH C J U s (AD k.toNat a) s' v:=λ Q E kk=>by
 have hzz:CN=16777216:=rfl;refine RU<|Rk (us:=[a]) (DG.one hx hp) (show 1<=CN by decide) I _ _ λ s'1 v'1 g'1 t'1 ⟨_,l,us,e,hl0,hl,hr⟩=>?_;subst e;have I'1:=I.step t'1 g'1;refine hy J s'1 I'1 _ _ λ s'2 v'2 g'2 t'2 ⟨u,e⟩=>?_;subst e;have nT:¬Tb l:=λ q=>by refine Aw (I.gi.wd.tb l q) λ ws e=>?_;rw[hl0] at e;exact nn e
 refine Aw hl λ n ho=>?_;have ho:=t'2.keep l _ nT ho;have hr:=hr.step g'1 t'2;refine El hr λ v z eu rv er=>?_;have er:_=[]:=er;subst er;have eu:us=#[v]:=Array.toList_inj.mp eu;subst eu;refine wpAny_binaryOp_repeat_ref (T:="list") (U:="int") (by decide) ⟨_,ho,rfl⟩ (λ s'=>xT s' k u) noFill_list_mul F.fills_int_mul F.slot_int_rmul repeat_list F.slot_int_index.lookup
  (LK F.slot_int_rmul (xT s'2 k u) F.entry_int_rmul (F.args_int_rmul_2 _ _) (lm_int_rmul_list_any k u l #[v] n Ae #[])
   ⟨ho,rfl,⟨_,ho,rfl⟩,LK F.slot_list_mul ⟨_,ho,rfl⟩ F.entry_list_mul (F.args_list_mul_2 _ _)
    (lm_list_mul_any l #[v] n Ae #[] k u (by simp[Builtin.List.listFitsIndex];omega) (by simp;omega) (by simp[Builtin.List.listTooLong,Gg];omega)) ⟨ho,?_⟩⟩)
 refine kk _ _ (g'2.push _ s'2.toks) ((t'1.trans t'2).trans (.push _ s'2.toks)) ⟨by rw[GV];exact hk,_,_,rfl,?_,⟨_,AW _ rfl⟩,?_⟩
 ·cases e:s.heap.get? s'2.heap.objs.size with
  |none=>rfl
  |some o=>refine Aw (FC g'2 (t'1.trans t'2) ⟨o,e⟩) λ o' e'=>?_;exact absurd (AT e') (Ch _)
 ·rw[listMul_foldl_if];have e1:(AD k.toNat (#[v]:Array Ad).toList).flatten.toArray.toList=AD k.toNat v:=Yu v _;rw[e1];have rv':A6 (s'2.heap.push {cls:=Value.type "list",data:=Data.seq (AD k.toNat (#[v]:Array Ad).toList).flatten.toArray}) (λ b=>Am C J U b\/b=s'2.heap.objs.size) a v:=rv.mono (.push _ _) g'2.cls λ b o e y=>by
   rcases y with y|y
   ·exact .inl y
   ·subst y;exact absurd (AT e) (Ch _)
  exact Nx rv' k.toNat
theorem WG(N:AJ K C env){P c:Aj}{pos:Pos}(hP:Tb P)(hcode:env.code=.ref c)(hC:CodeHd s.heap c P)(hq:qualnameIn env i.name i.name=LY P)(hl1:(pos.line:Int)=KL P)(hl2:(pos.col:Int)=4)
  (hd0:i.args.defaults=[]) (hk0:i.args.kw_defaults=[]) (ha:annTrees i.args Ae env=[]) (hcl:VZ i.scope env=pure cl) (hz:F8 K i.name j=Ab) (I:AX mg mb C J U s) {Q:Gj->Af->Prop} {E:Ad->Af->Prop}
  (kk:∀f s',AX mg mb C J (wr U j (.w (.fn f))) s'->CT C J U s J (wr U j (.w (.fn f))) s'->QB s'.heap f i (LY P) cl->Q .next s'):
  As (An pw w) A (DP (.FunctionDef i.name i.args i.body [] Ae [] i.scope Ae i.name pos) env) Q E s:=by
 refine nestDef_K hd0 hk0 ha ?_;rw[hq];have g:=I.gi;refine Aw (g.wd.tb P hP) λ ps hps=>?_;have hin:=g.wd.ta P hP ps hps;obtain⟨bm,ob,b1,b2,b3,b4,b5,b6,b7,b8⟩:=g.wd.bm;have hbat:s.heap.BuiltinsAt mg P:=⟨bm,ob,b1,b2,b3,λ q=>b4 (q▸hP),b5,b6,b7,b8⟩;have hmP:C8≠P:=λ q=>by refine Lb g.wd.g λ o es ep e hd y=>?_;rw[q,hps] at e;obtain rfl:=sj e;cases hd
 have store:∀(f:Aj) (s'2:Af),GI mg mb s'2->C7 s s'2->QB s'2.heap f i (LY P) cl->As (An pw w) A (RM env i.name (.ref f)) (λ y s''=>Q .next s'') E s'2:=λ f s'2 g'2 t'2 F'2=>by have I'2:=I.step t'2 g'2;exact Mr N hz I'2 (V:=.fn f) rfl λ s'3 I'3 f'3 y=>kk f s'3 I'3 ((CT.of_stp t'2 g'2).trans f'3) (F'2.fsp I'2 f'3)
 rcases hin with rfl|⟨c',rfl,hc',hrec⟩
 ·refine makeFunction_K (clos:=cl) hcl N.gl (mg:=mg) g.wd.g hcode hC hps trivial rfl hmP hbat λ c' ctv doc h' tk hx hge hlt hrec htb=>ZD hrec λ c'' oc vs t ec hoc hod hv=>?_
  cases ec
  have nP:∀b,s.heap.objs.size<=b->¬Tb b:=λ b hb q=>by exact Aw (g.wd.tb b q) λ ws e=>absurd (AT e) (Nat.not_lt.mpr hb)
  have keep1:DS s.heap h':=λ b o nt e=>hx b o (λ q=>nt (q▸hP)) e;have hsz:s.heap.objs.size<=h'.objs.size:=B9 (Bc hge hlt);have etab:h'.get? P=Aa {cls:=.none,data:=.fields #[MW (KL P),MW 4,.ref c']}:=by rw[htb];show Aa (tabObj (#[]++#[MW pos.line,MW pos.col,.ref c']))=_;rw[hl1,hl2];rfl
  have tb':∀b,Tb b->∃vs,h'.get? b=Aa {cls:=.none,data:=.fields vs}:=λ b q=>by
   by_cases e:b=P
   ·subst e;exact⟨_,etab⟩
   ·refine Aw (g.wd.tb b q) λ ws e2=>?_;exact⟨ws,hx b _ e e2⟩
  have ta':IW h':=λ b q ws e=>by
   by_cases eb:b=P
   ·subst eb;rw[etab] at e;have e3:ws=#[MW (KL b),MW 4,.ref c']:=by injection e with e;injection e with _ _ e;injection e with e;exact e.symm
    exact .inr ⟨c',e3,nP c' hge,c',oc,vs,t,rfl,hoc,hod,hv⟩
   ·refine Aw (g.wd.tb b q) λ us e1=>?_;have e2:=hx b _ eb e1;rw[e] at e2;have e3:ws=us:=by injection e2 with e2;injection e2 with _ _ e2;injection e2
    subst e3;rcases g.wd.ta b q ws e1 with z|⟨c3,z1,z2,c4,o4,w4,t4,z3,z4,z5⟩
    ·exact .inl z
    ·cases z3
     exact .inr ⟨c3,z1,z2,c3,o4,w4,t4,rfl,keep1 c3 o4 z2 z4,z5⟩
  have g1:GI mg mb {s with heap:=h'}:=⟨g.wd.keep keep1 tb' ta',g.bare⟩;have g2:=g1.push (fnMade i.name (LY P) i.args i.body i.scope cl doc ((mg "__name__").getD .none) c' ctv) tk;have t2:C7 s {s with heap:=h'.push (fnMade i.name (LY P) i.args i.body i.scope cl doc ((mg "__name__").getD .none) c' ctv),toks:=tk}:=⟨keep1.trans (.push _ _),λ y y e=>e,rfl⟩;exact store h'.objs.size _ g2 t2 ⟨_,doc,_,c',oc,vs,t,ctv,AW _ rfl,nP _ hsz,rfl,nP c' hge,AS _ hoc,hod,hv⟩
 ·refine makeFunction_hit (clos:=cl) (cv:=.ref c') hcl N.gl (mg:=mg) g.wd.g hcode hC hps trivial ?_ hbat λ ctv doc h' tk hk hsz=>?_
  ·show(if((KL P==(pos.line:Int))&&((4:Int)==(pos.col:Int)))=Ab then Aa (RY c') else Ae)=_;rw[hl1,hl2];simp
  ·refine ZD hrec λ c'' oc vs t ec hoc hod hv=>?_
   cases ec
   have nP:∀b,s.heap.objs.size<=b->¬Tb b:=λ b hb q=>by exact Aw (g.wd.tb b q) λ ws e=>absurd (AT e) (Nat.not_lt.mpr hb)
   have g1:GI mg mb {s with heap:=h'}:=g.all hk s.toks;refine store h'.objs.size _ (g1.push _ tk) ⟨(DS.of hk).trans (.push _ _),λ y y e=>e,rfl⟩ ⟨_,doc,_,c',oc,vs,t,ctv,AW _ rfl,nP _ hsz,rfl,hc',AS _ (hk _ _ hoc),hod,hv⟩
end
set_option backward.match.sparseCases true

set_option backward.match.sparseCases false
noncomputable def YG:Ex:=.o2 .fdiv (.o2 .sub (.o2 .a (.o1 .bitlen (.v 0)) (.v 1)) (.c (.int 1))) (.v 1)
@[elab_as_elim] theorem oZ{gC:List CU->Prop}(gk:∀ad w1 e0 w2 e1 w3 w4 w5 t in1 w6 a1 a2 ln w7 ad2 w8 w9 w10 w11 w12 r w13 w14,F8 (C0 (AA 9)) ad 2=Ab->chk (C0 (AA 9)) (.c (.int 0)) e0=Ab->chk (C0 (AA 9)) YG e1=Ab->chk (C0 (AA 9)) (.v 0) t=Ab->EI (C0 (AA 9)) in1 3=Ab->chk (C0 (AA 9)) (.v 0) a1=Ab->chk (C0 (AA 9)) (.c (.int 0)) a2=Ab->HJ (C0 (AA 9)) ln "len"=Ab->EI (C0 (AA 9)) ad2 2=Ab->EI (C0 (AA 9)) r 2=Ab->gC [.Assign [.Name ad w1] (.BinOp (.List [e0] w2) .Mult e1 w3) w4,w5,.If t [.Expr (.Call (.Name in1 w6) [a1,a2,.Call (.Name ln w7) [.Name ad2 w8] [] w9] [] w10) w11] [] w12,.Return (Aa (.Name r w13)) w14]):gC (AA 9).body:=gk _ _ _ _ _ _ _ _ _ _ _ _ _ _ _ _ _ _ _ _ _ _ _ _ rfl rfl rfl rfl rfl rfl rfl rfl rfl rfl
def yG:Pos:=(bW (AA 9).body 1).2
theorem YR:(AA 9).body[1]?=Aa (.FunctionDef HE.name HE.args HE.body [] Ae [] HE.scope Ae HE.name yG):=rfl
theorem wS:Dh 9 ["a","n"]=Ab:=by decide+kernel
def wT(a n:Int):Option (List V):=((Cj .fdiv (.int (BV a+n - 1)) (.int n)).bind Bb).bind λ k=>if 0<=k/\k.toNat<=CN then(if a=0 then Aa (AD k.toNat (.int 0)) else KT 60 n a 0 k (AD k.toNat (.int 0))) else Ae
theorem nm63:F8 (C0 (AA 9)) HE.name 3=Ab/\lk "n" (C0 (AA 9)).acc=Aa 1/\lk "a_digits" (C0 (AA 9)).acc=Aa 2/\lk "inner" (C0 (AA 9)).acc=Aa 3/\HE.args.defaults=[]/\HE.args.kw_defaults=[]/\(yG.line:Int)=KL 58/\(yG.col:Int)=4:=by refine⟨by decide+kernel,by decide+kernel,by decide+kernel,by decide+kernel,by kernel_rfl,by kernel_rfl,by kernel_rfl,by kernel_rfl⟩
section
variable{i:Ib}
theorem Iz(N:AJ K C env){z:Str}{c:Aj}(h:lk z K.acc=Aa j)(hk:env.kindOf z=Aa .cell)(hc:env.cells.lookup z=Aa c):C.loc j=.cell c:=by
 have a:=N.acc z j h
 cases e:C.loc j with
 |no=>rw[e] at a;induction a
 |dict D y=>rw[e] at a;have a:=a.2.1;rw[hk] at a;cases a
 |cell c'=>rw[e] at a;have:=a.2;rw[hc] at this;obtain rfl:=sj this;rfl
theorem kI(N:AJ K C env){ln z:Str}{p q pos:Pos}{xs:List V}(hf:HJ K ln "len"=Ab) (hz:EI K z j=Ab) (hj:rd U j=.x xs):Cg mg mb w C A U (AM (.Call (.Name ln p) [.Name z q] [] pos) env) (.int xs.length):=λ J s I=>by
 refine U7 hf λ h1 h2=>?_;refine C6 (key:=Ae) (f:=.builtin "len") (AR:=λ s' vs=>vs=[.ref (J j)]/\C7 s s') N I (OR λ y y=>rfl) rfl (λ h=>by cases h)
  (λ Q E k=>Ee N h1 h2 I (by decide+kernel) (by decide+kernel) (by decide+kernel) k) (λ Q E k=>BA (CZ N hz hj I (Ec (k s _ I.gi (.refl s) ⟨rfl,.refl s⟩))) rfl) (λ s' g=>CM (f:=.builtin "len") (λ y e=>(by cases e)) _) λ s'1 vs I'1 t'1 ⟨e,_⟩=>?_
 subst e;exact(Xv (a:=.list xs) (r:=.int xs.length) rfl I'1.gi (JX I'1 hj)).mono λ y y y y r=>r
theorem Y2{av nv:Int}{ys:List V}(hd:wT av nv=Aa ys)(hA:BQ 62 A)(g:GI mg mb s){Y:Aj->Prop}(hY:∀b,Y b->∃o,s.heap.get? b=Aa o){us:List Ad}(hr:AI s.heap Y [.int av,.int nv] us):
  Ok mg mb w A s (C2 (.ref 63) us []) λ s' v=>KC s s' Y (.reto ys) v:=by
 refine bK hd λ k hk hd=>?_;have hk:=FW hk;refine iK hd λ hk0 hd=>Qa (ns:=4) (key:=Ae) (pn:=["a","n"]) (m:=61) (by decide) wS (by decide+kernel) (DE (by decide) zX) rfl rfl hA g hY hr λ C dV kV doc pm c ct o s'1 ho hdat N I t'1 hG Q E kk=>rH nm63 λ n1 n2 n3 n4 n5 n6 n7 n8=>?_;have X1:Cx mg mb w G0 0 (A.deeper (Dp 9 dV kV doc pm (.ref c) ct s.heap.objs.size 63)):=Vz (hG.less (by exact AN n1));have hat:=YR
 revert hat
 refine oZ λ ad z e0 z e1 z z sd t in1 z a1 a2 ln z ad2 z z z z z rr z z c1 c2 c3 c4 c5 c6 c7 c8 c9 c10=>?_;intro hat;have hat:sd=.FunctionDef HE.name HE.args HE.body [] Ae [] HE.scope Ae HE.name yG:=by injection hat
 subst hat;have l1:C.loc 1=.cell (s.heap.objs.size+1):=Iz N n2 rfl rfl;have l2:C.loc 2=.cell (s.heap.objs.size+1+1):=Iz N n3 rfl rfl;have l3:C.loc 3=.cell (s.heap.objs.size+1+1+1):=Iz N n4 rfl rfl;have I:AX mg mb C (λ z=>0) [.w (.int av),.w (.int nv),.u,.u] s'1:=I;have ek:ev G0 YG [.w (.int av),.w (.int nv),.u,.u]=Aa (.int k):=hk;refine Ay (PN (xs:=AD k.toNat (.int 0)) N c1 (λ J s I=>dO (BP X1 _ _ C _ _ e0 (.int 0) N c2 rfl) (AH c2) (BP X1 _ _ C _ _ e1 _ N c3 ek) hk0.1 hk0.2 I) rfl _ s'1 I _ _ λ σ1 s2 f2 I2 fs2 ok=>?_);subst ok;obtain⟨c',o',fd',q1,q2,q3,q4,q5,q6⟩:=I2.gi.wd.co (63,58) (by decide);have t2:s2.heap.get? 63=Aa o:=by exact A9 (I.notFn (t'1.keep 63 o (Jy 63) ho) (.inl ⟨_,hdat⟩)) λ p1 p2=>fs2.heap 63 o (Jy 63) p1 p2 (t'1.keep 63 o (Jy 63) ho)
 have ec:c'=c:=by
  have q1:s2.heap.get? 63=Aa o':=q1;rw[t2] at q1;obtain rfl:=sj q1;rw[hdat] at q3;cases q3
  have:RY c=.ref c':=q4;injection this with this;exact this.symm
 subst ec;refine Ay (WG (i:=HE) (P:=58) (c:=c') (j:=3) (cl:=[("n",s.heap.objs.size+1),("inner",s.heap.objs.size+1+1+1),("a_digits",s.heap.objs.size+1+1)]) N (.inl rfl) rfl q6 rfl n7 n8 n5 n6 rfl rfl n1 I2 λ f s3 I3 fs3 F3=>?_);have hfin:∀J' s' fl (U':AQ),AX mg mb C J' U' s'->CT C (λ z=>0) [.w (.int av),.w (.int nv),.u,.u] s'1 J' U' s'->rd U' 2=.x ys->Ot C J' U' (.reto ys) fl s'->Q fl s':=λ J' s' fl U' I' f' e ok=>kk J' U' s' fl I' f' ok;have retn:∀(p1 p2:Pos) J' s' (U':AQ),AX mg mb C J' U' s'->CT C (λ z=>0) [.w (.int av),.w (.int nv),.u,.u] s'1 J' U' s'->rd U' 2=.x ys->As (An pw w) (A.deeper (Dp 9 dV kV doc pm (.ref c') ct s.heap.objs.size 63)) (B4 [.Return (Aa (.Name rr p1)) p2] (Dp 9 dV kV doc pm (.ref c') ct s.heap.objs.size 63)) Q E s':=λ p1 p2 J' s' U' I' f' e=>by refine Ay (TE N c10 e J' s' I' _ _ λ J'' s'' fl I'' f'' ok=>?_);have h:=hfin J'' s'' fl U' I'' (f'.trans f'') e ok;refine AF ok λ i hi H3=>?_;subst H3;exact h
 have tt:Gr G0 (.v 0) [.w (.int av),.w (.int nv),.x (AD k.toNat (.int 0)),.w (.fn f)]=Aa (av !=0):=rfl
 split at hd
 ·rename_i ha;obtain rfl:=sj hd;refine Ay (HG.ite (fl:=.next) (FJ X1 (.v 0) _ C _ _ t _ N c4 tt) (λ q=>?_) (λ z=>HG.nil) σ1 s3 I3 _ _ λ s4 f4 I4 fs4 ok=>?_)
  ·rw[ha] at q;exact nf q
  ·subst ok;exact retn _ _ _ s4 _ I4 ((fs2.trans fs3).trans fs4) rfl
 ·rename_i ha;refine Ay<|KZ (FJ X1 (.v 0) _ C _ _ t _ N c4 tt σ1 s3 I3 _ _ λ s4 dd g4 t4 e=>?_);have e:dd=Ab:=by rw[e];simpa using ha
  subst e;have I4:=I3.step t4 g4;have he:KT 60 nv av 0 ((AD k.toNat (V.int 0)).length:Nat) (AD k.toNat (.int 0))=Aa ys:=by rw[GV,H1 hk0.1];exact hd
  refine Ay (Mp (pL 60) hG N l1 l2 l3 rfl rfl rfl c5 (BP X1 (.v 0) _ C _ _ a1 (.int av) N c6 rfl) (BP X1 _ _ C _ _ a2 (.int 0) N c7 rfl) (kI N c8 c9 rfl) (AH c6) (AH c7) (λ z z=>rfl) he σ1 s4 I4 (F3.keep t4.keep) _ _ λ s5 I5 fs5=>CO ?_);exact retn _ _ _ s5 _ I5 (((fs2.trans fs3).trans (CT.of_stp t4 g4)).trans fs5) rfl
end
noncomputable abbrev SW(L R:Int)(x2 x3:LV)(ds:List V)(f:Aj)(k:Int):AQ:=[.w (.int L),.w (.int R),x2,x3,.w (.list ds),.w (.fn f),.w (.int k)]
@[elab_as_elim] theorem wX{gC:List CU->Prop}(gk:∀t1 x1 w1 w2 mid w3 e1 w4 sh w5 e2 w6 in1 w7 a1 a2 w8 s1 w9 dD w10 b1 b2 w11 w12 w13,chk (IN IR Jg) (eT 0 1) t1=Ab->chk (IN IR Jg) (.o2 .i (.v 4) (.v 0)) x1=Ab->F8 (IN IR Jg) mid 2=Ab->chk (IN IR Jg) (dU 0 1) e1=Ab->F8 (IN IR Jg) sh 3=Ab->chk (IN IR Jg) (yM 2 0 6) e2=Ab->EI (IN IR Jg) in1 5=Ab->chk (IN IR Jg) (.v 2) a1=Ab->chk (IN IR Jg) (.v 1) a2=Ab->chk (IN IR Jg) (.v 3) s1=Ab->EI (IN IR Jg) dD 5=Ab->chk (IN IR Jg) (.v 0) b1=Ab->chk (IN IR Jg) (.v 2) b2=Ab->gC [.If t1 [.Return (Aa x1) w1] [] w2,.Assign [.Name mid w3] e1 w4,.Assign [.Name sh w5] e2 w6,.Return (Aa (.BinOp (.BinOp (.Call (.Name in1 w7) [a1,a2] [] w8) .LShift s1 w9) .Add (.Call (.Name dD w10) [b1,b2] [] w11) w12)) w13]):gC IR.body:=gk _ _ _ _ _ _ _ _ _ _ _ _ _ _ _ _ _ _ _ _ _ _ _ _ _ _ (by kernel_rfl) (by kernel_rfl) (by kernel_rfl) (by kernel_rfl) (by kernel_rfl) (by kernel_rfl) (by kernel_rfl) (by kernel_rfl) (by kernel_rfl) (by kernel_rfl) (by kernel_rfl) (by kernel_rfl) (by kernel_rfl)
theorem XQ:SN IR ["L","R"]=Ab:=by decide+kernel
noncomputable def yC:Str:="_digits2int.<locals>.inner"
theorem pT(cl:List (Str×Aj))(L R doc pm cd ct:Ad):Hc (fnX IR.name yC IR.args IR.body IR.scope cl .none .none doc pm Ae cd ct) ⟨[L,R],[]⟩=pure ((["L","R"]:List Str).zip [L,R]):=by kernel_rfl
section
variable{i:Ib}
def Tq(mg mb:Str->Option Ad)(w:B2)(f cn cd cf:Aj)(d:Nat):Prop:=
 ∀⦃A:Br⦄ ⦃C:Er⦄ ⦃J:Nat->Aj⦄ ⦃U:AQ⦄ ⦃s:Af⦄ ⦃jn jd jf:Nat⦄ ⦃ds:List V⦄ ⦃n L R r:Int⦄,BQ (d+1) A->AX mg mb C J U s->C.loc jn=.cell cn->C.loc jd=.cell cd->C.loc jf=.cell cf->rd U jn=.w (.int n)->rd U jd=.w (.list ds)->rd U jf=.w (.fn f)->
  QB s.heap f IR yC [("n",cn),("inner",cf),("digits",cd)]->NR d n ds L R=Aa r->∀(t1 t2:Tok) (Q:Ad->Af->Prop) (E:Ad->Af->Prop),(∀s' t,AX mg mb C J U s'->CT C J U s J U s'->Q (.int r t) s')->
  As (An pw w) A (C2 (.ref f) [.int L t1,.int R t2] []) Q E s
theorem Og{cn cd cf:Aj}(hr:Tq mg mb w f cn cd cf d)(hA:BQ (d+1) A)(N:AJ K C env){zn:Str}{a1 a2:Ac}{p pos:Pos}{jn jd jf:Nat}{ds:List V}{k L R r:Int}(l1:C.loc jn=.cell cn)(l2:C.loc jd=.cell cd)(l3:C.loc jf=.cell cf)
  (r1:rd U jn=.w (.int k)) (r2:rd U jd=.w (.list ds)) (r3:rd U jf=.w (.fn f)) (hz:EI K zn jf=Ab) (h1:Cg mg mb w C A U (AM a1 env) (.int L)) (h2:Cg mg mb w C A U (AM a2 env) (.int R)) (p1:Bo a1) (p2:Bo a2)
  (he:NR d k ds L R=Aa r) (J:Nat->Aj) (s:Af) (I:AX mg mb C J U s) (hf:QB s.heap f IR yC [("n",cn),("inner",cf),("digits",cd)]) (Q:Ad->Af->Prop) (E:Ad->Af->Prop) (kk:∀s' t,AX mg mb C J U s'->CT C J U s J U s'->Q (.int r t) s'):
  As (An pw w) A (AM (.Call (.Name zn p) [a1,a2] [] pos) env) Q E s:=by
 refine RF N I hz r3 (DG.two h1 p1 h2 p2) (OQ p1 p2) hf λ s'1 vs I'1 t'1 rr=>?_;refine El rr.two λ v1 v2 H3 ξ4 H=>?_;refine Aw H λ t2 H2=>?_;subst H2;subst H3;exact iE ξ4 λ t1=>hr hA I'1 l1 l2 l3 r1 r2 r3 (hf.keep t'1.keep) he t1 t2 _ _ λ s' t I' f'=>kk s' t I' ((CT.of_stp t'1 I'1.gi).trans f')
theorem pN(N:AJ (IN IR Jg) C env){cn cd cf:Aj}(hr:Tq mg mb w f cn cd cf d)(hA:BQ (d+1) A)(l1:C.loc 6=.cell cn)(l2:C.loc 4=.cell cd)(l3:C.loc 5=.cell cf){k L R r:Int}{ds:List V}
  (he:NR (d+1) k ds L R=Aa r) (J:Nat->Aj) (s:Af) (I:AX mg mb C J (SW L R .u .u ds f k) s) (hf:QB s.heap f IR yC [("n",cn),("inner",cf),("digits",cd)]) (Q:Gj->Af->Prop) (E:Ad->Af->Prop)
  (kk:∀s' t ρf,AX mg mb C J ρf s'->CT C J (SW L R .u .u ds f k) s J ρf s'->rd ρf 4=.w (.list ds)->rd ρf 5=.w (.fn f)->rd ρf 6=.w (.int k)->Q (.ret (.int r t)) s'):
  As (An pw w) A (B4 IR.body env) Q E s:=by
 have X1:Cx mg mb w G0 0 A:=Vz (hA.less (by exact DU 1 d));refine wX λ t1 x1 z z mid z e1 z sh z e2 z in1 z a1 a2 z s1 z dD z b1 b2 z z z c1 c2 c3 c4 c5 c6 c7 c8 c9 c10 c11 c12 c13=>?_;have he':(if L+1=R then(JD ds L).bind Bb else
  (((Cj .shr (.int (L+R)) (.int 1)).bind Bb).bind λ m=>((Cj .mul (.int (m - L)) (.int k)).bind Bb).bind λ sh=>(NR d k ds m R).bind λ hi=>((Cj .shl (.int hi) (.int sh)).bind Bb).bind λ t=>(NR d k ds L m).map λ lo=>t+lo))=Aa r:=he
 have tst1:Gr G0 (eT 0 1) (SW L R .u .u ds f k)=Aa (decide (L+1=R)):=by
  show(Cj .eq (.int (L+1)) (.int R)).bind truthy=_;show Aa ((L+1)==R)=_
  congr 1
 have ht:=FJ X1 (eT 0 1) _ C env _ t1 _ N c1 tst1
 split at he'
 ·rename_i hLR;have e1:=FW he';refine(HG.stop (V:=.int r) (HG.ite ht (λ z=>HG.stop (HG.ret (BP X1 (.o2 .i (.v 4) (.v 0)) _ C env _ x1 (.int r) N c2 e1))) (λ q=>?_))) J s I Q E λ s' fl I' f' ok=>?_
  ·rw[decide_eq_false_iff_not] at q;exact absurd hLR q
  ·refine AF ok λ v H2 H=>?_;refine Aw H λ t H2=>?_;subst H2;subst H2;exact kk s' t _ I' f' rfl rfl rfl
 ·rename_i hLR;refine bK he' λ m hm he'=>bK he' λ sv hs he'=>bK he' λ hi hhi he'=>bK he' λ tv htv he'=>mK he' λ lo hlo he'=>?_;have hm:=FW hm;have hs:=FW hs;have htv:=FW htv;subst he';refine Ay (HG.ite (fl:=.next) ht (λ q=>absurd (of_decide_eq_true q) hLR) (λ z=>HG.nil) J s I _ _ λ s1' f1 I1 fs1 ok=>?_);subst ok;refine Ay (HG.asgE (v:=.int m) X1 N c3 c4 (JS c4) (show ev G0 (dU 0 1) (SW L R .u .u ds f k)=_ from hm) J s1' I1 _ _ λ s2 f2 I2 fs2 ok=>?_);subst ok;refine Ay (HG.asgE (v:=.int sv) X1 N c5 c6 (JS c6) (show ev G0 (yM 2 0 6) (SW L R (.w (.int m)) .u ds f k)=_ from hs) J s2 I2 _ _ λ s3 f3 I3 fs3 ok=>?_);subst ok;have hf3:=((hf.fsp I fs1).fsp I1 fs2).fsp I2 fs3;refine Ay (Dk (RU (RU ?_)));refine Og hr hA N l1 l2 l3 rfl rfl rfl c7 (BP X1 (.v 2) _ C env _ a1 (.int m) N c8 rfl) (BP X1 (.v 1) _ C env _ a2 (.int R) N c9 rfl) (AH c8) (AH c9) hhi J s3 I3 hf3 _ _ λ s4 t4 I4 fs4=>BP X1 (.v 3) _ C env _ s1 (.int sv) N c10 rfl J s4 I4 _ _ λ s5 v5 g5 t5 ⟨u5,e5⟩=>?_;subst e5;have I5:=I4.step t5 g5;refine Th (o:=.shl) (a:=.int hi) (b:=.int sv) (r:=.int tv) rfl htv (Y:=Am C J (wr (wr (SW L R .u .u ds f k) 2 (.w (.int m))) 3 (.w (.int sv)))) ⟨t4,rfl⟩ ⟨u5,rfl⟩ I5.gi I5.there _ _ λ s6 v6 g6 t6 ⟨u6,e6⟩=>?_;subst e6;have I6:=I5.step t6 g6;have hf6:=((hf3.fsp I3 fs4).keep t5.keep).keep t6.keep;refine Og hr hA N l1 l2 l3 rfl rfl rfl c11 (BP X1 (.v 0) _ C env _ b1 (.int L) N c12 rfl) (BP X1 (.v 2) _ C env _ b2 (.int m) N c13 rfl) (AH c12) (AH c13) hlo J s6 I6 hf6 _ _ λ s7 t7 I7 fs7=>Th (o:=.a) (a:=.int tv) (b:=.int lo) (r:=.int (tv+lo)) rfl rfl (Y:=Am C J (wr (wr (SW L R .u .u ds f k) 2 (.w (.int m))) 3 (.w (.int sv)))) ⟨u6,rfl⟩ ⟨t7,rfl⟩ I7.gi I7.there _ _ λ s8 v8 g8 t8 ⟨u8,e8⟩=>?_;subst e8;exact kk s8 u8 _ (I7.step t8 g8) (((((((fs1.trans fs2).trans fs3).trans fs4).trans (CT.of_stp t5 g5)).trans (CT.of_stp t6 g6)).trans fs7).trans (CT.of_stp t8 g8)) rfl rfl rfl
end
section
variable{i:Ib}
theorem xF:qC IR Jg 4 ["digits","inner","n"]=Ab:=by decide+kernel
theorem pK{cn cd cf:Aj}:∀d,Tq mg mb w f cn cd cf d:=λ I0=>by
 induction I0 with
 |zero=>exact λ z z z z z z z z z z z z z z z z z z z z z z he=>nn (show(Ae:Option Int)=Aa _ from he)
 |succ d IH=>
  exact λ A C J U s jn ja jf ds k L R r hA I l1 l2 l3 r1 r2 r3 hf he t1 t2 Q E kk=>by
   have D:=uZ XQ;have naf:ja≠jf:=λ e=>by rw[e,r3] at r2;cases r2
   have nan:ja≠jn:=λ e=>by rw[e,r1] at r2;cases r2
   have nfn:jf≠jn:=λ e=>by rw[e,r1] at r3;cases r3
   refine Ra (n:=d+1) D (λ doc pm cd ct=>pT _ _ _ doc pm cd ct) rfl hA I.gi hf λ s'1 c g'1 t'1 hLn hns hG E'=>?_;have Cp:UC C J U 4 (wU 4 (cd,ja) (cf,jf) (cn,jn)) (zH J 4 (cd,ja) (cf,jf) (cn,jn)) [.w (.int L),.w (.int R),.u,.u,.w (.list ds),.w (.fn f),.w (.int k)]:=wZ l2 l3 l1 naf nan nfn r2.symm r3.symm r1.symm rfl;have I'1:=XT Cp (nm:=λ k=>Jg.getD k "") I t'1 g'1 hLn hns (λ i j hi hj e=>congrArg Fin.val (Xi ⟨i,hi⟩ ⟨j,hj⟩ e)) λ k hk=>by
    match k,hk with
    |0,_=>exact .inl ⟨_,_,rfl,rfl,⟨t1,rfl⟩⟩
    |1,_=>exact .inl ⟨_,_,rfl,rfl,⟨t2,rfl⟩⟩
    |2,_=>exact .inr rfl
    |3,_=>exact .inr rfl
   refine pN (d:=d) (Ud D xF (cn3 rfl rfl rfl)) (IH) hG rfl rfl rfl he _ s'1 I'1 (hf.keep t'1.keep) _ E' λ s'2 tr ρf I'2 f'2 e7 e8 e9=>?_;have fin:=Ue (U'2:=U) Cp I t'1 hLn I'2 f'2 (Fi (.inl (e7.trans r2.symm)) (.inl (e8.trans r3.symm)) (.inl (e9.trans r1.symm))) (Fi (r2.trans e7.symm) (r3.trans e8.symm) (r1.trans e9.symm)) λ j z=>rfl;exact kk s'2 tr fin.1 fin.2
end
@[elab_as_elim] theorem oY{gC:List CU->Prop}(gk:∀w1 t in1 w2 a1 a2 w3 e0 w4 w5,chk (C0 (AA 10)) (.v 0) t=Ab->EI (C0 (AA 10)) in1 2=Ab->chk (C0 (AA 10)) (.c (.int 0)) a1=Ab->chk (C0 (AA 10)) (.o1 .len (.v 0)) a2=Ab->chk (C0 (AA 10)) (.c (.int 0)) e0=Ab->gC [w1,.Return (Aa (.IfExp t (.Call (.Name in1 w2) [a1,a2] [] w3) e0 w4)) w5]):gC (AA 10).body:=gk _ _ _ _ _ _ _ _ _ _ rfl rfl rfl rfl rfl
def yF:Pos:=(bW (AA 10).body 0).2
theorem YQ:(AA 10).body[0]?=Aa (.FunctionDef IR.name IR.args IR.body [] Ae [] IR.scope Ae IR.name yF):=rfl
theorem oQ:Dh 10 ["digits","n"]=Ab:=by decide+kernel
def rB(ds:List V)(n:Int):Option Int:=if ds.isEmpty then Aa 0 else NR 60 n ds 0 ds.length
theorem nm70:F8 (C0 (AA 10)) IR.name 2=Ab/\lk "n" (C0 (AA 10)).acc=Aa 1/\lk "digits" (C0 (AA 10)).acc=Aa 0/\lk "inner" (C0 (AA 10)).acc=Aa 2/\IR.args.defaults=[]/\IR.args.kw_defaults=[]/\(yF.line:Int)=KL 65/\(yF.col:Int)=4:=by refine⟨by decide+kernel,by decide+kernel,by decide+kernel,by decide+kernel,by kernel_rfl,by kernel_rfl,by kernel_rfl,by kernel_rfl⟩
section
variable{i:Ib}
theorem Y1{ds:List V}{nv r:Int}(hd:rB ds nv=Aa r)(hA:BQ 62 A)(g:GI mg mb s){Y:Aj->Prop}(hY:∀b,Y b->∃o,s.heap.get? b=Aa o){us:List Ad}(hr:AI s.heap Y [.list ds,.int nv] us):
  Ok mg mb w A s (C2 (.ref 70) us []) λ s' v=>KC s s' Y (.ret (.int r)) v:=by
 refine Qa (ns:=3) (key:=Ae) (pn:=["digits","n"]) (m:=61) (by decide) oQ (by decide+kernel) (DE (by decide) zW) rfl rfl hA g hY hr λ C dV kV doc pm c ct o s'1 ho hdat N I t'1 hG Q E kk=>rH nm70 λ n1 n2 n3 n4 n5 n6 n7 n8=>?_;have X1:Cx mg mb w G0 0 (A.deeper (Dp 10 dV kV doc pm (.ref c) ct s.heap.objs.size 70)):=Vz (hG.less (by exact AN n1));have hat:=YQ
 revert hat
 refine oY λ sd t in1 z a1 a2 z e0 z z c1 c2 c3 c4 c5=>?_;intro hat;have hat:sd=.FunctionDef IR.name IR.args IR.body [] Ae [] IR.scope Ae IR.name yF:=by injection hat
 subst hat;have l1:C.loc 1=.cell (s.heap.objs.size+1+1):=Iz N n2 rfl rfl;have l2:C.loc 0=.cell (s.heap.objs.size+1):=Iz N n3 rfl rfl;have l3:C.loc 2=.cell (s.heap.objs.size+1+1+1):=Iz N n4 rfl rfl;have I:AX mg mb C (λ z=>0) [.w (.list ds),.w (.int nv),.u] s'1:=I;obtain⟨c',o',fd',q1,q2,q3,q4,q5,q6⟩:=I.gi.wd.co (70,65) (by decide);have t2:s'1.heap.get? 70=Aa o:=t'1.keep 70 o (Jy 70) ho;have ec:c'=c:=by
  have q1:s'1.heap.get? 70=Aa o':=q1;rw[t2] at q1;obtain rfl:=sj q1;rw[hdat] at q3;cases q3
  have:RY c=.ref c':=q4;injection this with this;exact this.symm
 subst ec;refine Ay (WG (i:=IR) (P:=65) (c:=c') (j:=2) (cl:=[("n",s.heap.objs.size+1+1),("inner",s.heap.objs.size+1+1+1),("digits",s.heap.objs.size+1)]) N (.inr rfl) rfl q6 rfl n7 n8 n5 n6 rfl rfl n1 I λ f s3 I3 fs3 F3=>?_);have tt:Gr G0 (.v 0) [.w (.list ds),.w (.int nv),.w (.fn f)]=Aa (!ds.isEmpty):=rfl;refine Ay (Dk (GA (FJ X1 (.v 0) _ C _ _ t _ N c1 tt _ s3 I3 _ _ λ s4 e g4 t4 q=>?_)));have I4:=I3.step t4 g4;unfold rB at hd
 split at hd
 ·rename_i he;obtain rfl:=sj hd;have q:e=Ai:=by rw[q,he];rfl
  subst q;refine BP X1 _ _ C _ _ e0 (.int 0) N c5 rfl _ s4 I4 _ _ λ s5 v5 g5 t5 ⟨u5,e5⟩=>?_;subst e5;exact kk _ _ s5 _ (I4.step t5 g5) ((fs3.trans (CT.of_stp t4 g4)).trans (CT.of_stp t5 g5)) ⟨_,rfl,u5,rfl⟩
 ·rename_i he;have q:e=Ab:=by rw[q];simpa using he
  subst q;exact Og (pK 60) hG N l1 l2 l3 rfl rfl rfl c2 (BP X1 _ _ C _ _ a1 (.int 0) N c3 rfl) (BP X1 _ _ C _ _ a2 (.int ds.length) N c4 rfl) (AH c3) (AH c4) hd _ s4 I4 (F3.keep t4.keep) _ _ λ s5 u5 I5 fs5=>kk _ _ s5 _ I5 ((fs3.trans (CT.of_stp t4 g4)).trans fs5) ⟨_,rfl,u5,rfl⟩
end
theorem A6.monoQ{h h':AV}{Y Y':Aj->Prop}(hk:∀b o,¬Tb b->(∀es n,o.data≠.dict es n)->h.get? b=Aa o->h'.get? b=Aa o)(hT:∀b o,Tb b->h.get? b=Aa o->o.cls=.none)(hY:∀b o,h.get? b=Aa o->Y' b->Y b):
  ∀{x:V} {v:Ad},A6 h Y x v->A6 h' Y' x v:=@λ x=>by
 induction x using V.rec (motive_2:=λ xs=>∀vs,AI h Y xs vs->AI h' Y' xs vs) with
 |list xs IH=>
  intro v r;refine A9 r λ hz H=>?_;refine Hm H λ a vs e hy ξ5 hr=>?_;obtain⟨n,ho⟩:=ξ5;refine⟨hz,a,vs,e,λ q=>hy (hY a _ ho q),⟨n,hk a _ (λ t=>?_) nofun ho⟩,IH _ hr⟩
  cases hT a _ t ho
 |tup xs IH=>intro v r;refine A9 r λ hz H=>?_;refine Hm H λ a vs e hy hl hr=>?_;refine E3 hl λ o ho hc H=>?_;refine Aw H λ n hd=>?_;refine⟨hz,a,vs,e,λ q=>hy (hY a o ho q),⟨o,hk a o (λ t=>?_) (by rw[hd];nofun) ho,hc,n,hd⟩,IH _ hr⟩;rw[hT a o t ho] at hc;cases hc
 |nil vs r=>exact r
 |cons x xs IH1 IH2 vs r=>exact El r λ v vs' e h1 h2=>⟨v,vs',e,IH1 h1,IH2 _ h2⟩
 |_=>intro v r;exact r
theorem AI.monoQ{h h':AV}{Y Y':Aj->Prop}(hk:∀b o,¬Tb b->(∀es n,o.data≠.dict es n)->h.get? b=Aa o->h'.get? b=Aa o)(hT:∀b o,Tb b->h.get? b=Aa o->o.cls=.none)(hY:∀b o,h.get? b=Aa o->Y' b->Y b):
  ∀{xs:List V} {vs:List Ad},AI h Y xs vs->AI h' Y' xs vs:=@λ xs=>by
 induction xs with
 |nil=>intro vs r;exact r
 |cons x xs IH=>intro vs r;exact El r λ v vs' e h1 h2=>⟨v,vs',e,A6.monoQ hk hT hY h1,IH h2⟩
structure D6(fr:List Aj)(s s':Af):Prop where
 keep:∀b o,¬Tb b->s.heap.get? b=Aa o->s'.heap.get? b=Aa o\/(b∈fr/\(∃es n,o.data=.dict es n)/\∃sl,s'.heap.get? b=Aa {o with slots:=sl})
 gens:∀(i:Nat) x,s.gens[i]?=Aa x->s'.gens[i]?=Aa x
 os:s'.os=s.os
theorem D6.of{fr:List Aj}(t:C7 s s'):D6 fr s s':=⟨λ b o n e=>.inl (t.keep b o n e),t.gens,t.os⟩
theorem D6.get{fr:List Aj}(x:D6 fr s s'){b:Aj}{o:Obj}(n:¬Tb b)(hd:∀es n,o.data≠.dict es n)(e:s.heap.get? b=Aa o):s'.heap.get? b=Aa o:=by
 rcases x.keep b o n e with e1|⟨_,⟨es,m,h⟩,_⟩
 ·exact e1
 ·exact absurd h (hd es m)
theorem D6.ns{fr:List Aj}(x:D6 fr s s'){b:Aj}{m:Str->Option Ad}(n:¬Tb b)(h:s.heap.Ns b m):s'.heap.Ns b m:=by
 refine Lb h λ o es ep e hd r=>?_;rcases x.keep b o n e with e1|⟨_,_,sl,e1⟩
 ·exact⟨o,es,ep,e1,hd,r⟩
 ·exact⟨_,es,ep,e1,hd,r⟩
theorem D6.there{fr:List Aj}(x:D6 fr s s')(g:GI mg mb s'){b:Aj}(h:∃o,s.heap.get? b=Aa o):∃o,s'.heap.get? b=Aa o:=by
 by_cases q:Tb b
 ·refine Aw (g.wd.tb b q) λ vs e=>?_;exact⟨_,e⟩
 ·refine Aw h λ o e=>?_;rcases x.keep b o q e with e1|⟨_,_,sl,e1⟩<;>exact⟨_,e1⟩
section
variable{fr:List Aj}
theorem D6.reps(x:D6 fr s s')(g:GI mg mb s){Y:Aj->Prop}{V:List V}{v:List Ad}(h:AI s.heap Y V v):AI s'.heap Y V v:=AI.monoQ (λ b o n hd e=>x.get n hd e) g.cls (λ z z z y=>y) h
noncomputable def EY(h:AV)(fr:List Aj):List Env->Prop
 |[]=>True
 |env::r=>env.scope.kind≠.module/\(∃L,env.frame=Aa L/\L∈fr)/\EY h fr r
def IY(h:AV)(fr:List Aj):Prop:=∀L∈fr,¬Tb L/\∃m,h.Ns L m
theorem IY.stp(x:IY s.heap fr){fr':List Aj}(t:D6 fr' s s'):IY s'.heap fr:=λ L hL=>let⟨n,m,h⟩:=x L hL;⟨n,m,t.ns n h⟩
theorem EY.fun{h:AV}(x:IY h fr):∀{l:List Env},EY h fr l->h.FunFrames (hideAll h fr) l
 |[],_=>trivial
 |env::l,⟨h1,⟨L,h2,h3⟩,h4⟩=>by refine A9 (x L h3) λ z H=>?_;refine ZE H λ m o es ep e hd z=>?_;exact⟨h1,⟨L,o,h2,hideAll_none _ h3,e,by rw[hd];nofun⟩,EY.fun x h4⟩
theorem EY.more{h h':AV}{L:Aj}:∀{l:List Env},EY h fr l->EY h' (L::fr) l
 |[],_=>trivial
 |env::l,⟨h1,⟨L',h2,h3⟩,h4⟩=>⟨h1,⟨L',h2,.tail _ h3⟩,EY.more h4⟩
theorem Mu.stpF{a:Aj}{nm:Str}{args:HM}{body:List CU}{sc:Scope}{dV kV:Ad}(x:Mu s.heap a nm qual args body sc cl dV kV)(t:D6 fr s s'):Mu s'.heap a nm qual args body sc cl dV kV:=by
 induction x with
 |mk o doc pm c oc vs tk ct ho na hd nc hc hod hq=>exact .mk o doc pm c oc vs tk ct (t.get na (by rw[hd];nofun) ho) na hd nc (t.get nc (by rw[hod];nofun) hc) hod hq
theorem UB.stpF{dV kV:Ad}(x:UB s.heap dV kV)(t:D6 fr s s'):UB s'.heap dV kV:=by
 induction x with
 |mk T D o od tk t' n m hs e1 n1 h1 d1 e2 n2 h2 d2=>
  have h1':=t.get n1 (by rw[d1];nofun) h1;rcases t.keep D od n2 h2 with h|⟨_,_,sl,h⟩
  ·exact .mk T D o od tk t' n m hs e1 n1 h1' d1 e2 n2 h d2
  ·exact .mk T D o _ tk t' n m hs e1 n1 h1' d1 e2 n2 h d2
theorem My.stpF{P:Aj}(x:My s.heap f P)(t:D6 fr s s'):My s'.heap f P:=by
 induction x with
 |mk c o fd e1 n1 d1 e2 n2 C=>exact .mk c o fd (t.get n1 (by rw[d1];nofun) e1) n1 d1 e2 n2 (C.imp λ oc=>.imp λ vs=>.imp λ file=>.imp λ tf=>.imp λ flags=>.imp λ tg=>.imp λ inF=>.imp λ text=>.imp λ tt h=>⟨t.get n2 (by rw[h.2.2.1];nofun) h.1,h.2⟩)
theorem GI.flew(g:GI mg mb s)(hf:IY s.heap fr)(hB:(hideAll s.heap fr).StaysIn s'.heap)(hU:s.heap.UpToSlots s'.heap)(hg:s'.gens=s.gens)(ho:s'.os=s.os):GI mg mb s'/\D6 fr s s':=by
 have t:D6 fr s s':=⟨λ b o n e=>by
  by_cases q:b∈fr
  ·refine A9 (hf b q) λ z H=>?_;refine ZE H λ m o' es ep e' hd z=>?_;rw[e] at e';obtain rfl:=sj e';exact Aw (hU b o e (by rw[hd];nofun)) λ sl h=>.inr ⟨q,⟨es,ep,hd⟩,sl,h⟩
  ·exact .inl (hB b o (qQ _ e q)),λ i x e=>by rw[hg];exact e,ho⟩
 have tabs:∀b vs,Tb b->s.heap.get? b=Aa {cls:=.none,data:=.fields vs}->s'.heap.get? b=Aa {cls:=.none,data:=.fields vs}:=λ b vs q e=>hB b _ (qQ _ e λ h=>(hf b h).1 q);have w:=g.wd;refine⟨⟨{
  g:=t.ns (Jy 3) w.g
  b:=t.ns (Jy 0) w.b
  nolimit:=w.nolimit.imp λ mc=>.imp_left (t.ns (Jy 2))
  bi:=w.bi,gv:=w.gv,nb:=w.nb
  fn:=λ p hp=>(w.fn p hp).imp λ dV=>.imp λ kV=>.imp (λ F=>⟨F.nm,F.ob.stpF t⟩) (.imp_right λ D ha=>(D ha).stpF t)
  tb:=λ b q=>(w.tb b q).imp λ vs=>tabs b vs q
  ta:=w.ta.mv (D:=λ b=>b∈fr) w.tb (λ b o q e=>hB b o (qQ _ e q)) (λ b q=>(hf b q).1) λ b q=>let⟨_,m,h⟩:=hf b q;.ns h
  co:=λ p hp=>(w.co p hp).stpF t
  bm:=by
   induction w.bm with
   |mk bm o e1 e2 e3 n e4 q1 q2 q3=>exact .mk bm o e1 e2 e3 n (t.get n (by rw[q3];nofun) e4) q1 q2 q3},by rw[hg];exact g.bare⟩,t⟩
theorem AX.flewW{W:Aj->Prop}(I:AX mg mb C J U s)(t:D6 fr s s')(g:GI mg mb s')(hb:∀L∈fr,C.base.get? L=Ae)(h0:∀b,W b->s.heap.get? b=Ae)(hW:∀b,W b->∃o,s'.heap.get? b=Aa o):AX mg mb (C.plus W) J U s':=by
 have hY:∀b o,s.heap.get? b=Aa o->Am (C.plus W) J U b->Am C J U b:=λ b o e y=>(Be.mp y).elim id λ h=>by rw[h0 b h] at e;exact nn e
 have up:∀V u,A6 s.heap (Am C J U) V u->A6 s'.heap (Am (C.plus W) J U) V u:=λ V u r=>r.monoQ (λ b o n hd e=>t.get n hd e) I.gi.cls hY;exact{
  gi:=g
  keep:=λ b o n e=>(t.keep b o n (I.keep b o n e)).elim id λ h=>nn ((hb b h.1).symm.trans e)
  wd0:=I.wd0
  y0:=λ b h=>h.elim (λ h=>t.there g (I.y0 b h)) (hW b)
  tb:=I.tb,new:=I.new,inj:=I.inj
  dicts:=λ D hD=>by exact AF (I.dicts D hD) λ m n h=>⟨m,t.ns (I.mineTb (.inl hD)) n,λ j y e=>(h j y e).mono up⟩
  cells:=λ i c e=>by refine AF (I.cells i c e) λ v H2 h=>?_;refine AF H2 λ o h1 h2=>?_;exact⟨v,⟨o,t.get (I.mineTb (.inr ⟨i,e⟩)) (by rw[h2];nofun) h1,h2⟩,h.mono up⟩
  owns:=λ i xs e=>by refine CA (I.owns i xs e) λ h1 h2 h3 H=>?_;refine AF H λ vs H2 h5=>?_;refine Aw H2 λ n h4=>?_;exact⟨h1,h2,h3,vs,⟨n,t.get (I.ownTb e) nofun h4⟩,AI.monoQ (λ b o n hd e=>t.get n hd e) I.gi.cls hY h5⟩
  ownY:=λ i xs e h=>h.elim (I.ownY i xs e) λ h=>by refine Aw (I.own_there e) λ o e2=>?_;rw[h0 _ h] at e2;exact nn e2
  apart:=I.apart}
theorem AX.flew(I:AX mg mb C J U s)(t:D6 fr s s')(g:GI mg mb s')(hb:∀L∈fr,C.base.get? L=Ae):AX mg mb C J U s':=
 (I.flewW (W:=λ z=>False) t g hb (λ z h=>h.elim) λ z h=>h.elim).less
theorem AX.newBase(I:AX mg mb C J U s)(hk:DS B s.heap)(hw:Wd mg mb B)(ht:∀b,Tb b->∃o,B.get? b=Aa o)(hn:∀b,C.mine b->B.get? b=Ae)(ho:∀i xs,rd U i=.x xs->B.get? (J i)=Ae):AX mg mb ⟨C.loc,C.Y0,B⟩ J U s where
 gi:=I.gi
 keep:=hk
 wd0:=hw
 y0:=I.y0
 tb:=ht
 new:=hn
 inj:=I.inj
 dicts:=I.dicts
 cells:=I.cells
 owns:=λ i xs e=>⟨ho i xs e,(I.owns i xs e).2⟩
 ownY:=I.ownY
 apart:=I.apart
end
section
variable{fr:List Aj}{X:String}
inductive DN(mg mb:Str->Option Ad)(l:List Env)(fr:List Aj)(s:Af)(X:String)(args:List Ad)(e:Aj)(s':Af):Prop
 |mk (s'2:Af) (t:Aj) (fr2:List Aj) (g:GI mg mb s'2) (st:D6 fr s s'2) (h1:s'.gens=s'2.gens) (h2:s'.os=s'2.os) (h3:IY s'2.heap fr2) (h4:∀L∈fr2,L∈fr\/s.heap.get? L=Ae) (h5:∀L∈fr,L∈fr2) (h6:EY s'2.heap fr2 l)
  (h7:Heap.FlyingW (hideAll s'2.heap fr2) l e (.type X) (.ref t) s'.heap) (h8:s'2.heap.UpToSlots s'.heap) (h9:s'.heap.TupAt t args):DN mg mb l fr s X args e s'
theorem DN.facts(h:DN mg mb l fr s X args e s'):GI mg mb s'/\D6 fr s s':=by
 obtain⟨s'2,t,fr2,g,st,h1,h2,h3,h4,h5,_,h6,h7,_⟩:=h;refine A9 (g.flew h3 h6.1 h7 h1 h2) λ g' st'=>⟨g',⟨λ b o n e=>?_,λ i x e=>st'.gens i x (st.gens i x e),st'.os.trans st.os⟩⟩;rcases st.keep b o n e with e1|⟨q1,q2,sl,e1⟩
 ·rcases st'.keep b o n e1 with e2|⟨q1,q2,sl,e2⟩
  ·exact .inl e2
  ·rcases h4 b q1 with q|q
   ·exact .inr ⟨q,q2,sl,e2⟩
   ·rw[q] at e;exact nn e
 ·rcases st'.keep b _ n e1 with e2|⟨_,_,sl2,e2⟩
  ·exact .inr ⟨q1,q2,sl,e2⟩
  ·exact .inr ⟨q1,q2,sl2,e2⟩
theorem DN.there(h:DN mg mb l fr s X args e s'):∃t,s'.heap.ExcAt e X (.ref t)/\s'.heap.TupAt t args/\s'.TypeIs (.ref e) X:=by obtain⟨s'2,t,fr2,_,_,_,_,_,_,_,_,h6,_,h8⟩:=h;exact Hm h6.first λ oe vs q1 q2 q3 q4=>⟨t,⟨oe,vs,q1,q2,q3,q4⟩,h8,⟨oe,q1,q2⟩⟩
theorem MG{L:Aj}{Q:Unit->Af->Prop}(hA:A.frames=Aa (env::l))(hf:env.frame=Aa L)(hk:env.scope.kind=.function)(lv:EY s.heap fr l)(hfr:IY s.heap fr)(st:D6 fr s s'2)(g'2:GI mg mb s'2)(hL:s.heap.get? L=Ae)(hLn:∃m,s'2.heap.Ns L m){h':AV}
  (hm:Heap.MadeExc s'2.heap h' e X args) (k:∀s',DN mg mb l fr s X args e s'->Q () s'):As (An pw w) A (leaving env (.ref e)) Q E {s'2 with heap:=h'}:=by
 have hLT:¬Tb L:=λ q=>by refine ZE hLn λ m o es ep e1 hd z=>Aw (g'2.wd.tb L q) λ vs e2=>?_;rw[e1] at e2;obtain rfl:=sj e2;cases hd
 have hfr2:IY s'2.heap (L::fr):=λ L' h=>by
  rcases AL.mp h with h|h
  ·exact h▸⟨hLT,hLn⟩
  ·exact(hfr.stp st) L' h
 have lv2:EY s'2.heap (L::fr) (env::l):=⟨by rw[hk];nofun,⟨L,hf,.head _⟩,lv.more⟩;have hm2:Heap.MadeExcOf s'2.heap ({s'2 with heap:=h'}:Af).heap e (.type X) args:=hm.of;refine wpAny_leaves_madeW (base:=hideAll s'2.heap (L::fr)) hA hf (λ b o e=>of_hideAll _ e) (EY.fun hfr2 lv2) hm2 λ h'' t q1 q2 q3 q4=>k _ ⟨s'2,t,L::fr,g'2,st,rfl,rfl,hfr2,λ L' h=>?_,λ L' h=>.tail _ h,lv.more,q1,(Heap.UpToSlots.of_keeps hm.keeps).trans q4,q2⟩;rcases AL.mp h with h|h
 ·exact .inr (h▸hL)
 ·exact .inl h
theorem DN.leave{L:Aj}{Q:Unit->Af->Prop}(h:DN mg mb (env::l) (L::fr) s'1 X args e s')(hA:A.frames=Aa (env::l))(hf:env.frame=Aa L)(st:D6 fr s s'1)(hL:s.heap.get? L=Ae)
  (k:∀s'',DN mg mb l fr s X args e s''->Q () s''):As (An pw w) A (leaving env (.ref e)) Q E s':=by
 obtain⟨s'2,t,fr2,g'2,st2,h1,h2,h3,h4,h5,h6,h7,h8,h9⟩:=h;refine wpAny_leaves_onW hA hf h7 λ h'' q1 q2=>k _ ⟨s'2,t,fr2,g'2,⟨λ b o n e=>?_,λ i x e=>st2.gens i x (st.gens i x e),st2.os.trans st.os⟩,h1,h2,h3,λ L' hL'=>?_,λ L' hL'=>h5 L' (.tail _ hL'),h6.2.2,q1,h8.trans q2,h9.of_slots q2⟩
 ·rcases st.keep b o n e with e1|⟨z1,z2,sl,e1⟩
  ·rcases st2.keep b o n e1 with e2|⟨z1,z2,sl,e2⟩
   ·exact .inl e2
   ·rcases AL.mp z1 with z|z
    ·rw[z,hL] at e;exact nn e
    ·exact .inr ⟨z,z2,sl,e2⟩
  ·rcases st2.keep b _ n e1 with e2|⟨_,_,sl2,e2⟩
   ·exact .inr ⟨z1,z2,sl,e2⟩
   ·exact .inr ⟨z1,z2,sl2,e2⟩
 ·rcases h4 L' hL' with h|h
  ·rcases AL.mp h with h|h
   ·exact .inr (h▸hL)
   ·exact .inl h
  ·cases e:s.heap.get? L' with
   |none=>exact .inr rfl
   |some o=>
    by_cases q:Tb L'
    ·exact absurd q (h3 L' hL').1
    ·rcases st.keep L' o q e with e1|⟨_,_,sl,e1⟩<;>rw[h] at e1<;>exact nn e1
theorem DN.look{L:Aj}{Q:Unit->Af->Prop}(h:DN mg mb (env::l) fr s X args e s')(hA:A.frames=Aa (env::l))(hf:env.frame=Aa L)
  (k:∀s'',DN mg mb (env::l) fr s X args e s''->Q () s''):As (An pw w) A (Jc (.ref e) env) (λ z s'2=>As (An pw w) A (K2 (.ref e) Ae) Q E s'2) E s':=by
 obtain⟨s'2,t,fr2,g'2,st2,h1,h2,h3,h4,h5,h6,h7,h8,h9⟩:=h;exact wpAny_looks_onW hA hf h7 λ h'' q1 q2=>wpAny_landsW q1 λ h3' q3 q4=>k _ ⟨s'2,t,fr2,g'2,st2,h1,h2,h3,h4,h5,h6,q3,(h8.trans q2).trans q4,(h9.of_slots q2).of_slots q4⟩
theorem DN.land{Q:Unit->Af->Prop}(h:DN mg mb l fr s X args e s')(k:∀s'',DN mg mb l fr s X args e s''->Q () s''):As (An pw w) A (K2 (.ref e) Ae) Q E s':=by obtain⟨s'2,t,fr2,g'2,st2,h1,h2,h3,h4,h5,h6,h7,h8,h9⟩:=h;exact lands_againW h7 λ h'' q1 q2=>k _ ⟨s'2,t,fr2,g'2,st2,h1,h2,h3,h4,h5,h6,q1,h8.trans q2,h9.of_slots q2⟩
end
section
variable{fr:List Aj}{X:String}
theorem UZ{N I N' I':String}{x:Str}{np pos:Pos}{Q:Gj->Af->Prop}(hh:A.handled=Ae)(hc:ExcClass X N I)(F:ExcCallFacts X N' I')(hself:Zz (.type X) (.type X)=pure Ab)
  (hx:∀(Q:Ad->Af->Prop) (E:Ad->Af->Prop),Q (.type X) s->As (An pw w) A (AM (.Name x np) env) Q E s) (h:∀h' e,Heap.MadeExc s.heap h' e X []->E (.ref e) {s with heap:=h'}):
  As (An pw w) A (DP (.Raise (Aa (.Name x np)) Ae pos) env) Q E s:=by
 show As (An pw w) A (do HZ pos;raiseStmt env (Aa (do let v <-AM (.Name x np) env;HZ pos;pure v)) Ae) Q E s;refine Ah (DJ ?_);unfold raiseStmt;refine Ah (Ah (hx _ _ (Ah (DJ (At (Ah (At ?_)))))));refine Ah (DI ?_);unfold excFromValue isExcClass;refine Ah (Ah (At ?_));rw[if_pos rfl,hc.base];refine At ?_;rw[if_pos rfl];obtain⟨hp,g,d,tk,os⟩:=s;refine Ah (wpAny_call_exc F (rest:=[]) (λ h' e hm=>?_) (Bj _));refine E3 hm.there λ t he z z=>?_;have hT:(⟨h',g,d,tk,os⟩:Af).TypeIs (.ref e) X:=⟨_,he,rfl⟩;refine Ah (RN hT hc.base ?_);simp only [Bool.not_true,Ii,if_false];refine At<|Ah (m:=isType (.type X)) (At ?_);rw[if_pos rfl];refine Ah (DI ?_);unfold raisedFor;refine Ah (wpAny_typeOf hT ?_);refine Ah (call_issubclass (issubclass_self hc hself) ?_)
 dsimp only [wants]
 refine Ah (Qx ?_);rw[if_pos rfl];refine At ?_;unfold K2 raiseNew;refine Ah (Ah (RX (i:=1) (x:=E6) he rfl rfl ?_));rw[if_neg (by decide)];refine At (Ah (Zt ?_));rw[hh]
 first
  |exact RW (h h' e hm)
  |exact Ah (At (RW (h h' e hm)))
theorem U8(g:GI mg mb s){L:Aj}(h:s.heap.get? L=Ae):¬Tb L:=λ q=>by refine Aw (g.wd.tb L q) λ vs e=>?_;rw[h] at e;exact nn e
end
@[elab_as_elim] theorem oX{gC:List CU->Prop}(gk:∀t z w1 w2 w3 w4,chk (C0 (AA 12)) (.o2 .eq (.v 1) (.c (.int 0))) t=Ab->HJ (C0 (AA 12)) z "ZeroDivisionError"=Ab->gC [.If t [.Raise (Aa (.Name z w1)) Ae w2] w3 w4]):gC (AA 12).body:=gk _ _ _ _ _ _ rfl rfl
theorem oP:Dh 12 ["a","b"]=Ab:=by decide+kernel
noncomputable def Zv:List Nat:=[108,111,32,109,117,115,116,32,98,101,32,110,111,110,45,110,101,103,97,116,105,118,101]
inductive Oc(K:Kx):List CU->Prop
 |mk {t z w1 a0 w2 w3 w4 w5 w6} (c1:chk K (.o2 .lt (.v 2) (.c (.int 0))) t=Ab) (c2:HJ K z "ValueError"=Ab) (c3:chk K (.c (.str Zv)) a0=Ab):Oc K (.If t [.Raise (Aa (.Call (.Name z w1) [a0] [] w2)) Ae w3] w4 w5::w6)
theorem eN:Oc (C0 (AA 15)) (AA 15).body:=.mk rfl rfl rfl
theorem eM:Oc (C0 (AA 17)) (AA 17).body:=.mk rfl rfl rfl
theorem oO:Dh 15 LN=Ab:=by decide+kernel
theorem oN:Dh 17 LN=Ab:=by decide+kernel
section
variable{fr:List Aj}{X:String}
theorem aU(hA:BQ 2 A)(g:GI mg mb s)(hfm:A.frames=Aa l)(lv:EY s.heap fr l)(hfr:IY s.heap fr){x:Int}{Y:Aj->Prop}(hY:∀b,Y b->∃o,s.heap.get? b=Aa o){us:List Ad}(hr:AI s.heap Y [.int x,.int 0] us)
  (k:∀s' e,DN mg mb l fr s "ZeroDivisionError" [] e s'->E (.ref e) s'):As (An pw w) A (C2 (.ref 84) us []) Q E s:=by
 refine KU (ns:=4) (key:=Ae) (pn:=["a","b"]) (m:=1) (by decide) oP (by decide+kernel) (DE (by decide) tP) rfl rfl hA g hY hr λ C dV kV doc pm c ct o s'1 e1 e2 ho hdat hLn N I t'1 hG hns=>?_;have X1:Cx mg mb w G0 0 (A.deeper (Dp 12 dV kV doc pm (.ref c) ct s.heap.objs.size 84)):=Vz hG;refine oX λ t z z z z z c1 c2=>?_;have I:AX mg mb C (λ y=>0) [.w (.int x),.w (.int 0),.u,.u] s'1:=I;refine Ay (KZ (FJ X1 (.o2 .eq (.v 1) (.c (.int 0))) _ C _ _ t Ab N c1 rfl _ s'1 I _ _ λ s'2 d g'2 t'2 q=>?_));subst q;have I'2:=I.step t'2 g'2;refine Db (L6 c2) λ hz h1 h2=>?_;subst hz;refine Aw hns λ mm hns=>Ay (UZ hG.hd excClass_ZeroDivisionError PySem.F.excCall_ZeroDivisionError (by rw[V4];kernel_rfl) (λ Q E q=>Ee N h1 h2 I'2 (by decide+kernel) (by decide+kernel) (by decide+kernel) q) λ h' e hm=>?_);exact MG (BH hfm) rfl N.kind lv hfr (D6.of (t'1.trans t'2)) g'2 hLn ⟨mm,EF t'2.keep (U8 g hLn) hns⟩ hm λ s' hR=>k s' e hR
theorem kG{f i:Nat}(hmem:(f,i)∈Fe)(hd:Dh i LN=Ab)(hb0:Oc (C0 (AA i)) (AA i).body)(hbi:GS f i LN)(hA:BQ 2 A)(g:GI mg mb s)(hfm:A.frames=Aa l)(lv:EY s.heap fr l)(hfr:IY s.heap fr){u v hi:V}{x:Int}{key:Option Nat}{Y:Aj->Prop}(hY:∀b,Y b->∃o,s.heap.get? b=Aa o){us:List Ad}(hr:AI s.heap Y [u,v,.int x,hi] us)(hdf:RR.contains f=Ab)(hx:x<0)
  (k:∀s' e t,DN mg mb l fr s "ValueError" [.str (FZ Zv) t] e s'->E (.ref e) s'):As (An pw w) A (C2 (.ref f) us (Kh key)) Q E s:=by
 refine KU (ns:=6) (key:=key) (pn:=LN) (m:=1) hmem hd (by decide+kernel) hbi (vs':=[u,v,.int x,hi,P2 key]) (by unfold HW;rw[if_pos hdf];rfl) rfl hA g hY hr λ C dV kV doc pm c ct o s'1 e1 e2 ho hdat hLn N I t'1 hG hns=>?_;have X1:Cx mg mb w G0 0 (A.deeper (Dp i dV kV doc pm (.ref c) ct s.heap.objs.size f)):=Vz hG;have hb:=hb0;refine AF (Ul (P:=Oc _) hb) λ bd hbody hb=>?_
 cases hb with
 |@mk t z _ a0 _ _ _ _ _ c1 c2 c3=>
  rw[hbody];have I:AX mg mb C (λ y=>0) [.w u,.w v,.w (.int x),.w hi,.w (P2 key),.u] s'1:=I;have tt:Gr G0 (.o2 .lt (.v 2) (.c (.int 0))) [.w u,.w v,.w (.int x),.w hi,.w (P2 key),.u]=Aa Ab:=by show Aa (decide (x<0))=Aa Ab;rw[decide_eq_true hx]
  refine Ay (KZ (FJ X1 (.o2 .lt (.v 2) (.c (.int 0))) _ C _ _ t Ab N c1 tt _ s'1 I _ _ λ s'2 d g'2 t'2 q=>?_));subst q;have I'2:=I.step t'2 g'2;refine Db (L6 c2) λ hz h1 h2=>?_;subst hz;refine Aw hns λ mm hns=>?_;have hp:=AH c3;refine Ay (Raise_madeB PySem.F.excCall_ValueError PySem.F.excRaise_ValueError hG.hd (Ee (v:=.type "ValueError") N h1 h2 I'2 (by decide+kernel) (by decide+kernel) (by decide+kernel) ⟨rfl,?_⟩) (hp [] _));refine DG.one (BP X1 (.c (.str Zv)) _ C _ _ a0 (.str Zv) N c3 rfl) hp _ _ s'2 I'2 _ _ λ s'3 vs g'3 t'3 r'3=>?_;refine E3 r'3.one λ w' H2 y H=>?_;refine Aw H λ t' H2=>?_;subst H2;subst H2;refine⟨by rw[ER];show 1<=_;omega,λ h' e hm=>?_⟩;exact MG (BH hfm) rfl N.kind lv hfr (D6.of ((t'1.trans t'2).trans t'3)) g'3 hLn ⟨mm,EF (t'2.trans t'3).keep (U8 g hLn) hns⟩ hm λ s' hR=>k s' e t' hR
end
section
variable{fr:List Aj}{X:String}
theorem Mg{L:Aj}{m:Str->Option Ad}(x:IY s.heap fr)(t:D6 fr s s'1)(hT:¬Tb L)(hn:s'1.heap.Ns L m):IY s'1.heap (L::fr):=λ L' h=>by
 rcases AL.mp h with h|h
 ·exact h▸⟨hT,m,hn⟩
 ·exact(x.stp t) L' h
theorem kF{f i bis ib:Nat}(hmem:(f,i)∈Fe)(hd:Dh i LN=Ab)(hins:G8 (C0 (AA i)) bis (AA i).body)(hbi:GS f i LN)(hdf:RR.contains f=Ab)
  (hmemB:(bis,ib)∈Fe) (hdB:Dh ib LN=Ab) (hb0:Oc (C0 (AA ib)) (AA ib).body) (hbiB:GS bis ib LN) (hdfB:RR.contains bis=Ab) (hA:BQ 3 A) (g:GI mg mb s) (hfm:A.frames=Aa l) (lv:EY s.heap fr l) (hfr:IY s.heap fr) {u v:V} {x:Int} {Y:Aj->Prop} (hY:∀b,Y b->∃o,s.heap.get? b=Aa o) {us:List Ad} (hr:AI s.heap Y [u,v,.int x] us) (hx:x<0)
  (k:∀s' e t,DN mg mb l fr s "ValueError" [.str (FZ Zv) t] e s'->E (.ref e) s'):As (An pw w) A (C2 (.ref f) us []) Q E s:=by
 refine KU (ns:=6) (key:=Ae) (pn:=LN) (m:=2) hmem hd (by decide+kernel) hbi (vs':=[u,v,.int x,.none,.none]) (by unfold HW;rw[if_pos hdf];rfl) rfl hA g hY hr λ C dV kV doc pm c ct o s'1 e1 e2 ho hdat hLn N I t'1 hG hns=>?_;have hb:=hins;refine AF (Ul (P:=G8 _ _) hb) λ bd hbody hb=>?_
 cases hb with
 |@mk k1 _ _ _ _ l1 _ b1 _ a1 _ x1 _ l2 _ h1' _ _ _ l3 _ b2 _ a2 _ k2 _ x2 _ _ l4 _ h2' _ kk k3 _ _ _ _ _ a3 _ m ap l5 _ x3 _ cp _ c1 c2 c3 c4 c5 c6 c7 c8 c9 c10 c11 c12 c13 c14 c15 c16 c17 c18 c19 c20 c21=>
  rw[hbody];have I:AX mg mb C (λ z=>0) [.w u,.w v,.w (.int x),.w .none,.w .none,.u] s'1:=I;refine Aw hns λ mm hns=>Ay (KZ (TC (o:=.is_) (a:=.none) (b:=.none) (r:=.bool Ab) rfl rfl rfl (FN N c1 rfl) Sq hG.cline (λ z=>rfl) _ s'1 I _ _ λ s'2 d g'2 t'2 q=>?_));subst q;have I'2:=I.step t'2 g'2;refine Ay (CG ?_ rfl);refine Db (Ir c3) λ h1 h2 H=>?_;refine AF H λ j h3 h4=>?_;refine Gx (key:=Ae) (f:=.ref bis) (AR:=λ s' vs=>AI s'.heap (Am C (λ z=>0) [.w u,.w v,.w (.int x),.w .none,.w .none,.u]) [u,v,.int x,.none] vs) N I'2 (λ y hy=>?_) rfl (λ h=>by cases h) (λ Q E k=>CQ N h1 h2 I'2 (Iu I'2.gi h3 h4) k) (λ Q E k=>?_) (λ s' g=>Dy g h3) λ s'3 vs I'3 t'3 r'3=>?_
  ·rcases AL.mp hy with e|hy
   ·subst e;exact λ z z=>rfl
   ·exact Tm (λ z z=>rfl) (λ z z=>rfl) (λ z z=>rfl) y hy
  ·exact Dz (FN N c4 rfl) (λ z z=>rfl) (Dz (FN N c5 rfl) (λ z z=>rfl) (DG.two (FN N c6 rfl) (λ z z=>rfl) (FN N c7 rfl) λ z z=>rfl)) _ _ s'2 I'2 Q E k
  ·have hT:=U8 g hLn;have t13:=(t'1.trans t'2).trans t'3;have lv3:EY s'3.heap (s.heap.objs.size::fr) (Dp i dV kV doc pm (.ref c) ct s.heap.objs.size f::l):=⟨by rw[N.kind];nofun,⟨_,rfl,.head _⟩,lv.more⟩;have hf3:=Mg hfr (D6.of t13) hT (EF (t'2.trans t'3).keep hT hns);exact kG (key:=Ae) hmemB hdB hb0 hbiB hG I'3.gi (BH hfm) lv3 hf3 I'3.there r'3 hdfB hx λ s' e t hR=>hR.leave (BH hfm) rfl (D6.of t13) hLn λ s'' hR'=>k s'' e t hR'
end
section
variable{fr:List Aj}{X T:String}{Q:Gj->Af->Prop}
structure LF(L:Aj)(fr:List Aj)(s s':Af):Prop where
 keep:∀b o,¬Tb b->b≠L->s.heap.get? b=Aa o->s'.heap.get? b=Aa o\/(b∈fr/\(∃es n,o.data=.dict es n)/\∃sl,s'.heap.get? b=Aa {o with slots:=sl})
 gens:∀(i:Nat) x,s.gens[i]?=Aa x->s'.gens[i]?=Aa x
 os:s'.os=s.os
theorem LF.of{L:Aj}(t:D6 (L::fr) s s'):LF L fr s s':=⟨λ b o n q e=>by
 rcases t.keep b o n e with h|⟨h1,h2⟩
 ·exact .inl h
 ·rcases AL.mp h1 with h|h
  ·exact absurd h q
  ·exact .inr ⟨h,h2⟩,t.gens,t.os⟩
theorem LF.trans{L:Aj}(x:LF L fr s s'1)(y:LF L fr s'1 s'2):LF L fr s s'2:=⟨λ b o n q e=>by
 rcases x.keep b o n q e with e1|⟨h1,h2,sl,e1⟩
 ·exact y.keep b o n q e1
 ·rcases y.keep b _ n q e1 with e2|⟨_,_,sl2,e2⟩
  ·exact .inr ⟨h1,h2,sl,e2⟩
  ·exact .inr ⟨h1,h2,sl2,e2⟩,λ i g e=>y.gens i g (x.gens i g e),y.os.trans x.os⟩
theorem LF.same{L:Aj}{h':AV}{tk:Nat}(h:B8 L s.heap h'):LF L fr s {s with heap:=h',toks:=tk}:=⟨λ b o n q e=>.inl (h.extBut b o q e),λ z z e=>e,rfl⟩
theorem LF.before{L:Aj}(t:C7 s'0 s)(x:LF L fr s s')(hL:s'0.heap.get? L=Ae):D6 fr s'0 s':=⟨λ b o n e=>x.keep b o n (λ q=>by rw[q,hL] at e;exact nn e) (t.keep b o n e),λ i g e=>x.gens i g (t.gens i g e),x.os.trans t.os⟩
theorem AJ.base(N:AJ K C env):AJ K ⟨C.loc,C.Y0,B⟩ env:=⟨N.kind,N.acc,N.glob,N.loc,N.cell,N.free,N.gl,N.bi⟩
theorem Yx{L t:Aj}{h h':AV}(hn:∃m,h.Ns L m)(hs:B8 L h h')(x:h.ExcAt e X (.ref t))(y:h.TupAt t args):h'.ExcAt e X (.ref t)/\h'.TupAt t args:=ZE hn λ m o es ep q1 q2 z=>Hm x λ oe vs h1 h2 h3 h4=>El y λ ot n p1 p2 p3=>⟨⟨oe,vs,hs.extBut e oe (λ q=>by rw[q,q1] at h1;obtain rfl:=sj h1;rw[q2] at h3;cases h3) h1,h2,h3,h4⟩,⟨ot,n,hs.extBut t ot (λ q=>by rw[q,q1] at p1;obtain rfl:=sj p1;rw[q2] at p3;cases p3) p1,p2,p3⟩⟩
theorem RD{z xn:Str}{ie:Nat}{L:Aj}{np pos:Pos}{b'0:CU}{suite:List CU}{rest:List ExceptHandler}{P:Gj->Prop}(N:AJ K C env)(I:AX mg mb C J U s)(hfm:A.frames=Aa (env::l))(hf:env.frame=Aa L)(hlo:env.locals=L)(hb:∀L'∈L::fr,C.base.get? L'=Ae)
  (hie:C.loc ie=.dict L z) (hz:lk z K.acc=Aa ie) (hzk:env.kindOf z=Aa .local) (hu:rd U ie=.u) (R:DN mg mb (env::l) (L::fr) s X args e s') (hg:lk xn K.sc=Aa .globalImplicit) (hn:TX xn=Ab) (hbn:xn∈Mq) (hv:LJ xn=Aa (.type T)) (hne:xn≠"__name__")
  (hexc:Zz (.type T) (.type "BaseException")=pure Ab) (hnt:Zz (.type ((Manifest.find? T).elim "type" λ x=>x.metatype)) (.type "tuple")=pure Ai) (hsub:Zz (.type X) (.type T)=pure Ab)
  (hs:∀s'4 t m,AX mg mb C J U s'4->s'4.heap.Ns L m->m z=Aa (.ref e)->s'4.heap.ExcAt e X (.ref t)->s'4.heap.TupAt t args->∀E',As (An pw w) (A.mark (Aa (.ref e))) (B4 (b'0::suite) env) (λ f s'5=>P f/\GI mg mb s'5/\C7 s'4 s'5) E' s'4)
  (k:∀f s'6,P f->GI mg mb s'6->LF L fr s s'6->Q f s'6):
  As (An pw w) A (Jc (.ref e) env) (λ v s'2=>As (An pw w) A (K2 (.ref e) Ae) (λ v s'3=>As (An pw w) A (handleBy (.ref e) env (.ExceptHandler (Aa (.Name xn np)) (Aa z) (b'0::suite) pos::rest)) Q E s'3) E s'2) E s':=by
 refine R.look hfm hf λ s'1 R'1=>A9 R'1.facts λ g'1 st1=>?_;have I'1:=I.flew st1 g'1 hb;refine E3 R'1.there λ v v v hT=>wpAny_handleBy_builtin_as (X:=X) (T:=T) (b:=Ab) hexc hnt hsub (Ee N hg hn I'1 hbn hv hne ⟨rfl,hT,?_⟩);rw[if_pos rfl];refine R'1.land λ s'2 R'2=>A9 R'2.facts λ g'2 st'2=>?_;have I'2:=I.flew st'2 g'2 hb;refine E3 R'2.there λ t ex tu v=>AF (I'2.dicts L ⟨ie,z,hie⟩) λ m hns v=>?_;have hm:C.mine L:=.inl ⟨ie,z,hie⟩;have hnb:∀{h:AV} {m:Str->Option Ad},h.Ns L m->EO h L:=λ x=>.ns x;have hp:(env.scope.kind==.class||(env.scope.kind==.module&&env.locals !=env.globals))=Ai:=by rw[N.kind];rfl
 refine wpAny_storeName_local hzk (hlo▸hns) (λ h' hn' hs'=>?_) hp;have hn':h'.Ns L (λ x=>if x=z then Aa (.ref e) else m x):=hlo▸hn';have hs':B8 L s'2.heap h':=hlo▸hs';have st3:D0 (.ref e) s'2.heap h' (C.loc ie):=by rw[hie];exact⟨m,hns,hn',hs'⟩
 have hwu:∀j,rd (wr U ie .u) j=rd U j:=λ j=>by
  by_cases q:j=ie
  ·subst q;rw[hu];rcases CY (U:=U) (i:=j) (x:=.u) with h|h<;>exact h
  ·exact AU q
 have av:∀b,Am C J (wr U ie .u) b->Am C J U b:=λ b y=>by
  rcases y with y|y|⟨j,xs,h1,h2⟩
  ·exact .inl y
  ·exact .inr (.inl y)
  ·exact .inr (.inr ⟨j,xs,by rw[<-hwu];exact h1,h2⟩)
 have I'3:AX mg mb C J U {s'2 with heap:=h',toks:=s'2.toks+1}:=(I'2.set (J':=J) (L:=.u) (tk:=s'2.toks+1) (.refl _) g'2 st3 (λ v v=>rfl) (λ V u r=>r.mono (.refl _) g'2.cls λ b o v y=>av b y) (λ V u r=>AI.mono (.refl _) g'2.cls (λ b o v y=>av b y) r) trivial nofun).forget λ j=>.inl (hwu j).symm;refine A9 (Yx ⟨m,hns⟩ hs' ex tu) λ ex3 tu3=>A2 (hs {s'2 with heap:=h',toks:=s'2.toks+1} t _ I'3 hn' (by show(if z=z then _ else _)=_;rw[if_pos rfl]) ex3 tu3 _) (λ f s'4 hq=>?_) λ v v h=>h;refine Db hq λ hP g'4 t'4=>?_;have hn4:=EF t'4.keep (I'2.mineTb hm) hn';refine wpAny_nameGoes hzk (hlo▸hn4) hp λ h5 m5 hn5 hs5=>?_;have hs5:B8 L s'4.heap h5:=hlo▸hs5;have I'4:=I'3.step t'4 g'4;have g5:GI mg mb {s'4 with heap:=h5,toks:=s'4.toks+1}:=g'4.to1 I'4.wd0 I'4.keep (λ b o q e1=>hs5.extBut b o q e1) (hb L (.head _)) (I'2.mineTb hm) (.ns hn4);exact k f _ hP g5 ((((LF.of st'2).trans (.same hs')).trans (.of (.of t'4))).trans (.same hs5))
theorem QP{z sn:Str}{L:Aj}{m:Str->Option Ad}{p q pos:Pos}{R:Ad->Af->Prop}(N:AJ K C env)(I:AX mg mb C J U s)(hlo:env.locals=L)(hzk:env.kindOf z=Aa .local)(hzn:TX z=Ab)(hns:s.heap.Ns L m)(hm:m z=Aa (.ref e))(hsn:HJ K sn "str"=Ab)
  (h:As (An pw w) A (C2 (.type "str") [.ref e]) R E s):As (An pw w) A (AM (.Call (.Name sn p) [.Name z q] [] pos) env) R E s:=by
 refine U7 hsn λ h1 h2=>GD (Ee (v:=.type "str") N h1 h2 I (by decide+kernel) (by decide+kernel) (by decide+kernel) ?_);refine C9 (P:=λ y=>True) rfl (λ h y=>CM (f:=.type "str") (λ y e=>(by cases e)) h) (EG ?_)
 refine BA (Jm (wpAny_loadName_local N.kind hzk (hlo▸hns) hm (Ec ⟨trivial,h⟩)) (H6 hzn).1) rfl
end
theorem Vl{xs:List V}(h:xs[0]?=Aa v):JD xs 0=Aa v:=by
 induction xs using Aq with
 |nil=>exact nn h
 |cons x r=>have e:E7 0 (x::r).length=Aa 0:=if_pos ((Co _ _).mpr ⟨decide_eq_true (Int.le_refl 0),decide_eq_true (Int.natCast_pos.mpr (Ow r.length))⟩);show(if Nt 0=Ab then(E7 0 (x::r).length).bind λ j=>(x::r)[j]? else Ae)=Aa v;rw[if_pos (by decide),e];exact h
inductive Qk(K:Kx)(f:Nat):Ac->Prop
 |mk {i1 w1 a1 a2 a3 w2 e1 w3} (c1:EC K f i1=Ab) (c2:chk K (.v 0) a1=Ab) (c3:chk K (.o2 .i (.v 0) (.c (.int 0))) a2=Ab) (c4:chk K (.o1 .neg (.c (.int 1))) a3=Ab) (c5:L3 e1=Ab):Qk K f (.Compare (.Call (.Name i1 w1) [a1,a2,a3] [] w2) [.Eq] [e1] w3)
@[elab_as_elim] theorem pI{gC:List CU->Prop}(gk:∀tl x1 x2 w1 w2 xn w3 z sn w4 z2 w5 w6 c w7 w8 w9 w10,chk (C0 (AA 33)) (.v 1) tl=Ab->Qk (C0 (AA 33)) 111 x1->Qk (C0 (AA 33)) 93 x2->HJ (C0 (AA 33)) xn "ValueError"=Ab->EI (C0 (AA 33)) z 2=Ab->HJ (C0 (AA 33)) sn "str"=Ab->Mi z2 z=Ab->chk (C0 (AA 33)) (.c (.str Zv)) c=Ab->lk z (C0 (AA 33)).sc=Aa .local->gC [.Try [.Return (Aa (.IfExp tl x1 x2 w1)) w2] [.ExceptHandler (Aa (.Name xn w3)) (Aa z) [.Return (Aa (.Compare (.Call (.Name sn w4) [.Name z2 w5] [] w6) [.Eq] [c] w7)) w8] w9] [] [] w10]):gC (AA 33).body:=gk _ _ _ _ _ _ _ _ _ _ _ _ _ _ _ _ _ _ (by kernel_rfl) (.mk (by kernel_rfl) (by kernel_rfl) (by kernel_rfl) (by kernel_rfl) (by kernel_rfl)) (.mk (by kernel_rfl) (by kernel_rfl) (by kernel_rfl) (by kernel_rfl) (by kernel_rfl)) (by kernel_rfl) (by kernel_rfl) (by kernel_rfl) (by kernel_rfl) (by kernel_rfl) (by kernel_rfl)
theorem oM:Dh 33 ["row","left"]=Ab:=by decide+kernel
structure IX(mg mb:Str->Option Ad)(B:AV)(fr:List Aj)(s:Af):Prop where
 wd:Wd mg mb B
 keep:DS B s.heap
 tb:∀b,Tb b->∃o,B.get? b=Aa o
 fr:∀L∈fr,B.get? L=Ae
section
variable{fr:List Aj}{X T:String}
theorem IX.none(G:IX mg mb B fr s)(g:GI mg mb s){b:Aj}(h:s.heap.get? b=Ae):B.get? b=Ae:=by
 cases e:B.get? b with
 |none=>rfl
 |some o=>rw[G.keep b o (U8 g h) e] at h;cases h
theorem IX.inv(G:IX mg mb B fr s)(g:GI mg mb s)(I:AX mg mb C J U s'1)(t:C7 s s'1)(hb:C.base=s.heap)(ho:∀i xs,rd U i≠.x xs):AX mg mb ⟨C.loc,C.Y0,B⟩ J U s'1:=
 I.newBase (G.keep.trans t.keep) G.wd G.tb (λ b h=>G.none g (by refine hb▸?_;exact I.new b h)) λ i xs e=>absurd e (ho i xs)
theorem Q8{f i bis ib:Nat}{rs:List V}{lb:Bool}(hx:Qk K f x)(hmem:(f,i)∈Fe)(hd:Dh i LN=Ab)(hins:G8 (C0 (AA i)) bis (AA i).body)(hbi:GS f i LN)(hdf:RR.contains f=Ab)
  (hmemB:(bis,ib)∈Fe) (hdB:Dh ib LN=Ab) (hb0:Oc (C0 (AA ib)) (AA ib).body) (hbiB:GS bis ib LN) (hdfB:RR.contains bis=Ab) (hA:BQ 3 A) (N:AJ K C env) (hfm:A.frames=Aa l) (hv:rs[0]?=Aa v)
  (I:AX mg mb C J [.w (.list rs),.w (.bool lb),.u] s) (lv:∀s'1,C7 s s'1->GI mg mb s'1->EY s'1.heap fr l/\IY s'1.heap fr) (k:∀s'1 s' e t,AX mg mb C J [.w (.list rs),.w (.bool lb),.u] s'1->C7 s s'1->DN mg mb l fr s'1 "ValueError" [.str (FZ Zv) t] e s'->E (.ref e) s'):As (An pw w) A (AM x env) Q E s:=by
 cases hx with
 |@mk i1 _ a1 a2 a3 _ e1 _ c1 c2 c3 c4 c5=>
  have X1:Cx mg mb w G0 0 A:=Vz (hA.less (by exact AN rfl));refine Jn ?_ ((IG c5).2.2 _);refine Db (Ir c1) λ h1 h2 H=>?_;refine AF H λ j h3 h4=>?_;have hidx:ev G0 (.o2 .i (.v 0) (.c (.int 0))) [.w (.list rs),.w (.bool lb),.u]=Aa v:=Vl hv;refine Gx (key:=Ae) (f:=.ref f) (AR:=λ s' vs=>AI s'.heap (Am C J [.w (.list rs),.w (.bool lb),.u]) [.list rs,v,.int (-1)] vs) N I (Tm (AH c2) (AH c3) (AH c4)) rfl (λ h=>by cases h) (λ Q E k=>CQ N h1 h2 I (Iu I.gi h3 h4) k) (λ Q E k=>?_) (λ s' g=>Dy g h3) λ s'1 vs I'1 t'1 r'1=>?_
  ·exact Dz (BP X1 (.v 0) K C env _ a1 _ N c2 rfl) (AH c2) (DG.two (BP X1 _ K C env _ a2 _ N c3 hidx) (AH c3) (BP X1 (.o1 .neg (.c (.int 1))) K C env _ a3 (.int (-1)) N c4 rfl) (AH c4)) _ J s I Q E k
  ·exact A9 (lv s'1 t'1 I'1.gi) λ lv1 hf1=>kF hmem hd hins hbi hdf hmemB hdB hb0 hbiB hdfB hA I'1.gi hfm lv1 hf1 I'1.there r'1 (by decide) λ s' e t hR=>k s'1 s' e t I'1 t'1 hR
theorem eW(hA:BQ 4 A)(g:GI mg mb s)(hfm:A.frames=Aa l)(lv:EY s.heap fr l)(hfr:IY s.heap fr)(G:IX mg mb B fr s){rs:List V}{lb:Bool}(hv:rs[0]?=Aa v){Y:Aj->Prop}(hY:∀b,Y b->∃o,s.heap.get? b=Aa o){us:List Ad}(hr:AI s.heap Y [.list rs,.bool lb] us)
  (k:∀s',GI mg mb s'->D6 fr s s'->Q (.bool Ab) s'):As (An pw w) A (C2 (.ref 191) us []) Q E s:=by
 refine KU (ns:=3) (key:=Ae) (pn:=["row","left"]) (m:=3) (by decide) oM (by decide+kernel) (DE (by decide) tS) rfl rfl hA g hY hr λ C dV kV doc pm c ct o s'1 e1 e2 ho hdat hLn N I t'1 hG hns=>?_;have X1:Cx mg mb w G0 0 (A.deeper (Dp 33 dV kV doc pm (.ref c) ct s.heap.objs.size 191)):=Vz (hG.less (by exact AN rfl));refine pI λ tl x1 x2 oo oo xn oo z sn oo z2 oo oo cc oo oo oo oo c1 c2 c3 c4 c5 c6 c7 c8 c9=>?_;have c7:=(Dj c7).symm;subst c7;have I:AX mg mb C (λ p=>0) [.w (.list rs),.w (.bool lb),.u] s'1:=I;have noOwn:∀i xs,rd ([.w (.list rs),.w (.bool lb),.u]:AQ) i≠.x xs:=λ i xs e=>by
  match i with
  |0=>cases e
  |1=>cases e
  |2=>cases e
  |i+3=>cases e
 have I:=G.inv g I t'1 e2 noOwn;have N:AJ (C0 (AA 33)) ⟨C.loc,C.Y0,B⟩ (Dp 33 dV kV doc pm (.ref c) ct s.heap.objs.size 191):=N.base;have hzk:(Dp 33 dV kV doc pm (.ref c) ct s.heap.objs.size 191).kindOf z=Aa .local:=N.loc z c9;have hz2:=(Gb c5).1;have hie:C.loc 2=.dict s.heap.objs.size z:=by
  have a:rF _ z (C.loc 2):=N.acc z 2 hz2
  cases e:C.loc 2 with
  |no=>rw[e] at a;induction a
  |dict D y=>rw[e] at a;refine Db a λ ξ1 p h=>?_;subst ξ1;refine h▸?_;rfl
  |cell c'=>rw[e] at a;have a:=a.1;rw[hzk] at a;rcases a with a|a<;>cases a
 refine Aw hns λ mm hns=>?_;have hT:=U8 g hLn;have hBL:B.get? s.heap.objs.size=Ae:=G.none g hLn;refine Ay (RO ?_);have lv1:∀s'2,C7 s'1 s'2->GI mg mb s'2->EY s'2.heap (s.heap.objs.size::fr) (Dp 33 dV kV doc pm (.ref c) ct s.heap.objs.size 191::l)/\IY s'2.heap (s.heap.objs.size::fr):=λ s'2 t'2 g'2=>⟨⟨by refine N.kind.symm▸?_;nofun,⟨_,rfl,.head _⟩,lv.more⟩,Mg hfr (D6.of (t'1.trans t'2)) hT (EF t'2.keep hT hns)⟩
 refine Db (L6 c4) λ hxz hg hn=>?_;subst hxz;have caught:∀(s'2 s':Af) (e:Aj) (t:Tok) (pA pB pC pD pE pF pG:Pos) (Qf:Gj->Af->Prop) (Ef:Ad->Af->Prop),(∀s'6,GI mg mb s'6->D6 fr s s'6->Qf (.ret (.bool Ab)) s'6)->AX mg mb ⟨C.loc,C.Y0,B⟩ (λ p=>0) [.w (.list rs),.w (.bool lb),.u] s'2->C7 s'1 s'2->DN mg mb (Dp 33 dV kV doc pm (.ref c) ct s.heap.objs.size 191::l) (s.heap.objs.size::fr) s'2 "ValueError" [.str (FZ Zv) t] e s'->
   As (An pw w) (A.deeper (Dp 33 dV kV doc pm (.ref c) ct s.heap.objs.size 191)) (Jc (.ref e) (Dp 33 dV kV doc pm (.ref c) ct s.heap.objs.size 191)) (λ p s'2=>As (An pw w) (A.deeper (Dp 33 dV kV doc pm (.ref c) ct s.heap.objs.size 191)) (K2 (.ref e) Ae) (λ p s'3=>As (An pw w) (A.deeper (Dp 33 dV kV doc pm (.ref c) ct s.heap.objs.size 191)) (handleBy (.ref e) (Dp 33 dV kV doc pm (.ref c) ct s.heap.objs.size 191) [.ExceptHandler (Aa (.Name "ValueError" pA)) (Aa z) [.Return (Aa (.Compare (.Call (.Name sn pB) [.Name z pC] [] pD) [.Eq] [cc] pE)) pF] pG]) Qf Ef s'3) Ef s'2) Ef s':=
  λ s'2 s' e t pA pB pC pD pE pF pG Qf Ef kf I'2 t'2 hR=>
  RD (T:="ValueError") (P:=λ f=>f=.ret (.bool Ab)) N I'2 (BH hfm) rfl rfl (λ L' h=>by
   rcases AL.mp h with h|h
   ·refine h.symm▸?_;exact hBL
   ·exact G.fr L' h) hie hz2 hzk rfl hR hg hn (by decide+kernel) (by decide+kernel) (by decide+kernel) PySem.F.isExc_ValueError PySem.F.notTuple_ValueError (by rw[V4];kernel_rfl) (λ s'4 t' m I'4 hns4 hm4 ex tu E'=>by
    have hcl:((A.deeper (Dp 33 dV kV doc pm (.ref c) ct s.heap.objs.size 191)).mark (Aa (.ref e))).units+2<Qt:=Bc (Di (by decide:2<=64) _) hG.cline;refine Ay (Dk (Jn ?_ ?_))
    ·refine QP N I'4 rfl hzk (Gb c5).2 hns4 hm4 c6 (P.str_of_exc_one PySem.F.excStr_ValueError hcl ex tu ?_);refine(yL (G:=G0) _ _ _ _ _ N c8).v _ rfl _ s'4 I'4 _ _ λ s'5 v'5 g'5 t'5 ⟨_,u,e5⟩=>?_;subst e5;refine Mk (o:=.eq) (a:=.str Zv) (b:=.str Zv) (r:=.bool Ab) rfl rfl (Y:=λ p=>False) ⟨by decide,t,rfl⟩ ⟨by decide,u,rfl⟩ g'5 (by show _+64<Qt;exact hG.cline) _ _ λ s'6 v'6 g'6 t'6 e6=>?_;have e6:v'6=.bool Ab:=e6;subst e6;exact⟨rfl,g'6,t'5.trans t'6⟩
    ·exact Ge c8 _) (λ f s'6 hP g'6 st=>by subst hP;exact kf s'6 g'6 (LF.before (t'1.trans t'2) st hLn))
 refine Ay (Dk (GA (FJ X1 (.v 1) _ ⟨C.loc,C.Y0,B⟩ _ _ tl lb N c1 rfl _ s'1 I _ _ λ s'2 d g'2 t'2 q=>?_)));subst q;have I'2:=I.step t'2 g'2
 induction d with
 |true=>exact Q8 c2 (by decide) YN XN (Fq (by decide) wP) (by decide) (by decide) oN eM (Fq (by decide) wO) (by decide) hG N (BH hfm) hv I'2 (λ s'3 t'3 g'3=>lv1 s'3 (t'2.trans t'3) g'3) λ s'3 s' e t I'3 t'3 hR=>caught s'3 s' e t _ _ _ _ _ _ _ _ _ (λ s'6 g'6 st=>k s'6 g'6 st) I'3 (t'2.trans t'3) hR
 |false=>exact Q8 c3 (by decide) YO XO (Fq (by decide) wR) (by decide) (by decide) oO eN (Fq (by decide) wQ) (by decide) hG N (BH hfm) hv I'2 (λ s'3 t'3 g'3=>lv1 s'3 (t'2.trans t'3) g'3) λ s'3 s' e t I'3 t'3 hR=>caught s'3 s' e t _ _ _ _ _ _ _ _ _ (λ s'6 g'6 st=>k s'6 g'6 st) I'3 (t'2.trans t'3) hR
end
noncomputable def wI:Ex:=.o2 .sub (.o2 .pow (.v 0) (.v 1)) (.c (.int 1))
noncomputable def eD2:Ex:=.o2 .sub (.v 0) (.c (.int 1))
def oG:Ex:=.call 84 (.cons wI (.cons eD2 .nil)) Ae
noncomputable def dT:Ex:=.f (.bool Ab (.cons (.o2 .eq (.v 2) (.tup (.cons (.o1 .sum (.comp [4] (.one 4) (.r (.v 1)) .nil (.o2 .pow (.v 0) (.v 4)))) (.cons (.c (.int 0)) .nil)))) (.cons (.o2 .ne (.v 0) (.c (.int 1))) .nil))) (.o2 .i (.v 2) (.c (.int 0))) (.c .none)
@[elab_as_elim] theorem YX{gC:List CU->Prop}(gk:∀tn w1 dn d1 x1 x2 d2 w2 xn w3 z q1 sn w4 z2 w5 w6 c w7 w8 an w9 w10 w11 w12 w13 rr w14,F8 (C0 (AA 30)) tn 2=Ab->chk (C0 (AA 30)) oG (.Call (.Name dn d1) [x1,x2] [] d2)=Ab->EC (C0 (AA 30)) 84 dn=Ab->chk (C0 (AA 30)) wI x1=Ab->chk (C0 (AA 30)) eD2 x2=Ab->HJ (C0 (AA 30)) xn "ZeroDivisionError"=Ab->EI (C0 (AA 30)) z 3=Ab->lk z (C0 (AA 30)).sc=Aa .local->HJ (C0 (AA 30)) sn "str"=Ab->Mi z2 z=Ab->chk (C0 (AA 30)) (.o2 .eq (.v 0) (.c (.int 1))) q1=Ab->chk (C0 (AA 30)) (.c (.str [])) c=Ab->chk (C0 (AA 30)) (.v 1) an=Ab->chk (C0 (AA 30)) dT rr=Ab->gC [.Try [.Assign [.Name tn w1] (.Call (.Name dn d1) [x1,x2] [] d2) w2] [.ExceptHandler (Aa (.Name xn w3)) (Aa z) [.Return (Aa (.IfExp (.BoolOp .And [q1,.Compare (.Call (.Name sn w4) [.Name z2 w5] [] w6) [.Eq] [c] w7] w8) an w9 w10)) w11] w12] [] [] w13,.Return (Aa rr) w14]):gC (AA 30).body:=gk _ _ _ _ _ _ _ _ _ _ _ _ _ _ _ _ _ _ _ _ _ _ _ _ _ _ _ _ (by kernel_rfl) (by kernel_rfl) (by kernel_rfl) (by kernel_rfl) (by kernel_rfl) (by kernel_rfl) (by kernel_rfl) (by kernel_rfl) (by kernel_rfl) (by kernel_rfl) (by kernel_rfl) (by kernel_rfl) (by kernel_rfl) (by kernel_rfl)
theorem YM:Dh 30 ["q","a"]=Ab:=by decide+kernel
def eH(G:EZ)(q a:Int):Option V:=(ev G oG [.w (.int q),.w (.int a),.u,.u,.u]).bind λ v=>ev G dT [.w (.int q),.w (.int a),.w v,.u,.u]
section
variable{fr:List Aj}{X T:String}
theorem VG{m:Nat}(X:∀A,BQ m A->Cx mg mb w G n A){a:Int}(hd:eH G q a=Aa r)(hA:BQ (m+1) A)(g:GI mg mb s){Y:Aj->Prop}(hY:∀b,Y b->∃o,s.heap.get? b=Aa o){us:List Ad}(hr:AI s.heap Y [.int q,.int a] us):
  Ok mg mb w A s (C2 (.ref 170) us []) λ s' v=>KC s s' Y (.ret r) v:=by
 refine Qa (ns:=5) (key:=Ae) (pn:=["q","a"]) (m:=m) (by decide) YM (by decide+kernel) (DE (by decide) gH) rfl rfl hA g hY hr λ C dV kV doc pm c ct o s'1 ho hdat N I t'1 hG Q E kk=>?_;have X1:=X _ hG;refine bK hd λ v h1 h2=>YX λ tn oo dn d1 x1 x2 d2 oo xn oo z q1 sn oo z2 oo oo cc oo oo an nn oo oo oo oo rr oo c1 c2 c3 c4 c5 c6 c7 c8 c9 c10 c11 c12 c13 c14=>?_;have I:AX mg mb C (λ y=>0) [.w (.int q),.w (.int a),.u,.u,.u] s'1:=I;refine Ay (RO (Ay (Nq (v:=v) X1 N c1 c2 h1 _ s'1 I _ _ λ J2 s'2 f'2 I'2 fs'2 ok=>?_)));subst ok;refine CO (CO ?_);refine Ay (WF (BP X1 dT _ C _ _ rr r N c14 h2) J2 s'2 I'2 _ _ λ σ3 s'3 f'3 I'3 fs'3 ok=>?_);have h:=kk σ3 _ s'3 f'3 I'3 (fs'2.trans fs'3) ok;refine AF ok λ u H2 y=>?_;subst H2;exact h
theorem oW{a b:Ex}(h:chk K (.o2 .eq a b) x=Ab){gC:Prop}(gk:∀y z p,x=.Compare y [.Eq] [z] p->chk K a y=Ab->chk K b z=Ab->gC):gC:=by
 rcases Bool.or_eq_true_iff.mp (B6 h).2 with h|h;rcases Bool.or_eq_true_iff.mp h with h|h;rcases Bool.or_eq_true_iff.mp h with h|h;rcases Bool.or_eq_true_iff.mp h with h|h
 ·exact nf h
 ·refine aK (show AP (Yj x) _=Ab from h) λ q h3 h4=>?_;refine Aw (Lu h3) λ p H2=>?_;subst H2;exact aK h4 λ c h5 h6=>aK h6 λ y h7 h8=>Ms h8 λ h8 h10 h9=>gk q.1 y p (by rw[Cv h5,Cv h7,J5 h8]) h10 h9
 ·exact nf h
 ·exact nf h
 ·exact nf h
theorem VH(hA:BQ 4 A)(g:GI mg mb s)(hfm:A.frames=Aa l)(lv:EY s.heap fr l)(hfr:IY s.heap fr)(G0':IX mg mb B fr s){av x:Int}(hx:ev G0 wI [.w (.int 1),.w (.int av),.u,.u,.u]=Aa (.int x)){Y:Aj->Prop}(hY:∀b,Y b->∃o,s.heap.get? b=Aa o){us:List Ad}(hr:AI s.heap Y [.int 1,.int av] us)
  (k:∀s' t,GI mg mb s'->D6 fr s s'->Q (.int av t) s'):As (An pw w) A (C2 (.ref 170) us []) Q E s:=by
 refine KU (ns:=5) (key:=Ae) (pn:=["q","a"]) (m:=3) (by decide) YM (by decide+kernel) (DE (by decide) gH) rfl rfl hA g hY hr λ C dV kV doc pm c ct o s'1 e1 e2 ho hdat hLn N I t'1 hG hns=>?_;have X1:Cx mg mb w G0 0 (A.deeper (Dp 30 dV kV doc pm (.ref c) ct s.heap.objs.size 170)):=Vz (hG.less (by exact AN rfl));refine YX λ tn oo dn d1 x1 x2 d2 oo xn oo z q1 sn oo z2 oo oo cc oo oo an nn oo oo oo oo rr oo c1 c2 c3 c4 c5 c6 c7 c8 c9 c10 c11 c12 c13 c14=>?_;have c10:=(Dj c10).symm;subst c10;have I:AX mg mb C (λ p=>0) [.w (.int 1),.w (.int av),.u,.u,.u] s'1:=I;have noOwn:∀i xs,rd ([.w (.int 1),.w (.int av),.u,.u,.u]:AQ) i≠.x xs:=λ i xs e=>by
  match i with
  |0=>cases e
  |1=>cases e
  |2=>cases e
  |3=>cases e
  |4=>cases e
  |i+5=>cases e
 have I:=G0'.inv g I t'1 e2 noOwn;have N:AJ (C0 (AA 30)) ⟨C.loc,C.Y0,B⟩ (Dp 30 dV kV doc pm (.ref c) ct s.heap.objs.size 170):=N.base;have hzk:(Dp 30 dV kV doc pm (.ref c) ct s.heap.objs.size 170).kindOf z=Aa .local:=N.loc z c8;have hz2:=(Gb c7).1;have hie:C.loc 3=.dict s.heap.objs.size z:=by
  have a:rF _ z (C.loc 3):=N.acc z 3 hz2
  cases e:C.loc 3 with
  |no=>rw[e] at a;induction a
  |dict D y=>rw[e] at a;refine Db a λ ξ1 p h=>?_;subst ξ1;rw[<-h];rfl
  |cell c'=>rw[e] at a;have a:=a.1;rw[hzk] at a;rcases a with a|a<;>cases a
 refine Aw hns λ mm hns=>?_;have hT:=U8 g hLn;have hBL:B.get? s.heap.objs.size=Ae:=G0'.none g hLn;refine Db (L6 c6) λ hxz hg hn=>?_;subst hxz;refine Ay (RO (Ay (CG ?_ rfl)));refine Db (Ir c3) λ h1 h2 H=>?_;refine AF H λ j h3 h4=>?_;refine Gx (key:=Ae) (f:=.ref 84) (AR:=λ s' vs=>AI s'.heap (Am ⟨C.loc,C.Y0,B⟩ (λ p=>0) [.w (.int 1),.w (.int av),.u,.u,.u]) [.int x,.int 0] vs) N I (OQ (AH c4) (AH c5)) rfl (λ h=>by cases h) (λ Q E k=>CQ N h1 h2 I (Iu I.gi h3 h4) k) (λ Q E k=>DG.two (BP X1 wI _ _ _ _ x1 (.int x) N c4 hx) (AH c4) (BP X1 eD2 _ _ _ _ x2 (.int 0) N c5 rfl) (AH c5) _ _ s'1 I Q E k) (λ s' g=>Dy g h3) λ s'2 vs I'2 t'2 r'2=>?_
 have lv2:EY s'2.heap (s.heap.objs.size::fr) (Dp 30 dV kV doc pm (.ref c) ct s.heap.objs.size 170::l):=⟨by rw[N.kind];nofun,⟨_,rfl,.head _⟩,lv.more⟩;have fr2:IY s'2.heap (s.heap.objs.size::fr):=Mg hfr (D6.of (t'1.trans t'2)) hT (EF t'2.keep hT hns);refine aU (hG.less (by exact AN c6)) I'2.gi (BH hfm) lv2 fr2 I'2.there r'2 λ s' e hR=>RD (T:="ZeroDivisionError") (P:=λ f=>∃t,f=.ret (.int av t)) N I'2 (BH hfm) rfl rfl (λ L' h=>?_) hie hz2 hzk rfl hR hg hn (by decide+kernel) (by decide+kernel) (by decide+kernel) PySem.F.isExc_ZeroDivisionError PySem.F.notTuple_ZeroDivisionError (by rw[V4];kernel_rfl) (λ s'4 t' m I'4 hns4 hm4 ex tu E'=>?_) (λ f s'6 hP g'6 st=>?_)
 ·rcases AL.mp h with h|h
  ·rw[h];exact hBL
  ·exact G0'.fr L' h
 ·have hcl:((A.deeper (Dp 30 dV kV doc pm (.ref c) ct s.heap.objs.size 170)).mark (Aa (.ref e))).units+64<Qt:=hG.cline;refine Ay (Dk (GA (DR ?_)));have hq:Ni mg mb w ⟨C.loc,C.Y0,B⟩ ((A.deeper (Dp 30 dV kV doc pm (.ref c) ct s.heap.objs.size 170)).mark (Aa (.ref e))) [.w (.int 1),.w (.int av),.u,.u,.u] (isTrue q1 (Dp 30 dV kV doc pm (.ref c) ct s.heap.objs.size 170) (AM q1 (Dp 30 dV kV doc pm (.ref c) ct s.heap.objs.size 170))) Ab:=by
   refine oW c11 λ y1 z1 p1 e1 h1 h2=>?_;rw[e1];exact TC (o:=.eq) (a:=.int 1) (b:=.int 1) (r:=.bool Ab) rfl rfl rfl ((YF (G:=G0) _ _ _ _ _ N h1).v _ rfl) ((yL (G:=G0) _ _ _ _ _ N h2).v _ rfl) hcl (Ge h2)
  refine hq _ s'4 I'4 _ _ λ s'5 d g'5 t'5 q=>?_;subst q;rw[if_pos rfl];have I'5:=I'4.step t'5 g'5;obtain⟨ex5,tu5⟩:s'5.heap.ExcAt e "ZeroDivisionError" (.ref t')/\s'5.heap.TupAt t' []:=by
   refine Hm ex λ oe vs p1 p2 p3 p4=>El tu λ ot nn q1 q2 q3=>?_;have nTe:¬Tb e:=λ q=>by have:=I'4.gi.cls e oe q p1;rw[p2] at this;cases this
   have nTt:¬Tb t':=λ q=>by have:=I'4.gi.cls t' ot q q1;rw[q2] at this;cases this
   exact⟨⟨oe,vs,t'5.keep e oe nTe p1,p2,p3,p4⟩,⟨ot,nn,t'5.keep t' ot nTt q1,q2,q3⟩⟩
  refine DR (HH (QP N I'5 rfl hzk (Gb c7).2 (EF t'5.keep hT hns4) hm4 c9 (P.str_of_exc_none PySem.F.excStr_ZeroDivisionError (Bc (Di (by decide:2<=64) _) hcl) ex5 tu5 ?_)) ?_)
  ·have g6:=I'5.gi.toks (s'5.toks+1);have t6:=C7.toks (s:=s'5) (s'5.toks+1);have I'6:=I'5.step t6 g6;refine(yL (G:=G0) _ _ _ _ _ N c12).v _ rfl _ _ I'6 _ _ λ s'7 v7 g7 t'7 ⟨_,u,e7⟩=>?_;subst e7;refine Mk (o:=.eq) (a:=.str []) (b:=.str []) (r:=.bool Ab) rfl rfl (Y:=λ p=>False) ⟨by decide,_,rfl⟩ ⟨by decide,u,rfl⟩ g7 hcl _ _ λ s'8 v'8 g'8 t'8 e8=>?_;have e8:v'8=.bool Ab:=e8;subst e8;refine Qx ?_;rw[if_pos rfl];refine GH ?_;rw[if_pos rfl];have I'8:=(I'6.step t'7 g7).step t'8 g'8;refine(YF (G:=G0) _ _ _ _ _ N c13).v (.int av) rfl _ s'8 I'8 _ _ λ s'9 v9 g9 t9 ⟨u9,e9⟩=>?_;subst e9;exact⟨⟨u9,rfl⟩,g9,(((t'5.trans t6).trans t'7).trans t'8).trans t9⟩
  ·exact Ge c12 _
 ·refine Aw hP λ t H2=>?_;subst H2;exact k s'6 t g'6 (LF.before (t'1.trans t'2) st hLn)
end
noncomputable def iB:List V->Option (V×V)
 |[a,b]=>Aa (a,b)
 |_=>Ae
def dG(G:EZ)(f:Nat)(vs:List V)(key:Option Nat):Option V:=Ca key.isNone ((iB vs).bind λ p=>(Bb p.2).bind λ n=>Ca (AG f 63) ((Bb p.1).bind λ a=>(wT a n).map .list) (Ca (AG f 70) ((BD p.1).bind λ ds=>(rB ds n).map .int) (Ca (AG f 170) ((Bb p.1).bind λ q=>eH G q n) Ae))) Ae
noncomputable def GL:Nat->EZ
 |0=>G0
 |n+1=>λ f vs key=>Ca (Zx f OH).isSome (UW (GL n) 64 f vs key) (dG (GL n) f vs key)
theorem Tl{vs:List V}{p:V×V}(h:iB vs=Aa p):vs=[p.1,p.2]:=by rcases vs with _|⟨a,_|⟨b,_|⟨c,l⟩⟩⟩<;>first|exact nn h|rw[<-sj h]
theorem XY{f:Nat}{vs:List V}{key:Option Nat}{C:Nat->List V->Option Nat->V->Prop}(h:dG G f vs key=Aa r)(k1:∀a n ys,wT a n=Aa ys->C 63 [.int a,.int n] Ae (.list ys))(k2:∀ds n i,rB ds n=Aa i->C 70 [.list ds,.int n] Ae (.int i))(k3:∀q a r,eH G q a=Aa r->C 170 [.int q,.int a] Ae r):C f vs key r:=by
 refine A9 (Hf h) λ hk h=>bK h λ p hp h=>bK h λ n hn h=>?_;have hv:=Tl hp;rw[B5 hn] at hv;rw[hv,Option.isNone_iff_eq_none.mp hk]
 by_cases q:AG f 63=Ab
 ·rw[q] at h;refine bK h λ a ha h=>mK h λ ys h1 h2=>?_;rw[B5 ha,Av q,<-h2];exact k1 _ _ ys h1
 ·rw[OA _ |>.mp q] at h
  by_cases q:AG f 70=Ab
  ·rw[q] at h;refine bK h λ a ha h=>mK h λ ys h1 h2=>?_;rw[Cu ha,Av q,<-h2];exact k2 _ _ ys h1
  ·rw[OA _ |>.mp q] at h;refine A9 (Hf h) λ q h=>bK h λ a ha h=>?_;rw[B5 ha,Av q];exact k3 _ _ r h
theorem vM(k:Nat):HC mg mb w (GL k) (2*k+70)/\J9 mg mb w (GL k) (2*k+70):=by
 induction k with
 |zero=>exact⟨Sg,λ vs xs h=>nn h⟩
 |succ k ih=>
  refine A9 ih λ S Fr=>?_;have hn:4<=2*k+70:=DU 4 (2*k+66);refine⟨⟨λ f vs key r h=>?_,λ f vs key r h A s Y us hA g hY hr=>?_⟩,λ vs xs h A s Y us hA g hY hr=>?_⟩
  ·have h:Ca (Zx f OH).isSome (UW (GL k) 64 f vs key) (dG (GL k) f vs key)=Aa r:=h
   cases q:(Zx f OH).isSome with
   |true=>rw[q] at h;exact aO h
   |false=>rw[q] at h;exact XY (C:=λ f z z z=>∃i,(f,i)∈Fe) h (λ z z z z=>⟨9,by decide⟩) (λ z z z z=>⟨10,by decide⟩) λ z z z z=>⟨30,by decide⟩
  ·have h:Ca (Zx f OH).isSome (UW (GL k) 64 f vs key) (dG (GL k) f vs key)=Aa r:=h;have hA:BQ (2*k+70+2) A:=hA
   cases q:(Zx f OH).isSome with
   |true=>rw[q] at h;exact AF (TK S Fr hn h hA g hY hr) λ fl h1 h2=>h2.mono λ s' v g' t x=>J3 g' hY h1 x
   |false=>
    rw[q] at h;have hA2:BQ 62 A:=hA.less (DU 62 (2*k+10));exact XY (C:=λ f vs key r=>AI s.heap Y vs us->Ok mg mb w A s (C2 (.ref f) us (Kh key)) λ s' v=>A6 s'.heap Y r v) h
     (λ a n ys h1 hr=>(Y2 h1 hA2 g hY hr).mono λ s' v g' t x=>J3 (f:=63) g' hY rfl x)
     (λ ds n i h1 hr=>(Y1 h1 hA2 g hY hr).mono λ s' v g' t x=>J3 (f:=70) g' hY rfl x)
     (λ q a r h1 hr=>(VG (m:=2*k+70+1) (n:=2*k+70) (λ A hA=>⟨S,hA.less (Dw _),LZ S hA⟩) h1 hA g hY hr).mono λ s' v g' t x=>J3 (f:=170) g' hY rfl x) hr
  ·have h:UW (GL k) 64 42 vs Ae=Aa (.list xs):=h;refine AF (TK S Fr hn h hA g hY hr) λ fl h1 h2=>?_;have e:fl=.reto xs:=by
    clear h2
    induction fl using Fl.casesOn with
    |next=>exact nn h1
    |ret v=>exact nn h1
    |reto ys=>cases h1;rfl
   rw[e] at h2;exact h2
structure Go(s s':Af):Prop where
 gens:∀(i:Nat) x,s.gens[i]?=Aa x->s'.gens[i]?=Aa x
 os:s'.os=s.os
theorem Go.trans(x:Go s s'1)(y:Go s'1 s'2):Go s s'2:=⟨λ i g e=>y.gens i g (x.gens i g e),y.os.trans x.os⟩
def Oz(mg mb:Str->Option Ad)(w:B2)(C:Er)(A:Br)(U:AQ)(t:Sem Gj)(fl:Fl)(U':AQ):Prop:=
 ∀J s,AX mg mb C J U s->∀(Q:Gj->Af->Prop) (E:Ad->Af->Prop),(∀J' s' f,AX mg mb C J' U' s'->Go s s'->Ot C J' U' fl f s'->Q f s')->As (An pw w) A t Q E s
structure V8(K:Kx)(C:Er)(env:Env)(Lf:Aj)(A:Br):Prop where
 N:AJ K C env
 fm:A.frames=Aa [env]
 fr:env.frame=Aa Lf
 dict:∃i x,C.loc i=.dict Lf x
 gd:BQ 50 A
theorem Oz.of{t:Sem Gj}(h:D1 mg mb w C A U t (fl,U')):Oz mg mb w C A U t fl U':=λ J s I Q E k=>h J s I Q E λ J' s' f I' fs ok=>k J' s' f I' ⟨fs.gens,fs.os⟩ ok
theorem Oz.cons{x:CU}{r:List CU}(h:Oz mg mb w C A U (DP x env) .next U'2)(h':Oz mg mb w C A U'2 (B4 r env) fl U'):Oz mg mb w C A U (B4 (x::r) env) fl U':=λ J s I Q E k=>
 Ay (h J s I _ _ λ J'1 s'1 f I'1 g'1 ok=>by subst ok;exact h' J'1 s'1 I'1 Q E λ J2 s'2 f I'2 g'2 ok=>k J2 s'2 f I'2 (g'1.trans g'2) ok)
theorem V8.live(L:V8 K C env Lf A)(h:AV):EY h [Lf] [env]:=⟨by rw[L.N.kind];nofun,⟨Lf,L.fr,.head _⟩,trivial⟩
theorem V8.mine(L:V8 K C env Lf A):C.mine Lf:=.inl L.dict
theorem V8.frNs(L:V8 K C env Lf A)(I:AX mg mb C J U s):IY s.heap [Lf]:=λ b hb=>by rw[List.mem_singleton.mp hb];exact AF (I.dicts Lf L.dict) λ m h z=>⟨I.mineTb L.mine,m,h⟩
theorem AX.ground0(I:AX mg mb C J U s)(h:C.base.get? Lf=Ae):IX mg mb C.base [Lf] s:=⟨I.wd0,I.keep,I.tb,λ b hb=>by rw[List.mem_singleton.mp hb];exact h⟩
def Tp(o o':Obj):Prop:=o'=o\/((∃es n,o.data=.dict es n)/\∃sl,o'={o with slots:=sl})
theorem Tp.trans{a b c:Obj}(x:Tp a b)(y:Tp b c):Tp a c:=by
 rcases x with rfl|⟨h,sl,rfl⟩
 ·exact y
 ·rcases y with rfl|⟨_,TH,rfl⟩
  ·exact .inr ⟨h,sl,rfl⟩
  ·exact .inr ⟨h,TH,rfl⟩
theorem LU{h h' h'':AV}(x:Nh (λ b=>b=Lf) Tp h h')(y:Nh (λ b=>b=Lf) Tp h' h''):Nh (λ b=>b=Lf) Tp h h'':=Nh.trans (Px:=Tp) Tp.trans x y
theorem ZV(hk:∀b o,¬Tb b->¬b=Lf->s.heap.get? b=Aa o->s'.heap.get? b=Aa o)(hw:Nh (λ b=>b=Lf) Tp s.heap s'.heap)(g:Go s s'):D6 [Lf] s s':=⟨λ b o n e=>by
 by_cases q:b=Lf
 ·refine AF (hw b o q e) λ o' e' p=>?_;rcases p with p|⟨h,sl,p⟩
  ·exact .inl (p▸e')
  ·exact .inr ⟨List.mem_singleton.mpr q,h,sl,p▸e'⟩
 ·exact .inl (hk b o n q e),g.gens,g.os⟩
theorem D6.wp(t:D6 [Lf] s s')(hT:¬Tb Lf):Nh (λ b=>b=Lf) Tp s.heap s'.heap:=λ b o q e=>by
 rcases t.keep b o (q▸hT) e with e1|⟨_,h,sl,e1⟩
 ·exact⟨o,e1,.inl rfl⟩
 ·exact⟨_,e1,.inr ⟨h,sl,rfl⟩⟩
theorem D6.mv(t:D6 [Lf] s s'):Mv (λ b=>b=Lf) (λ z=>False) s s':=⟨λ b o n q e=>(t.keep b o n e).elim id λ h=>absurd (List.mem_singleton.mp h.1) q,λ j x z e=>t.gens j x e,t.os⟩
noncomputable def Pl:It:=.rng2 (.c (.int 1)) (.o2 .a (.o2 .max (.v 7) (.c (.int 3))) (.c (.int 1)))
inductive S7(K:Kx):CU->Prop
 |mk {gx p1 fn p2 a1 a2 p3 tg itx sc p6 p7} (c1:F8 K gx 11=Ab) (c2:M8 K gx=Ab) (c3:Mn K Pl itx=Ab)
  (c4:AP (IM K sc [43]) (λ K'=>F5 K' (.one 43) tg&&(EC K' 170 fn&&(chk K' (.v 9) a1&&chk K' (.v 43) a2)))=Ab):
  S7 K (.Assign [.Name gx p1] (.ListComp (.Call (.Name fn p2) [a1,a2] [] p3) [⟨tg,itx,[],0⟩] sc p6) p7)
def Pj(i:Nat):CU:=match(AA 35).body[i]? with
 |some x=>x
 |none=>.Pass ⟨0,0,0,0⟩
theorem VE:S7 (C0 (AA 35)) (Pj 8):=.mk (by kernel_rfl) (by kernel_rfl) (by kernel_rfl) (by kernel_rfl)
def UA(xs:List V):Prop:=∀x∈xs,∃a y,x=.int a/\ev G0 wI [.w (.int 1),.w (.int a),.u,.u,.u]=Aa (.int y)
theorem lL(L:V8 K C env Lf A){h0:AV}(hB0:B.get? Lf=Ae)(hT:¬Tb Lf)(hns:∃m,h0.Ns Lf m){fn:Str}{p2 p3:Pos}{a1 a2:Ac}{xs:List V}(hxs:UA xs)(hsz:xs.length<=CN)(h9:rd U 9=.w (.int 1))(h43:43<U.length)(hno:∀ys,rd U 43≠.x ys)
  (c1:EC K' 170 fn=Ab) (c2:chk K' (.v 9) a1=Ab) (c3:chk K' (.v 43) a2=Ab):
  Zo mg mb K' J (.one 43) B h0 (λ z=>Du [43] U) (λ i=>xs.take i) xs (λ b=>b=Lf) Tp (fF w A [] (.Call (.Name fn p2) [a1,a2] [] p3)):=by
 intro C'1 env' D σ W P n x U'1 s' N' hD hDm hB hDB hDT hP hPm hx hb I ac hw Q E kk;refine E1 (hxs x (Bi hx)) λ av y hxa hy=>?_;subst hxa;have hb:wr (Du [43] U) 43 (.w (.int av))=U'1:=AE hb;have r9:rd U'1 9=.w (.int 1):=by rw[<-hb,AU (by decide),VC (by decide)];exact h9
 have r43:rd U'1 43=.w (.int av):=by rw[<-hb];exact DB (by show 43<(wr U 43 _).length;rw[GO];exact h43)
 have rj:∀j,rd (Du [43] U) j=rd U'1 j\/rd (Du [43] U) j=.u:=λ j=>by
  by_cases q:j=43
  ·exact .inr (q▸oT)
  ·exact .inl (by rw[<-hb,AU q])
 have avo:∀b,Am (C'1.plus W) J (Du [43] U) b->Am (C'1.plus W) J U'1 b:=λ b y=>LB rj y;have hBL:(C'1.plus W).base.get? Lf=Ae:=by show C'1.base.get? Lf=Ae;rw[hB];exact hB0
 have X1:Cx mg mb w G0 0 A:=Vz (L.gd.less (by decide));refine Mw.nil (C:=C'1.plus W) (U:=U'1) J s' I _ _ λ s'1 d g'1 t'1 e=>?_;subst e;rw[if_pos rfl];have I'1:=I.step t'1 g'1;refine Db (Ir c1) λ h1 h2 H=>?_;refine AF H λ j h3 h4=>?_;refine Gx (key:=Ae) (f:=.ref 170) (AR:=λ s' vs=>AI s'.heap (Am (C'1.plus W) J U'1) [.int 1,.int av] vs) N'.plus I'1 (OQ (AH c2) (AH c3)) rfl (λ h=>by cases h) (λ Q E k=>CQ N'.plus h1 h2 I'1 (Iu I'1.gi h3 h4) k)
  (λ Q E k=>DG.two (BP X1 (.v 9) _ _ _ _ a1 (.int 1) N'.plus c2 (by show Bv (rd U'1 9)=_;rw[r9];rfl)) (AH c2) (BP X1 (.v 43) _ _ _ _ a2 (.int av) N'.plus c3 (by show Bv (rd U'1 43)=_;rw[r43];rfl)) (AH c3) _ J s'1 I'1 Q E k) (λ s' g=>Dy g h3) λ s'2 vs I'2 t'2 r'2=>?_
 have t12:=t'1.trans t'2;have w2:Nh (λ b=>b=Lf) Tp s'.heap s'2.heap:=λ b o q e=>⟨o,t12.keep b o (q▸hT) e,.inl rfl⟩;have ns2:∃m,s'2.heap.Ns Lf m:=by
  refine Aw hns λ m hm=>Lb hm λ o es ep e hd r=>AF ((LU hw w2) Lf o rfl e) λ o' e' p=>?_;rcases p with p|⟨_,sl,p⟩
  ·exact⟨m,o',es,ep,e',p▸hd,r⟩
  ·exact⟨m,o',es,ep,e',p▸hd,r⟩
 refine VH (fr:=[Lf]) (B:=(C'1.plus W).base) (L.gd.less (by decide)) I'2.gi L.fm (L.live _) (λ b hb=>by rw[List.mem_singleton.mp hb];exact⟨hT,ns2⟩) (I'2.ground0 hBL) hy I'2.there r'2 λ s'3 tk g'3 t'3=>?_;have I'3:=I'2.flew t'3 g'3 λ b hb=>by rw[List.mem_singleton.mp hb];exact hBL
 have htake:xs.take n++[.int av]=xs.take (n+1):=by refine Aw (List.getElem?_eq_some_iff.mp hx) λ hlt e=>?_;rw[List.take_succ_eq_append_getElem hlt,e]
 have ac3:Gy (C'1.plus W) J (Du [43] U) D (xs.take n) s'3:=by refine A9 ac λ hz H=>?_;refine AF H λ ys H2 hr=>?_;refine Aw H2 λ nn ho=>?_;exact⟨hz,ys,⟨nn,t'3.get hDT nofun (t12.keep D _ hDT ho)⟩,t'3.reps I'2.gi (hr.step I.gi t12)⟩
 have nD:D≠Lf:=λ e=>by
  refine Aw ns2 λ m hm=>Lb hm λ o es ep e1 hd z=>A9 ac λ hz H=>AF H λ ys H2 hr=>Aw H2 λ nn ho=>?_;have e2:=t12.keep D _ hDT ho;rw[e,e1] at e2;obtain rfl:=sj e2
  cases hd
 refine Qb I'3 hD hDm (hB▸hDB) hDT avo ac3 (V:=.int av) ⟨tk,rfl⟩ (by rw[htake];exact Ak (by rw[Dv];exact OW _ _) hsz) λ s'4 z I'4 ac4 m4=>?_;rw[htake] at ac4;refine kk s'4 (I'4.forget rj) ac4 (((Mv.of_stp (W:=λ z=>False) (gw:=λ z=>False) t12).trans (t'3.mv.trans m4)).weak (λ b h=>?_) λ j h=>by rcases h with h|h|h<;>exact h) (LU (LU w2 (t'3.wp hT)) λ b o q e=>⟨o,m4.heap b o (q▸hT) (λ e=>nD (e.symm.trans q)) e,.inl rfl⟩);rcases h with h|h|h
 ·exact h.elim
 ·exact .inr (.inr h)
 ·exact .inl h
theorem jA(X:Cx mg mb w G n A)(L:V8 K C env Lf A){x:CU}(h:S7 K x){xs:List V}(hx:EU G Pl U=Aa xs)(hxs:UA xs)(hsz:xs.length<=CN)(h9:rd U 9=.w (.int 1))(h43:43<U.length)(hno:∀ys,rd U 43≠.x ys):
  Oz mg mb w C A U (DP x env) .next (wr U 11 (.w (.list xs))):=λ J s I Q E kk=>by
 induction h with
 |@mk gx p1 fn p2 a1 a2 p3 tg itx sc p6 p7 c1 c2 c3 c4=>
 refine aK c4 λ K' d0 c4=>CJ c4 λ d1 c4=>CJ c4 λ d2 c4=>CJ c4 λ d3 d4=>?_;have hT:=I.mineTb L.mine;have hB:=I.new Lf L.mine;refine CG ?_ (MP L.N c2);rw[Zq];refine YT (vs:=[43]) (t:=.one 43) (tg:=tg) (xs:=xs) (zs:=λ n=>xs.take n) (RT:=fF w A [] (.Call (.Name fn p2) [a1,a2] [] p3)) (ρj:=λ z=>U) (Wp:=λ b=>b=Lf) (Px:=Tp) L.N L.gd.hd d0 d1 (Um X Pl K C env U tg itx xs L.N c3 (λ ⟨_,_,e⟩=>nf (congrArg (PL · (.one 0)) e).symm) hx) (Ix c3 env) (λ m hm ys=>by rw[List.mem_singleton.mp hm];exact hno ys)
  (λ env' D σ s P E h=>Wu env' D σ s P E h) rfl rfl (λ z j ys e=>⟨ys,e⟩) (λ j ys e=>⟨ys,e⟩) (λ z=>.inl rfl) Tp.trans (λ z z z=>⟨_,rfl⟩) Ae J s I (λ b q=>by rw[q];exact⟨.inr (.inl L.mine),hT⟩)
  (lL L hB hT (by refine AF (I.dicts Lf L.dict) λ m h z=>?_;exact⟨m,h⟩) hxs hsz h9 h43 hno d2 d3 d4) _ E λ s' D L' C'1 I' avo hkp wp hge hos hL hn rv=>?_
 refine Aw hn λ m hn=>⟨m,hn,λ h' hsb=>?_⟩;rw[OD] at rv;refine CA (I.fresh_facts hL) λ hm h0 hb hT'=>?_;have t:D6 [Lf] s s':=ZV hkp wp ⟨hge,hos⟩;have I'1:AX mg mb (C.plus λ b=>b=L') J U s':=I.flewW t I'.gi (λ b hb=>by rw[List.mem_singleton.mp hb];exact hB) (λ b q=>q▸hL) λ b q=>by refine Lc hn λ o z z ho z=>?_;exact⟨o,q▸ho⟩
 have I'2:=I'1.letGo hm h0 hb hT' hsb (.ns hn);have rv':A6 h' (Am C J U) (.list xs) (.ref D):=A6.monoY (Y:=Am (C.plus λ b=>b=L') J U) (λ b o n y e=>hsb.extBut b o (λ q=>y (Be.mpr (.inr q))) e) I'.gi.cls (λ b o z y=>Be.mpr (.inl y)) rv;exact Mr L.N c1 I'2 rv' λ s'3 I'3 f'3 z=>kk J s'3 .next I'3 ⟨λ i x e=>f'3.gens i x (hge i x e),f'3.os.trans hos⟩ rfl
noncomputable def N0:Ex:=.o2 .ne (.v 25) (.sort 184 (.f (.o2 .eq (.o2 .mod (.o2 .i (.v 3) (.c (.int 3))) (.c (.int 2))) (.c (.int 0))) (.sl (.v 26) .a .a (.o1 .neg (.c (.int 1)))) (.v 26)))
inductive Qj(K:Kx)(b:Bool):Ac->Prop
 |mk {fn p a1 a2 q} (c1:EC K 191 fn=Ab) (c2:chk K (.v 25) a1=Ab) (c3:chk K (.c (.bool b)) a2=Ab):Qj K b (.Call (.Name fn p) [a1,a2] [] q)
inductive Ob(K:Kx):CU->Prop
 |mk {r1 r2 y p1 p2 p3 p4 body} (c1:Qj K Ab r1) (c2:Qj K Ai r2) (c3:chk K N0 y=Ab):Ob K (.If (.BoolOp .Or [.UnaryOp .Not (.BoolOp .And [r1,r2] p1) p2,y] p3) body [] p4)
theorem RB:Ob (C0 (AA 35)) (Pj 22):=.mk (.mk (by kernel_rfl) (by kernel_rfl) (by kernel_rfl)) (.mk (by kernel_rfl) (by kernel_rfl) (by kernel_rfl)) (by kernel_rfl)
theorem fT(L:V8 K C env Lf A){b:Bool}(h:Qj K b x){rs:List V}(h25:rd U 25=.w (.list rs))(hv:rs[0]?=Aa v)(I:AX mg mb C J U s){Q:Bool->Af->Prop}(k:∀s',AX mg mb C J U s'->Go s s'->Q Ab s'):
  As (An pw w) A (isTrue x env (AM x env)) Q E s:=by
 induction h with
 |@mk fn p a1 a2 q c1 c2 c3=>
 have X1:Cx mg mb w G0 0 A:=Vz (L.gd.less (by decide));refine PyProof.Rows.isTrue_plain ?_ rfl;refine Db (Ir c1) λ h1 h2 H=>?_;refine AF H λ j h3 h4=>?_;refine Gx (key:=Ae) (f:=.ref 191) (AR:=λ s' vs=>AI s'.heap (Am C J U) [.list rs,.bool b] vs) L.N I (OQ (AH c2) (AH c3)) rfl (λ h=>by cases h) (λ Q E k=>CQ L.N h1 h2 I (Iu I.gi h3 h4) k)
  (λ Q E k=>DG.two (BP X1 (.v 25) _ _ _ _ a1 (.list rs) L.N c2 (by show Bv (rd U 25)=_;rw[h25];rfl)) (AH c2) (BP X1 (.c (.bool b)) _ _ _ _ a2 (.bool b) L.N c3 rfl) (AH c3) _ J s I Q E k) (λ s' g=>Dy g h3) λ s'2 vs I'2 t'2 r'2=>?_
 have hB:=I.new Lf L.mine;refine eW (fr:=[Lf]) (B:=C.base) (L.gd.less (by decide)) I'2.gi L.fm (L.live _) (L.frNs I'2) (I'2.ground0 hB) hv I'2.there r'2 λ s'3 g'3 t'3=>?_;have I'3:=I'2.flew t'3 g'3 λ b hb=>by rw[List.mem_singleton.mp hb];exact hB
 exact Qx (k s'3 I'3 ⟨λ i x e=>t'3.gens i x (t'2.gens i x e),t'3.os.trans t'2.os⟩)
theorem WE(X:Cx mg mb w G n A)(L:V8 K C env Lf A){x:CU}(h:Ob K x){rs:List V}(h25:rd U 25=.w (.list rs))(hv:rs[0]?=Aa v)(hy:Gr G N0 U=Aa Ai):Oz mg mb w C A U (DP x env) .next U:=λ J s I Q E kk=>by
 induction h with
 |@mk r1 r2 y p1 p2 p3 p4 body c1 c2 c3=>
 refine KZ (Ih (PyProof.Rows.isTrue_not (DR (fT L c1 h25 hv I λ s'1 I'1 g'1=>?_))));rw[if_pos rfl];refine DR (fT L c2 h25 hv I'1 λ s'2 I'2 g'2=>?_);rw[if_pos rfl];refine GH ?_;rw[if_neg (by decide)];refine Ih (FJ X N0 K C env U y Ai L.N c3 hy J s'2 I'2 _ _ λ s'3 d g'3 t'3 e=>?_);subst e;rw[if_neg (by decide)];exact PyProof.Rows.isTrue_or_nil<|CO (kk J s'3 .next (I'2.step t'3 g'3) ((g'1.trans g'2).trans ⟨t'3.gens,t'3.os⟩) rfl)
noncomputable def Jp:Nat->E5->E5
 |n+1,.cons s r=>.cons s (Jp n r)
 |_,_=>.nil
noncomputable def Gn:Nat->E5->E5
 |n+1,.cons _ r=>Gn n r
 |_,r=>r
def C1(n:Nat)(b:E5):St:=match Gn n b with
 |.cons s _=>s
 |.nil=>.bad
abbrev Lz:List CU:=(AA 35).body
theorem cQ:Lz=Lz.take 8++(Pj 8::((Lz.drop 9).take 13++(Pj 22::Lz.drop 23))):=by kernel_rfl
theorem mJ:Ct (C0 (AA 35)) (Jp 9 A4) (Lz.take 8)=Ab:=by decide+kernel
theorem mI:YW (C0 (AA 35)) (C1 9 A4) (Pj 8)=Ab:=by decide+kernel
theorem mH:Ct (C0 (AA 35)) (Jp 14 (Gn 10 A4)) ((Lz.drop 9).take 13)=Ab:=by decide+kernel
theorem mG:Ct (C0 (AA 35)) (Gn 25 A4) (Lz.drop 23)=Ab:=by decide+kernel
inductive Oq(ns:List Int):Prop
 |mk (ρ1 ρ2 ρ3 ρ4:AQ) (rs:List V) (v:V) (h1:Bw (GL 12) 64 (Jp 9 A4) (Ei [.list (ns.map .int)] 74)=Aa (.next,ρ1))
  (h2:CD (GL 12) 64 (C1 9 A4) ρ1=Aa (.next,ρ2)\/∃xs,rd ρ1 9=.w (.int 1)/\EU (GL 12) Pl ρ1=Aa xs/\UA xs/\xs.length<=CN/\43<ρ1.length/\rd ρ1 43=.u/\ρ2=wr ρ1 11 (.w (.list xs)))
  (h3:Bw (GL 12) 64 (Jp 14 (Gn 10 A4)) ρ2=Aa (.next,ρ3)) (h4:rd ρ3 25=.w (.list rs)) (h5:rs[0]?=Aa v) (h6:Gr (GL 12) N0 ρ3=Aa Ai)
  (h7:Bw (GL 12) 64 (Gn 25 A4) ρ3=Aa (.ret (.bool Ab),ρ4))
theorem Oz.pre(X:Sx mg mb w G n F A)(N:AJ K C env){rest:List CU}:∀{b:E5} {ys:List CU} {U U'1:AQ},Ct K b ys=Ab->Bw G F b U=Aa (.next,U'1)->Oz mg mb w C A U'1 (B4 rest env) fl U'->Oz mg mb w C A U (B4 (ys++rest) env) fl U'
 |.nil,ys,U,U'1,hc,hr,h=>by have e:ys=[]:=BC hc;have e2:(Fl.next,U)=(Fl.next,U'1):=sj hr;rw[e];injection e2 with _ e2;rw[e2];exact h
 |.cons st r,ys,U,U'1,hc,hr,h=>by
  refine bK (show((CD G F st U).bind λ x=>E9 x (Bw G F r))=Aa (.next,U'1) from hr) λ ξ1 h1 h2=>?_;obtain⟨f,U'2⟩:=ξ1;have ef:f=.next:=by
   induction f with
   |next=>rfl
   |ret v=>have:=congrArg Wf (sj h2);exact(by cases this)
   |reto xs=>have:=congrArg Wf (sj h2);exact(by cases this)
  subst ef;have h2:Bw G F r U'2=Aa (.next,U'1):=h2;rcases Oa hc with⟨i,e,h3⟩|⟨y,zs,e,h3,h4⟩
  ·subst e;refine mK h1 λ xs e1 e2=>?_;have ih:=Oz.pre X N h3 h2 h;injection e2 with _ e2;rw[<-e2] at ih;exact λ J s I Q E k=>ih J s (I.frz (Hz e1)) Q E k
  ·subst e;exact Oz.cons (Oz.of (Sn X st _ _ _ _ _ _ N h3 h1)) (Oz.pre X N h4 h2 h)
def F2:Program:={pw with main:={pw.main with body:=[1,2,3,4,6,7,8,9,10,11,12,19,20,21,22,23,25,26,27,28,29,30,31,32,33,34,35].filterMap λ i=>pw.main.body[i]?}}
noncomputable def H5:List Str:=[Fv "insort_right",Fv "bisect_right",Fv "insort_left",Fv "bisect_left"]
noncomputable def qV(o:Obj):Option Gl:=match o.data with
 |.func fd=>Aa fd
 |_=>Ae
theorem bP{o:Obj}{fd:Gl}(h:qV o=Aa fd):o.data=.func fd:=by
 obtain⟨c,d,data,sl⟩:=o
 induction data using Nk<;>first|exact nn h|exact congrArg Data.func (sj h)
noncomputable def JZ(o:Obj):Option (Array Ad):=match o.data with
 |.fields vs=>Aa vs
 |_=>Ae
theorem Q1{o:Obj}{vs:Array Ad}(h:JZ o=Aa vs):o.data=.fields vs:=by
 obtain⟨c,d,data,sl⟩:=o
 induction data using Nk<;>first|exact nn h|exact congrArg Wa (sj h)
noncomputable def uJ(o:Obj):Option (List Ad×Nat):=match o.data with
 |.seq vs n=>Aa (vs.toList,n)
 |_=>Ae
theorem Xd{o:Obj}{q:List Ad×Nat}(h:uJ o=Aa q):o.data=.seq q.1.toArray q.2:=by
 obtain⟨c,d,data,sl⟩:=o
 induction data using Nk<;>first|exact nn h|(obtain rfl:=sj h;rfl)
noncomputable def TY(o:Obj):Option (Array K3×Nat):=match o.data with
 |.dict es n=>Aa (es,n)
 |_=>Ae
theorem Pc{o:Obj}{q:Array K3×Nat}(h:TY o=Aa q):o.data=.dict q.1 q.2:=by
 obtain⟨c,d,data,sl⟩:=o
 induction data using Nk<;>first|exact nn h|(obtain rfl:=sj h;rfl)
noncomputable def R6(v:Ad):Option Aj:=match v with
 |.ref a=>Aa a
 |_=>Ae
theorem Il{v:Ad}{a:Aj}(h:R6 v=Aa a):v=.ref a:=by induction v using LR<;>first|exact nn h|exact congrArg RY (sj h)
noncomputable def iN(v:Ad):Option Str:=match v with
 |.str a _=>Aa a
 |_=>Ae
theorem QI{v:Ad}{a:Str}(h:iN v=Aa a):∃t,v=.str a t:=by induction v using LR<;>first|exact nn h|(obtain rfl:=sj h;exact⟨_,rfl⟩)
noncomputable def QJ(v:Ad):Bool:=match v with
 |.none=>Ab
 |_=>Ai
theorem JP{v:Ad}(h:QJ v=Ab):v=.none:=by induction v using LR<;>first|exact nf h|rfl
noncomputable def fS(v:Ad):Bool:=match v with
 |.int i _=>decide (i=0)
 |_=>Ai
theorem UM{v:Ad}(h:fS v=Ab):∃t,v=.int 0 t:=by induction v using LR<;>first|exact nf h|(obtain rfl:=of_decide_eq_true h;exact⟨_,rfl⟩)
noncomputable def notT(a:Nat):Bool:=!(AG a 58||AG a 65)
theorem Io{a:Nat}(h:notT a=Ab):¬Tb a:=Jy a (by simpa only [notT,BG] using h)
noncomputable def Xf(fd:Gl):Str×Str×HM×V5×Scope×Aj×List (Str×Aj)×Option Aj×Aj:=
 (fd.name,fd.qualname,fd.params,fd.body,fd.scope,fd.globals,fd.closure,fd.annotations,fd.builtins)
def hO(h:AV)(nm:Str)(v:Ad):Bool:=
 AP (R6 v) λ c=>notT c&&AP ((h.get? c).bind JZ) λ vs=>AP ((vs[1]?).bind iN) λ q=>Mi q nm
def is2(l:List Ad):Bool:=AP l[0]? fS&&(AP l[1]? QJ&&AG l.length 2)
theorem uO{Z:Type}{l:List Z}{a:Z}(h:l[0]?=Aa a)(hl:l.length=1):l=[a]:=by
 refine List.ext_getElem? λ i=>?_
 cases i with
 |zero=>exact h
 |succ i=>rw[Cf (by omega)];rfl
theorem uN{Z:Type}{l:List Z}{a b:Z}(h:l[0]?=Aa a)(h':l[1]?=Aa b)(hl:l.length=2):l=[a,b]:=by
 refine List.ext_getElem? λ i=>?_
 match i with
 |0=>exact h
 |1=>exact h'
 |i+2=>rw[Cf (by omega)];rfl
theorem cY{l:List Ad}(h:is2 l=Ab):∃t,l=[.int 0 t,.none]:=by refine CJ h λ h1 h2=>CJ h2 λ h2 h3=>aK h1 λ x h4 h5=>aK h2 λ y h6 h7=>Aw (UM h5) λ t e=>?_;rw[e] at h4;rw[JP h7] at h6;exact⟨t,uN h4 h6 (Av h3)⟩
def gR(e:K3):Bool:=AP (iN e.key) (Mi "key")&&QJ e.val
def is1(l:List K3):Bool:=AP l[0]? gR&&AG l.length 1
theorem Vf{e:K3}(h:gR e=Ab):∃hs t,e=⟨hs,.str "key" t,.none⟩:=by
 induction e with
 |mk hs k v=>exact CJ h λ h1 h2=>aK h1 λ x h3 h4=>Aw (QI h3) λ t e=>⟨hs,t,by rw[show v=.none from JP h2,show k=.str x t from e,<-Dj h4]⟩
theorem cZ{l:List K3}(h:is1 l=Ab):∃hs t,l=[⟨hs,.str "key" t,.none⟩]:=CJ h λ h1 h2=>aK h1 λ x h3 h4=>F1 (Vf h4) λ hs t e=>⟨hs,t,e▸uO h3 (Av h2)⟩
def eC(h:AV)(a:Aj)(dV kV:Ad):Bool:=match RR.contains a with
 |true=>(AP (R6 dV) λ T=>notT T&&AP ((h.get? T).bind uJ) λ q=>is2 q.1)&&AP (R6 kV) λ D=>notT D&&AP ((h.get? D).bind TY) λ q=>is1 q.1.toList
 |false=>QJ dV&&QJ kV
theorem YL{h:AV}{a:Aj}{dV kV:Ad}(x:eC h a dV kV=Ab):MS h a dV kV:=by
 unfold eC at x
 cases e:RR.contains a with
 |false=>
  rw[e] at x;have n:a∉RR:=λ y=>by rw[List.contains_iff_mem.mpr y] at e;cases e
  exact CJ x λ h1 h2=>⟨λ z=>⟨JP h1,JP h2⟩,λ y=>absurd y n⟩
 |true=>rw[e] at x;refine⟨λ y=>absurd (List.contains_iff_mem.mp e) y,λ z=>?_⟩;refine CJ x λ h1 h2=>aK h1 λ T h3 h4=>aK h2 λ D h5 h6=>CJ h4 λ nT h7=>CJ h6 λ nD h8=>aK h7 λ q h9 h10=>aK h8 λ r h11 h12=>bK h9 λ o h13 h14=>bK h11 λ od h15 h16=>?_;obtain⟨t,h17⟩:=cY h10;obtain⟨hs,t',h18⟩:=cZ h12;have e1:=Xd h14;have e2:=Pc h16;rw[h17] at e1;rw[show r.1=#[⟨hs,.str "key" t',.none⟩] from Array.toList_inj.mp h18] at e2;exact .mk T D o od t t' q.2 r.2 hs (Il h3) (Io nT) h13 e1 (Il h5) (Io nD) h15 e2
def lI(h:AV)(p:Nat×Nat):Option ((Str×Str×HM×V5×Scope×Aj×List (Str×Aj)×Option Aj×Aj)×Bool):=
 ((h.get? p.1).bind qV).map λ fd=>(Xf fd,hO h fd.name fd.code&&eC h p.1 fd.defaults fd.kwdefaults)
def Wq(i:Nat):(Str×Str×HM×V5×Scope×Aj×List (Str×Aj)×Option Aj×Aj):=
 ((AA i).name,(AA i).name,(AA i).args,.stmts (AA i).body,(AA i).scope,C8,[],Ae,Es)
def uX(es:Array K3)(p:Nat×Nat):Bool:=AP ((nsFind es (AA p.2).name).bind R6) λ a=>AG a p.1
def uI(h:AV):Bool:=AP ((h.get? C8).bind TY) λ q=>Fe.all (uX q.1)
def lJ(h:AV)(p:Nat×Nat):Bool:=AP ((h.get? p.1).bind qV) λ fd=>AP (R6 fd.code) λ c=>notT c&&AP ((h.get? c).bind JZ) λ vs=>AP ((vs[11]?).bind R6) λ P=>AG P p.2
noncomputable def Rs:List (Nat×Nat):=[(63,58),(70,65)]
structure HF(h:AV):Prop where
 fn:∀p∈Fe,∃dV kV,Mu h p.1 (AA p.2).name (AA p.2).name (AA p.2).args (AA p.2).body (AA p.2).scope [] dV kV/\MS h p.1 dV kV
 ns:∃o q,h.get? C8=Aa o/\TY o=Aa q/\Fe.all (uX q.1)=Ab
 co:∀p∈Rs,∃o fd c oc vs,h.get? p.1=Aa o/\qV o=Aa fd/\fd.code=.ref c/\¬Tb c/\h.get? c=Aa oc/\JZ oc=Aa vs/\vs[11]?=Aa (.ref p.2)
theorem HF.keeps{h h':AV}(x:HF h)(k:∀b o,h.get? b=Aa o->h'.get? b=Aa o):HF h' where
 fn:=λ p hp=>by exact E1 (x.fn p hp) λ dV kV h1 h2=>⟨dV,kV,h1.keep (.of k),h2.keeps (.of k)⟩
 ns:=by obtain⟨o,q,h1,h2⟩:=x.ns;exact⟨o,q,k _ _ h1,h2⟩
 co:=λ p hp=>by obtain⟨o,fd,c,oc,vs,h1,h2,h3,h4,h5,h6⟩:=x.co p hp;exact⟨o,fd,c,oc,vs,k _ _ h1,h2,h3,h4,k _ _ h5,h6⟩
def nF(s:Af):List (Option ((Str×Str×HM×V5×Scope×Aj×List (Str×Aj)×Option Aj×Aj)×Bool))×Bool×List Bool:=(Fe.map (lI s.heap),uI s.heap,Rs.map (lJ s.heap))
def nC(_:B2):List (Option ((Str×Str×HM×V5×Scope×Aj×List (Str×Aj)×Option Aj×Aj)×Bool))×Bool×List Bool:=(Fe.map (λ p=>Aa (Wq p.2,Ab)),Ab,Rs.map λ z=>Ab)
@[elab_as_elim] theorem bQ{fd:Gl}{i:Nat}(e:Xf fd=Wq i){C:Gl->Prop}(k:∀dV kV doc pm cd ct,C (fnX (AA i).name (AA i).name (AA i).args (AA i).body (AA i).scope [] dV kV doc pm Ae cd ct)):C fd:=by obtain⟨nm,qn,pa,bo,sc,gl,cl,dV,kV,doc,pm,an,cd,ct,bu⟩:=fd;simp only [Xf,Wq,Prod.mk.injEq] at e;obtain⟨rfl,rfl,rfl,rfl,rfl,rfl,rfl,rfl,rfl⟩:=e;exact k dV kV doc pm cd ct
theorem Xc{h:AV}{p:Nat×Nat}(hp:notT p.1=Ab)(e:lI h p=Aa (Wq p.2,Ab)):∃dV kV,Mu h p.1 (AA p.2).name (AA p.2).name (AA p.2).args (AA p.2).body (AA p.2).scope [] dV kV/\MS h p.1 dV kV:=by
 refine mK e λ fd h1 h2=>bK h1 λ o h3 h4=>?_;have e2:(hO h fd.name fd.code&&eC h p.1 fd.defaults fd.kwdefaults)=Ab:=congrArg Prod.snd h2;have hd:=bP h4
 revert e2 hd
 refine bQ (fd:=fd) (i:=p.2) (congrArg Wf h2) λ dV kV doc pm cd ct e2 hd=>?_;refine CJ e2 λ h5 h6=>aK h5 λ c h7 h8=>CJ h8 λ nc h9=>aK h9 λ vs h10 h11=>bK h10 λ oc h12 h13=>aK h11 λ q h14 h15=>bK h14 λ v h16 h17=>?_;obtain⟨t,rfl⟩:=QI h17;have h7:cd=_:=Il h7;rw[h7] at hd;rw[Dj h15] at h16;exact⟨dV,kV,.mk o doc pm c oc vs t ct h3 (Io hp) hd (Io nc) h12 (Q1 h13) h16,YL h6⟩
theorem Vu:Fe.all (λ p=>notT p.1)=Ab:=by decide+kernel
theorem vI(e:nF s=nC w):HF s.heap where
 fn:=λ p hp=>by have e1:Fe.map (lI s.heap)=Fe.map λ p=>Aa (Wq p.2,Ab):=congrArg Wf e;exact Xc (Al.mp Vu p hp) (List.map_inj_left.mp e1 p hp)
 ns:=by have e2:uI s.heap=Ab:=congrArg (λ q=>q.2.1) e;exact aK e2 λ q h1 h2=>bK h1 λ o h3 h4=>⟨o,q,h3,h4,h2⟩
 co:=λ p hp=>by have e3:Rs.map (lJ s.heap)=Rs.map λ z=>Ab:=congrArg (λ q=>q.2.2) e;have e4:lJ s.heap p=Ab:=List.map_inj_left.mp e3 p hp;refine aK e4 λ fd h1 h2=>bK h1 λ o h3 h4=>aK h2 λ c h5 h6=>CJ h6 λ nc h7=>aK h7 λ vs h8 h9=>bK h8 λ oc h10 h11=>aK h9 λ P h12 h13=>bK h12 λ v h14 h15=>?_;rw[Il h15,Av h13] at h14;exact⟨o,fd,c,oc,vs,h3,h4,Il h5,Io nc,h10,h11,h14⟩
noncomputable abbrev M4:=PySem.Challenge.rw_ta0089_01
theorem left:LeftO pw F2 H5 (λ s=>xlAt F2 [] s&&recOk [] s) nF nC 2090:=λ w=>by kernel_rfl
theorem sH:OpenLaw.wellSaid M4=Ab:=by decide+kernel
noncomputable def tL(s:CU):Pos:=match s with
 |.FunctionDef _ _ _ _ _ _ _ _ _ p=>p
 |_=>⟨0,0,0,0⟩
def Rp:DefRec:=⟨(AA 35).name,(AA 35).args,(AA 35).body,(AA 35).scope,((PySem.Challenge.pw_ta0089_01.main.body[35]?).map tL).getD ⟨0,0,0,0⟩⟩
theorem cP:defOf F2 M4.row.name=Aa (Rp,[]):=by kernel_rfl
theorem cL:M4.row.prog.theDef M4.row.name=Aa (Rp.params,Rp.body,Rp.scope):=by kernel_rfl
theorem mF:kwWritten? Rp.params.kwonlyargs Rp.params.kw_defaults=Aa []:=by kernel_rfl
theorem mC:(!M4.row.writes||M4.row.records.isEmpty)=Ab:=by kernel_rfl
theorem mD:(chainsOk F2&&opensWell M4.row.prog&&(frees M4.row.toRowW&&M4.row.within.isEmpty))=Ab:=by decide+kernel
theorem XB:M4.row.prog.bare:=⟨by kernel_rfl,by kernel_rfl,by kernel_rfl,by kernel_rfl,by kernel_rfl,by decide+kernel⟩
theorem Xz:M4.row.toRowW.promised:=⟨[.list []],by decide+kernel,by decide+kernel⟩
theorem head(hc:WalkO F2 H5 (XL F2 []) (λ z h=>HF h) M4.row.toRowW Rp [] λ f vs=>PySem.call f vs):M4.Holds:=
 holds_law sH λ said=>holds_open (r:=M4.row) (q:=F2) (loose:=H5) (Xt:=λ s=>xlAt F2 [] s&&recOk [] s) (XP:=XL F2 []) (Yf:=nF) (Ya:=nC) (YP:=λ z h=>HF h) (N:=2090)
  left (λ z z e=>vI e) (λ z z z x k=>x.keeps k) (λ s e=>xl_of s (Bool.and_eq_true_iff.mp e).1) XL.keeps cP cL mF
  (λ s e=>recFacts_of (Bool.and_eq_true_iff.mp e).2) mC said mD XB Xz hc
section
variable{h:AV}
theorem Sy{o:Obj}{vs:Array Ad}(h:o.data=.fields vs):JZ o=Aa vs:=by unfold JZ;rw[h]
theorem lK{o:Obj}{fd:Gl}(h:o.data=.func fd):qV o=Aa fd:=by unfold qV;rw[h]
theorem NL(hg:h.Ns C8 mg)(x:HF h):∀p∈Fe,mg (AA p.2).name=Aa (.ref p.1):=λ p hp=>by
 refine El x.ns λ o q h1 h2 h3=>?_;obtain⟨o',es,ep,g1,g2,_,g4⟩:=hg;obtain rfl:=AE (h1.symm.trans g1);have e:=Pc h2;rw[g2] at e;have e:es=q.1:=by injection e
 refine aK (Al.mp h3 p hp) λ a h4 h5=>bK h4 λ v h6 h7=>?_;rw[<-g4,e,h6,Il h7,Av h5]
theorem WX:Rs.all (λ p=>(recsOf F2).any λ d=>Fe.any λ q=>AG q.1 p.1&&Mi (AA q.2).name d.name)=Ab:=by decide+kernel
theorem R9(T:Top F2 (V6 F2 H5) (IC s'0.heap) mg mb h)(x:HF h):∀p∈Rs,My h p.1 p.2/\∃c,h.TableAt c p.2 #[]:=λ p hp=>by obtain⟨d,hd,hq⟩:=List.any_eq_true.mp (Al.mp WX p hp);obtain⟨q,hq,e⟩:=List.any_eq_true.mp hq;refine CJ e λ e1 e2=>?_;have hm:=NL T.g x q hq;rw[Dj e2,Av e1] at hm;obtain⟨a,o,fd,c,P,h1,h2,h3,h4,h5,h6⟩:=T.tab d hd;have ea:p.1=a:=KE (AE (hm.symm.trans h1));obtain⟨o',fd',c',oc,vs,f1,f2,f3,f4,f5,f6,f7⟩:=x.co p hp;rw[ea] at f1;obtain rfl:=AE (f1.symm.trans h2);obtain rfl:=AE (f2.symm.trans (lK h3));have ec:c'=c:=KE (f3.symm.trans h4);subst ec;obtain⟨oc',vs',k1,_,k2,k3⟩:=h6.1;obtain rfl:=AE (f5.symm.trans k1);obtain rfl:=AE (f6.symm.trans (Sy k2));have eP:p.2=P:=KE (AE (f7.symm.trans k3));rw[eP];refine⟨⟨c',o',fd',by rw[ea];exact h2,Io ?_,h3,h4,f4,.of h5 h6⟩,c',h6⟩;exact Al.mp (by decide+kernel:Rs.all (λ p=>notT p.1)=Ab) p hp
def gvd(x:Str)(i:Int):Bool:=match valOf F2 x with
 |some (.int j)=>decide (j=i)
 |_=>Ai
theorem nG:(Mb.zip Iq).all (λ p=>gvd p.1 p.2)=Ab:=by decide+kernel
theorem dH{x:Str}{i:Int}(h:gvd x i=Ab):valOf F2 x=Aa (.int i):=by
 unfold gvd at h;generalize valOf F2 x=o at h
 induction o with
 |none=>exact nf h
 |some d=>induction d using PyData.casesOn<;>first|exact nf h|rw[of_decide_eq_true h]
theorem uK:Mq.all (λ x=>!(startupNames.contains x)&&!((V6 F2 H5).contains x)&&!(((recsOf F2).map (·.name)).contains x)&&!(((litsOf F2).map (·.1)).contains x)&&!(((clssOf F2 (V6 F2 H5)).map (·.name)).contains x))=Ab:=by decide+kernel
end
section
variable{h:AV}
section
variable{P:Params}{h:AV}
@[elab_as_elim] theorem Wk{v:Ad}{i:Int}(x:Well P h v (.int i)){C:Ad->Prop}(k:∀t,C (.int i t)):C v:=by
 cases x with
 |int _ t=>exact k t
@[elab_as_elim] theorem UY{v:Ad}{i:Int}(x:Reads h v (.int i) []){C:Ad->Prop}(k:∀t,C (.int i t)):C v:=AF (reads_int_inv x) λ t e z=>e▸k t
@[elab_as_elim] theorem UL{v:Ad}{xs:List WData}(x:Well P h v (.list xs)){C:Ad->Prop}(k:∀a vs,h.get? a=Aa {cls:=.type "list",data:=.seq vs.toArray}->WellAll P h vs xs->C (.ref a)):C v:=by
 cases x with
 |list ho hw=>exact k _ _ ho hw
@[elab_as_elim] theorem Tx{l:List Ad}{d:WData}{ds:List WData}(x:WellAll P h l (d::ds)){C:List Ad->Prop}(k:∀v vs,Well P h v d->WellAll P h vs ds->C (v::vs)):C l:=El (wellAll_cons_inv x) λ v vs e a b=>e▸k v vs a b
theorem Wl{l:List Ad}(x:WellAll P h l []):l=[]:=by cases x;rfl
end
theorem Eo{Z:Type}[DecidableEq Z]{l:List Z}{x:Z}(h:(!(l.contains x))=Ab):x∉l:=λ y=>by rw[List.contains_iff_mem.mpr y] at h;cases h
theorem TB(T:Top F2 (V6 F2 H5) (IC s'0.heap) mg mb h)(x:HF h){b:Aj}(t:Tb b):isCodeTable h b/\h.get? b=Aa {cls:=.none,data:=.fields #[]}:=by
 have k:∃c,h.TableAt c b #[]:=by
  refine t.elim (λ e=>?_) λ e=>?_
  ·rw[e];exact(R9 T x (63,58) (.head _)).2
  ·rw[e];exact(R9 T x (70,65) (.tail _ (.head _))).2
 exact Aw k λ c k=>⟨k.isCodeTable,k.2⟩
theorem vJ(T:Top F2 (V6 F2 H5) (IC s'0.heap) mg mb h){k:Nat}{x:Str}(e:Mb[k]?=Aa x):∃(i:Int) (t:Tok),Iq[k]?=Aa i/\mg x=Aa (.int i t):=by have hk:k<4:=(List.getElem?_eq_some_iff.mp e).1;have e2:Iq[k]?=Aa Iq[k]:=Ar hk;have m:(x,Iq[k])∈Mb.zip Iq:=Bi (i:=k) (by rw[List.getElem?_zip_eq_some];exact⟨e,e2⟩);refine AF (T.const x _ (dH (Al.mp nG _ m))) λ v h1 h2=>?_;generalize Iq[k]=i at e2 m h2;exact UY (C:=λ v=>mg x=Aa v->∃(i:Int) (t:Tok),Iq[k]?=Aa i/\mg x=Aa (.int i t)) (h2 h) (λ t h1=>⟨i,t,e2,h1⟩) h1
theorem rK(T:Top F2 (V6 F2 H5) (IC s'0.heap) mg mb h)(x:HF h):Wd mg mb h where
 g:=T.g
 b:=T.b
 nolimit:=T.nolimit
 bi:=T.builtins
 gv:=λ z z e=>vJ T e
 nb:=λ y hy=>by have e:=Al.mp uK y hy;exact Zh e λ e h3 h4 h5=>CJ e λ h1 h2=>T.free y (Eo h1) (Eo h2) (Eo h3) (Eo h4) (Eo h5)
 fn:=λ p hp=>by exact E1 (x.fn p hp) λ dV kV h1 h2=>⟨dV,kV,⟨NL T.g x p hp,h1⟩,h2⟩
 tb:=λ b t=>⟨_,(TB T x t).2⟩
 ta:=λ b t vs e=>.inl (by have e':=e.symm.trans (TB T x t).2;injection e' with e';injection e' with _ _ e' _;injection e')
 co:=λ p hp=>(R9 T x p hp).1
 bm:=by
  refine yY T.bmain λ bm o h1 h2 h3 h4 h5 h6=>⟨bm,o,h1,h2,λ e=>?_,λ t=>?_,h3,h4,h5,h6⟩
  ·obtain⟨o',es,ep,g1,g2,_⟩:=T.g;rw[<-e,h3] at g1;obtain rfl:=sj g1;rw[h6] at g2;cases g2
  ·have e:=(TB T x t).2;rw[h3] at e;obtain rfl:=sj e
   cases h4
theorem bH(T:Top F2 (V6 F2 H5) (IC s'0.heap) mg mb h)(x:HF h){h':AV}(k:DS h h')(W:Wd mg mb h'):OldK h h':=by
 have main:∀b o,h.get? b=Aa o->(h'.get? b=Aa o\/(Tb b/\∃vs,h'.get? b=Aa {cls:=.none,data:=.fields vs})):=λ b o e=>(Classical.em (Tb b)).elim (λ t=>.inr ⟨t,W.tb b t⟩) λ n=>.inl (k b o n e)
 refine⟨λ b o e=>(main b o e).elim .inl λ y=>.inr (.inl ?_),λ b o e=>(main b o e).elim (λ y=>⟨_,y⟩) λ y=>?_⟩
 ·refine A9 y λ t y=>Aw y λ vs e'=>?_;have q:=TB T x t;have eo:=AE (e.symm.trans q.2);rw[eo];exact⟨q.1,rfl,#[],vs,rfl,by rw[e',Array.empty_append]⟩
 ·exact A9 y λ t y=>Aw y λ vs e'=>⟨_,e'⟩
end
theorem dA{R:WRecords}:∀{xs:List WData},WShape.hasItems R xs .int=Ab->∃ns:List Int,xs=ns.map .int:=@λ I0=>by
 induction I0 with
 |nil=>exact@λ _=>⟨[],rfl⟩
 |cons x xs IH=>intro h;exact CJ (a:=WShape.has R x .int) h λ h1 h2=>Aw (hasW_int h1) λ i e=>Aw (IH h2) λ ns e'=>⟨i::ns,by rw[e,e'];rfl⟩
theorem Ze{args:List WData}(h:M4.row.claim.pre args=Ab):∃ns:List Int,args=[.list (ns.map .int)]/\ns.length<64:=by
 refine A9 (pre_splitW (r:=M4.row.toRowW) h) λ h1 h2=>El (hasAllW_cons h1) λ d r e h3 h4=>AF (hasW_list h3) λ xs e' h5=>Aw (dA h5) λ ns e''=>?_;have eq:args=[.list (ns.map .int)]:=by rw[e,e',e'',hasAllW_nil h4]
 refine⟨ns,eq,?_⟩;rw[eq] at h2;have hv:M4.row.pre.value M4.row.records {args:=[.list (ns.map .int)]}=Aa (.bool (!(decide ((63:Int)<((ns.map WData.int).length:Int)))&&Ab)):=
  w_and (w_not (w_lt w_lit (w_len_list (w_arg rfl)))) w_lit
 rw[holdsW_of_value hv,xY,BG,decide_eq_false_iff_not,Ag] at h2
 omega
theorem aT{P:Params}{h:AV}{ns:List Int}{vs:List Ad}(x:WellAll P h vs (ns.map .int)):AI h (λ z=>False) (ns.map V.int) vs:=by
 induction ns generalizing vs with
 |nil=>exact Wl x
 |cons n ns ih=>exact Tx (C:=λ l=>AI h (λ z=>False) ((n::ns).map V.int) l) (d:=.int n) (ds:=ns.map .int) x λ v vs a b=>⟨v,vs,rfl,Wk (C:=λ v=>∃t,v=.int n t) a λ t=>⟨t,rfl⟩,ih b⟩
def iG:Prop:=∀(mg mb:Str->Option Ad) (w:B2) (A:Br) (s:Af) (us:List Ad) (ns:List Int),ns.length<64->BQ 100 A->A.frames=Aa []->GI mg mb s->AI s.heap (λ z=>False) [.list (ns.map .int)] us->
 Ok mg mb w A s (C2 (.ref 203) us) λ z v=>v=.bool Ab
theorem aY{args:List WData}:M4.row.claim.post args (.bool Ab) args=Ab:=
 postW_of (by decide+kernel) (w_eq (w_res rfl) w_lit) (by decide+kernel)
theorem RE:BQ 100 callerA:=⟨rfl,by decide,by decide,⟨_,rfl⟩⟩
theorem vU(law:iG):M4.Holds:=head λ w s'0 s'1 mg mb G Y a o pm cd doc dV kV ho hd hcd hD hmg hg args vals as hpre hlay hrd hwl hlo=>by
 have ea:mg Rp.name=Aa (.ref 203):=NL G.T.g Y (203,35) (by decide);obtain rfl:a=203:=KE (AE (hmg.symm.trans ea));refine AF (Ze hpre) λ ns e hl=>?_;subst e;refine Tx (C:=λ vals=>As (An M4.row.prog w) callerA (C2 (.ref 203) vals []) _ _ s'1) (d:=.list (ns.map .int)) (ds:=[]) hwl λ v vs x y=>?_;rw[Wl y];refine UL (C:=λ v=>As (An M4.row.prog w) callerA (C2 (.ref 203) [v] []) _ _ s'1) x λ a us ho' hw=>?_;refine law mg mb w callerA s'1 _ ns hl RE rfl ⟨rK G.T Y,.of_eq hg⟩ ⟨_,_,rfl,⟨?_,_,_,rfl,(λ h=>by cases h),⟨_,ho'⟩,aT hw⟩,rfl⟩ _ _ λ s' v g t ev=>?_
 ·rw[Ag];exact Ak (B9 hl) (by decide)
 ·subst ev;exact⟨.inl ⟨_,.bool Ab,[],rfl,λ z=>rfl,.bool Ab,aY,λ z=>⟨.nil,(λ _ h=>absurd h List.not_mem_nil)⟩⟩,bH G.T Y t.keep g.wd,t.os,g.bare⟩
theorem oL:Dh 35 ["script"]=Ab:=by decide+kernel
theorem Xy:lk "script" (C0 (AA 35)).acc=Aa 0/\lk "script" (C0 (AA 35)).sc=Aa .local:=by decide+kernel
theorem Xo(N:AJ K C env){z:Str}{i:Nat}(h:lk z K.acc=Aa i)(hk:env.kindOf z=Aa .local):C.loc i=.dict env.locals z:=by
 have a:rF env z (C.loc i):=N.acc z i h;generalize C.loc i=l at a
 induction l with
 |no=>exact a.elim
 |dict D y=>(refine Db a λ e1 u e2=>?_;rw[e1,e2])
 |cell c=>have a:=a.1;rw[hk] at a;exact a.elim (λ h=>by cases h) (λ h=>by cases h)
theorem XA(L:V8 (C0 (AA 35)) C env Lf A)(hG:BQ 95 A){ns:List Int}(R:Oq ns):∃U',Oz mg mb w C A (Ei [.list (ns.map .int)] 74) (B4 Lz env) (.ret (.bool Ab)) U':=by
 induction R with
 |mk ρ1 ρ2 ρ3 ρ4 rs v h1 h2 h3 h4 h5 h6 h7=>
  have S:=vM (mg:=mg) (mb:=mb) (w:=w) 12;have X:Sx mg mb w (GL 12) 94 64 A:=fV S.1 S.2 (by decide) A hG;have N:=L.N;have l5:Oz mg mb w C A ρ3 (B4 (Lz.drop 23) env) (.ret (.bool Ab)) ρ4:=.of (HS X _ _ _ _ _ _ _ N mG h7);have l4:=Oz.cons (WE X.X L RB h4 h5 h6) l5;have l3:=Oz.pre X N mH h3 l4;have l2:Oz mg mb w C A ρ1 (DP (Pj 8) env) .next ρ2:=by
   rcases h2 with h2|⟨xs,e1,e2,e3,e4,e5,e6,e7⟩
   ·exact .of (Sn X _ _ _ _ _ _ _ N mI h2)
   ·rw[e7];exact jA X.X L VE e2 e3 e4 e1 e5 λ ys e=>by rw[e6] at e;cases e
  have l1:=Oz.pre X N mJ h1 (Oz.cons l2 l3);rw[<-cQ] at l1;exact⟨ρ4,l1⟩
theorem XC(R:∀ns:List Int,ns.length<64->Oq ns):iG:=λ mg mb w A s us ns hl hA hf g hr Q E k=>by
 refine KU (ns:=74) (key:=Ae) (pn:=["script"]) (m:=95) (by decide) oL (by decide+kernel) (DE (by decide) tQ) rfl rfl (hA.less (by decide)) g (λ z h=>h.elim) hr λ C dV kV doc pm c ct o s'1 e1 e2 ho hdat hLn N I t'1 hG hns=>?_;have hk:=N.loc "script" Xy.2;have L:V8 (C0 (AA 35)) C (Dp 35 dV kV doc pm (.ref c) ct s.heap.objs.size 203) s.heap.objs.size (A.deeper (Dp 35 dV kV doc pm (.ref c) ct s.heap.objs.size 203)):=
  ⟨N,BH hf,rfl,⟨0,"script",Xo N Xy.1 hk⟩,hG.less (by decide)⟩
 refine Aw (XA (mg:=mg) (mb:=mb) (w:=w) L hG (R ns hl)) λ U' h=>h _ s'1 I _ _ λ J' s' f I' go ok=>AF ok λ v H hv=>?_;subst H;exact k s' v I'.gi ⟨by rw[<-e2];exact I'.keep,λ i x e=>go.gens i x (t'1.gens i x e),go.os.trans t'1.os⟩ hv
theorem XX(R:∀ns:List Int,ns.length<64->Oq ns):M4.Holds:=vU (XC R)
noncomputable abbrev I(n:Nat):V:=.int n
theorem Fj{x:Int}{n:Nat}(h:x.natAbs<2^n):BV x<=n:=by
 unfold BV
 by_cases e:x=0
 ·subst e;exact Bj _
 ·rw[if_neg (by simpa using e)];exact(Nat.log2_lt (Int.natAbs_ne_zero.mpr e)).mpr h
theorem Oi(x y:Nat):HL x y=(x&&&y:Nat):=by unfold HL;rw[decide_eq_true (AZ x),decide_eq_true (AZ y)];rfl
theorem Py(x y:Nat):K5 x y=(x|||y:Nat):=by
 have n:∀z:Nat,decide (0<=-(z:Int) - 1)=Ai:=λ z=>decide_eq_false (by omega);have t:∀z:Nat,(-(-(z:Int) - 1) - 1).toNat=z:=λ z=>by lia
 unfold K5 HL OX;rw[n,n];show -(-(((-(-(x:Int) - 1) - 1).toNat|||(-(-(y:Int) - 1) - 1).toNat:Nat):Int) - 1) - 1=_;rw[t,t];lia
theorem lA{b i:Nat}(h:b<2^i)(a:Nat):a*2^i|||b=a*2^i+b:=by rw[Bg,Nat.two_pow_add_eq_or_of_lt h]
theorem ZC(x k:Nat):Dq x ((x/2^k*2^k:Nat):Int)=(x%2^k:Nat):=by
 have h:=DH x (A3 k);have e:x=2^k*(x/2^k)|||x%2^k:=by rw[<-Nat.two_pow_add_eq_or_of_lt h,BR]
 have e1:x|||x/2^k*2^k=x:=by
  rw[Bg (x/2^k)]
  conv=>lhs;lhs;rw[e]
  rw[Nat.or_comm,<-Nat.or_assoc,Nat.or_self];exact e.symm
 have e2:x&&&x/2^k*2^k=x/2^k*2^k:=by
  conv=>lhs;lhs;rw[<-e1]
  rw[Nat.and_comm,Nat.or_comm,Nat.and_or_distrib_left,Nat.and_self];refine Nat.eq_of_testBit_eq λ i=>?_;rw[Nat.testBit_or,Nat.testBit_and]
  cases Nat.testBit (x/2^k*2^k) i<;>simp
 unfold Dq;rw[Oi,Py,e1,e2];have:=BR x (2^k);rw[Bg] at this;exact Int.sub_eq_iff_eq_add'.mpr (congrArg Nat.cast (id (Eq.symm this)))
theorem MD(a n:Nat):Cj .shr (I a) (I n)=Aa (I (a/2^n)):=by show(if(0:Int)<=n then Aa (V.int ((a:Int).fdiv (2^(n:Int).toNat))) else Ae)=_;rw[if_pos (AZ n),Cd,ID _ (Int.le_of_lt (Int.pow_pos (by decide)))];show Aa (V.int _)=Aa (V.int _);rw[Int.natCast_ediv,Int.natCast_pow];rfl
theorem Ku{a n m:Nat}(h:a<2^m)(k:m+n<=134217728):Cj .shl (I a) (I n)=Aa (I (a*2^n)):=by have hb:BV a<=m:=Fj h;show(if(0:Int)<=n/\(BV a:Int)+n<=134217728 then Aa (V.int ((a:Int)*2^(n:Int).toNat)) else Ae)=_;rw[if_pos ⟨AZ n,by lia⟩,Cd];show Aa (V.int _)=Aa (V.int _);rw[HO,Int.natCast_pow];rfl
theorem Uw(a n:Nat):Cj .band (I a) (I (2^n - 1))=Aa (I (a%2^n)):=by show Aa (V.int (HL _ _))=_;rw[Oi,Nat.and_two_pow_sub_one_eq_mod]
theorem uF{b i:Nat}(h:b<2^i)(a:Nat):Cj .bor (I (a*2^i)) (I b)=Aa (I (a*2^i+b)):=by show Aa (V.int (K5 _ _))=_;rw[Py,lA h]
theorem NO{a b:Int}{n:Nat}(ha:a.natAbs<2^n)(hb:b.natAbs<2^n)(hn:n<=1048576):Cj .mul (.int a) (.int b)=Aa (.int (a*b)):=by show(if BV a<=1048576/\BV b<=1048576 then Aa (V.int (a*b)) else Ae)=_;rw[if_pos ⟨Ak (Fj ha) hn,Ak (Fj hb) hn⟩]
theorem MK{a b n:Nat}(ha:a<2^n)(hb:b<2^n)(hn:n<=1048576):Cj .mul (I a) (I b)=Aa (I (a*b)):=by rw[show Cj .mul (I a) (I b)=_ from NO ha hb hn];rfl
theorem QO{a b:Nat}(h:b<=a):Cj .sub (I a) (I b)=Aa (I (a - b)):=by show Aa (V.int _)=Aa (V.int _);rw[Int.ofNat_sub h]
theorem nX(a b:Nat):Cj .eq (I a) (I b)=Aa (.bool (a==b)):=by
 show Aa (V.bool ((a:Int)==b))=_
 by_cases h:a=b
 ·subst h;simp
 ·rw[beq_false_of_ne h,beq_false_of_ne (Nat.ToInt.of_diseq rfl rfl h)]
theorem NJ{x y:Int}(h:BV x<=BV y+4000):A7 x y=Ai:=by
 unfold BV at h;unfold A7;rw[Bool.and_eq_false_iff]
 by_cases hx:x=0
 ·subst hx;right;exact decide_eq_false (by show¬0>_;exact HP ((λ n=>if(n==0)=Ab then 0 else n.natAbs.log2/30+1) y+150))
 ·by_cases hy:y=0
  ·subst hy;left;rfl
  ·right;rw[if_neg (by simpa using hx),if_neg (by simpa using hy)] at h;refine decide_eq_false ?_;show¬(if(x==0)=Ab then 0 else x.natAbs.log2/30+1)>(if(y==0)=Ab then 0 else y.natAbs.log2/30+1)+150;rw[if_neg (by simpa using hx),if_neg (by simpa using hy)]
   lia
theorem YJ{a b:Nat}(h0:0<b)(h:BV a<=BV b+4000):Cj .divmod (I a) (I b)=Aa (.tup [I (a/b),I (a%b)]):=by show(if(b:Int)≠0/\A7 (a:Int) b=Ai then Aa (V.tup [.int ((a:Int).fdiv b),.int ((a:Int).fmod b)]) else Ae)=_;rw[if_pos ⟨Int.natCast_ne_zero_iff_pos.mpr h0,NJ h⟩,ID _ (AZ b),IE _ (AZ b)];rfl
noncomputable def Kj(n x:Nat):Nat->List Nat
 |0=>[]
 |k+1=>x%2^n::Kj n (x/2^n) k
noncomputable def val(n:Nat):List Nat->Nat
 |[]=>0
 |x::r=>x+2^n*val n r
theorem Rn(n:Nat):∀k x,(Kj n x k).length=k:=λ I0=>by
 induction I0 with
 |zero=>exact λ _=>rfl
 |succ k IH=>exact λ x=>congrArg (·+1) (IH _)
theorem YK(n:Nat):∀a b x,Kj n x (a+b)=Kj n (x%2^(n*a)) a++Kj n (x/2^(n*a)) b:=λ I0=>by
 induction I0 with
 |zero=>intro b x;rw[CW,Km,Kp,Nat.div_one];rfl
 |succ a IH=>
  intro b x;have e:2^(n*(a+1))=2^n*2^(n*a):=by rw[GE,Kq,CF]
  have e1:x%2^(n*(a+1))%2^n=x%2^n:=by rw[e];exact Nat.mod_mul_right_mod x _ _
  have e2:x%2^(n*(a+1))/2^n=x/2^n%2^(n*a):=by rw[e];exact Nat.mod_mul_right_div_self x _ _
  have e3:x/2^(n*(a+1))=x/2^n/2^(n*a):=by rw[e,Nat.div_div_eq_div_mul]
  rw[Nat.add_right_comm];show x%2^n::Kj n (x/2^n) (a+b)=(x%2^(n*(a+1))%2^n::Kj n (x%2^(n*(a+1))/2^n) a)++_;rw[IH b,e1,e2,e3];rfl
theorem Wn(n:Nat):∀k x,x<2^(n*k)->val n (Kj n x k)=x:=λ I0=>by
 induction I0 with
 |zero=>intro x h;rw[Km,Kp] at h;show 0=x;lia
 |succ k IH=>intro x h;show x%2^n+2^n*val n (Kj n (x/2^n) k)=x;rw[IH _ (BJ (by rw[<-CF,Kq,<-GE];exact h)),Kq,BR]
theorem dZ(n:Nat):∀k x,∀d∈Kj n x k,d<2^n:=λ I0=>by
 induction I0 with
 |zero=>exact λ _ _ h=>(absurd h List.not_mem_nil)
 |succ k IH=>
  intro x d h;rcases AL.mp h with h|h
  ·rw[h];exact DH _ (A3 n)
  ·exact IH _ d h
theorem ZI(n:Nat):∀a b,val n (a++b)=val n a+2^(n*a.length)*val n b:=λ I0=>by
 induction I0 with
 |nil=>intro b;show val n b=0+2^(n*0)*val n b;rw[Km,Kp,PJ,CW]
 |cons x a IH=>intro b;show x+2^n*val n (a++b)=x+2^n*val n a+2^(n*(a.length+1))*val n b;rw[IH b,GE,CF,Fh,D8,Bg (2^(n*a.length)) (2^n),Hl]
theorem iL(n:Nat):∀a,(∀d∈a,d<2^n)->val n a<2^(n*a.length):=λ I0=>by
 induction I0 with
 |nil=>intro _;show 0<_;exact A3 _
 |cons x a IH=>
  intro h;have h1:=h x (.head _);have h2:=IH λ d hd=>h d (.tail _ hd);show x+2^n*val n a<2^(n*(a.length+1));rw[GE,CF,Bg (2^(n*a.length))];have:=Bf (2^n) h2;rw[GE] at this
  omega
noncomputable def Dt(n b:Nat):List Nat->List Nat×Nat
 |[]=>([],0)
 |x::r=>(((Dt n b r).2*2^n+x)/b::(Dt n b r).1,((Dt n b r).2*2^n+x)%b)
theorem NP{n b:Nat}(hb:0<b):∀l,(Dt n b l).2<b/\b*val n (Dt n b l).1+(Dt n b l).2=val n l:=λ I0=>by
 induction I0 with
 |nil=>exact⟨hb,rfl⟩
 |cons x r IH=>
  have ih:=(IH).2;refine⟨DH _ hb,?_⟩;show b*(((Dt n b r).2*2^n+x)/b+2^n*val n (Dt n b r).1)+((Dt n b r).2*2^n+x)%b=x+2^n*val n r;rw[Fh,Nat.add_right_comm,BR,<-ih,Fh,Nat.mul_left_comm,Bg (2^n) (Dt n b r).2]
  lia
theorem Xn{n b:Nat}(hb:0<b):∀l,(∀d∈l,d<2^n)->∀d∈(Dt n b l).1,d<2^n:=λ I0=>by
 induction I0 with
 |nil=>exact λ _ _ h=>(absurd h List.not_mem_nil)
 |cons x r IH=>
  intro hl d h;rcases AL.mp h with h|h
  ·rw[h];refine BJ ?_;have h1:=(NP (n:=n) hb r).1;have h2:=hl x (.head _);have:=BK (2^n) h1;rw[GF] at this
   omega
  ·exact IH (λ d hd=>hl d (.tail _ hd)) d h
theorem Ph{n b:Nat}:∀l,(Dt n b l).1.length=l.length:=λ I0=>by
 induction I0 with
 |nil=>exact rfl
 |cons x r IH=>exact congrArg (·+1) (IH)
theorem Uf{k d:Nat}(h:k<=2^(d+1)):k/2<=2^d/\k - k/2<=2^d:=by rw[CX] at h;omega
theorem gL(L k:Nat):((Cj .shr (.int ((L:Int)+(L+k:Nat))) (.int 1)).bind Bb)=Aa ((L+k/2:Nat):Int):=by have e:=MD (L+(L+k)) 1;rw[show(L+(L+k))/2^1=L+k/2 by lia] at e;rw[show Cj .shr (.int ((L:Int)+(L+k:Nat))) (.int 1)=Aa (I (L+k/2)) from e];rfl
theorem sF{L a n:Nat}(ha:a<2^1000000)(hn:n<2^1000000):((Cj .mul (.int ((L+a:Nat) - (L:Int))) (.int n)).bind Bb)=Aa ((a*n:Nat):Int):=by have e:((L+a:Nat):Int) - (L:Int)=a:=Int.sub_eq_iff_eq_add'.mpr rfl;rw[e,show Cj .mul (.int a) (.int n)=_ from MK ha hn (by decide)];rfl
theorem IK{a m:Nat}(h:a<=m):a<2^m:=Bc h Nat.lt_two_pow_self
theorem bS{Z O:Type}{o:Option Z}{f:Z->Option O}{a:Z}{r:Option O}(h:o=Aa a)(k:f a=r):o.bind f=r:=h▸k
theorem XZ{K d:Nat}(q:1<K)(h:K<=2^(d+1)){C:Prop}(k:∀a b,K/2=a->K=a+b->0<a->0<b->a<=2^d->b<=2^d->C):C:=
 k (K/2) (K - K/2) rfl (Nat.add_sub_cancel' (Nat.div_le_self K 2)).symm (Nat.div_pos q (by decide)) (Nat.sub_pos_of_lt (Nat.div_lt_self (Nat.lt_of_succ_lt q) (by decide))) (Uf h).1 (Uf h).2
theorem Xl{L a b:Nat}(a0:0<a)(b0:0<b):¬(L:Int)+1=(L+(a+b):Nat):=λ q=>absurd (Nat.add_left_cancel (Int.ofNat.inj q)) (Ci (Nat.add_le_add a0 b0))
theorem ofK{o:Option V}{a:Int}(h:o=Aa (.int a)):o.bind Bb=Aa a:=by rw[h];rfl
theorem big{a b:Nat}(x:a<=1000000)(y:b<=1000000):a+b<=134217728:=Ak (Nat.add_le_add x y) (by decide)
theorem Rd{n d x L:Nat}{xs:List V}(hx:x<2^(n*1))(hl:L+1<=xs.length):KT (d+1) n x L (L+1:Nat) xs=Aa (xs.take L++((Kj n x 1).map I++xs.drop (L+1))):=by have c:(0:Int)<=L/\(L:Int).toNat<xs.length:=⟨AZ L,hl⟩;have e:KT (d+1) n x L (L+1:Nat) xs=Aa (xs.set L (.int x)):=(if_pos (show(L:Int)+1=(L+1:Nat) from rfl)).trans (if_pos c);rw[e,List.set_eq_take_append_cons_drop,if_pos (show L<xs.length from hl)];show _=Aa (xs.take L++(I (x%2^n)::xs.drop (L+1)));rw[O0 (PK n▸hx)]
theorem dC{n:Nat}(hn:0<n)(d x L k:Nat)(xs:List V)(hk:0<k)(h:k<=2^d)(hx:x<2^(n*k))(hl:L+k<=xs.length)(hz:n*k<=1000000):KT (d+1) n x L (L+k:Nat) xs=Aa (xs.take L++((Kj n x k).map I++xs.drop (L+k))):=by
 induction d generalizing x L k xs with
 |zero=>obtain rfl:k=1:=EP h hk;exact Rd hx hl
 |succ d ih=>
  rcases CV 1 k with q|q
  ·refine XZ q h λ a b e eK a0 b0 ha hb=>?_;subst eK;rw[Fh] at hz hx;rw[CF] at hx;rw[<-D8] at hl;have hLa:=Nat.le_of_add_right_le hl;have hL:=Nat.le_of_add_right_le hLa;have za:=Nat.le_of_add_right_le hz;have zb:=Nat.le_of_add_left_le hz;have m1:=gL L (a+b);rw[e] at m1;have m2:=sF (L:=L) (IK (Ak (Cz a hn) za)) (IK (Ak (Ev n a0) za));rw[Bg a n] at m2;have hu:=BJ hx;have i1:=ih (x%2^(n*a)) L a xs a0 ha (DH _ (A3 _)) hLa za;have el:(xs.take L++(Kj n (x%2^(n*a)) a).map I).length=L+a:=by rw[AB,Dv,Ag,Rn,EQ hL]
   have i2:=ih (x/2^(n*a)) (L+a) b (xs.take L++(Kj n (x%2^(n*a)) a).map I++xs.drop (L+a)) b0 hb hu (by rw[AB,el,BS,Nat.add_sub_cancel' hLa];exact hl) zb;have t2:∀P:List V,P.length=L+a->List.drop (L+a+b) (P++xs.drop (L+a))=xs.drop (L+(a+b)):=λ P h=>by rw[<-Ij,List.drop_left' h,Ij,D8]
   rw[List.take_left' el,t2 _ el,D8] at i2;refine(if_neg (Xl a0 b0)).trans (bS m1 (bS m2 (bS (ofK (MD x (n*a))) (bS (ofK (Ku hu (big zb za))) ?_))));rw[ZC];refine bS i1 ?_;rw[<-A0];refine i2.trans ?_;rw[YK,C5,A0,A0]
  ·obtain rfl:k=1:=EP q hk;exact Rd hx hl
theorem SP{Z:Type}{xs:List Z}{i:Nat}(h:i<xs.length)(hz:xs.length<=1000000):JD xs i=Aa xs[i]:=by
 unfold JD Nt;rw[if_pos (by rw[Co];exact⟨decide_eq_true (Int.neg_ofNat_le_natCast 1000000000000 i),decide_eq_true (by lia)⟩)];have e:E7 (i:Int) xs.length=Aa i:=by
  unfold E7;simp
  lia
 rw[e];exact Ar h
theorem Rc{n:Nat}(hn:0<n){ds:List Nat}(hl:n*ds.length<=1000000){d L:Nat}(h:L+1<=ds.length):NR (d+1) n (ds.map I) L (L+1:Nat)=Aa ((val n ((ds.drop L).take 1):Nat):Int):=by
 have hz:(ds.map I).length<=1000000:=Ag (as:=ds) I▸Ak (Cz _ hn) hl;refine(if_pos (show(L:Int)+1=(L+1:Nat) from rfl)).trans (bS (SP (Ag (as:=ds) I▸h) hz) ?_);rw[List.drop_eq_getElem_cons h,List.getElem_map]
 rfl
theorem dB{n:Nat}(hn:0<n){ds:List Nat}(hd:∀x∈ds,x<2^n)(hl:n*ds.length<=1000000)(d L k:Nat)(hk:0<k)(h:k<=2^d)(hLk:L+k<=ds.length):NR (d+1) n (ds.map I) L (L+k:Nat)=Aa ((val n ((ds.drop L).take k):Nat):Int):=by
 induction d generalizing L k with
 |zero=>obtain rfl:k=1:=EP h hk;exact Rc hn hl hLk
 |succ d ih=>
  rcases CV 1 k with q|q
  ·refine XZ q h λ a b e eK a0 b0 ha hb=>?_;subst eK;have hK:=hLk;rw[<-D8] at hLk;have hLa:=Nat.le_of_add_right_le hLk;have zl:∀m,m<=ds.length->n*m<=1000000:=λ m hm=>Ak (Bf n hm) hl;have za:=zl a (Nat.le_of_add_left_le hLa);have m1:=gL L (a+b);rw[e] at m1;have m2:=sF (L:=L) (IK (Ak (Cz a hn) za)) (IK (Ak (Ev n a0) za));rw[Bg a n] at m2;have i1:=ih (L+a) b b0 hb hLk;have i2:=ih L a a0 ha hLa;have lb:((ds.drop (L+a)).take b).length=b:=by rw[Dv,BS,EQ (Nat.le_sub_of_add_le' hLk)]
   have la:((ds.drop L).take a).length=a:=by rw[Dv,BS,EQ (Nat.le_sub_of_add_le' hLa)]
   have hv:=iL n ((ds.drop (L+a)).take b) λ x hx=>hd x (List.mem_of_mem_drop (List.mem_of_mem_take hx));rw[lb] at hv;rw[<-D8];refine(if_neg (D8 L a b▸Xl a0 b0)).trans (bS (D8 L a b▸m1) (bS m2 (bS i1 (bS (ofK (Ku hv (big (zl b (Nat.le_of_add_left_le hLk)) za))) ?_))));rw[i2];show Aa (((val n ((ds.drop (L+a)).take b)*2^(n*a):Nat):Int)+(val n ((ds.drop L).take a):Nat))=_;rw[List.take_add,Ij,ZI,la,<-HQ,Bg,Kq (val n (List.take a _))]
  ·obtain rfl:k=1:=EP q hk;exact Rc hn hl hLk
section
variable{a b c e:Ex}{x y z:V}{es:Fu}{vs:List V}
theorem H4{o:O1}(ha:ev G a U=Aa x)(h:QA o x=Aa z):ev G (.o1 o a) U=Aa z:=by show(ev G a U).bind (QA o)=_;rw[ha];exact h
theorem AO{o:O2}(ha:ev G a U=Aa x)(hb:ev G b U=Aa y)(h:Cj o x y=Aa z):ev G (.o2 o a b) U=Aa z:=by show((ev G a U).bind λ u=>(ev G b U).bind (Cj o u))=_;rw[ha];show(ev G b U).bind (Cj o x)=_;rw[hb];exact h
theorem TA{t:Bool}(hc:ev G c U=Aa x)(ht:truthy x=Aa t)(h:(if t then ev G a U else ev G b U)=Aa z):ev G (.f c a b) U=Aa z:=by show(((ev G c U).bind truthy).bind λ t=>Ca t (ev G a U) (ev G b U))=_;rw[hc];show((truthy x).bind λ t=>Ca t (ev G a U) (ev G b U))=_;rw[ht];cases t<;>exact h
theorem CB{f:Nat}{key:Option Nat}(h:IS G es U=Aa vs)(k:G f vs key=Aa z):ev G (.call f es key) U=Aa z:=by show((IS G es U).bind λ vs=>G f vs key)=_;rw[h];exact k
theorem O4(h:IS G es U=Aa vs):ev G (.tup es) U=Aa (.tup vs):=by show(IS G es U).map V.tup=_;rw[h];rfl
theorem Tz(h:IS G es U=Aa vs):ev G (.l es) U=Aa (.list vs):=by show(IS G es U).map V.list=_;rw[h];rfl
theorem BW:IS G .nil U=Aa []:=rfl
theorem AC(h:ev G e U=Aa v)(k:IS G es U=Aa vs):IS G (.cons e es) U=Aa (v::vs):=by show((ev G e U).bind λ v=>(IS G es U).map λ vs=>v::vs)=_;rw[h];show((IS G es U).map λ vs=>v::vs)=_;rw[k];rfl
theorem DK{us:List Nat}{t:Tg}{it:It}{cond:Fu}{elt:Ex}{xs ys:List V}(hi:EU G it U=Aa xs)(hn:noOwn us U=Ab)(h:Eb (λ x=>(Ck t x (Du us U)).bind (ED (CC G cond) (ev G elt))) xs=Aa ys)(hs:ys.length<=CN):ev G (.comp us t it cond elt) U=Aa (.list ys):=by show(EU G it U).bind (JK us t (ED (CC G cond) (ev G elt)) U)=_;rw[hi];show JK us t (ED (CC G cond) (ev G elt)) U xs=_;unfold JK;rw[if_pos hn,h];exact if_pos hs
theorem R5{l k s:Ex}{vl vk vs:V}(ha:ev G a U=Aa x)(hl:ev G l U=Aa vl)(hk:ev G k U=Aa vk)(hs:ev G s U=Aa vs)(h:P9 x vl vk vs=Aa z):ev G (.sl a l k s) U=Aa z:=by show((ev G a U).bind λ x=>(ev G l U).bind λ l=>(ev G k U).bind λ h=>(ev G s U).bind (P9 x l h))=_;rw[ha];show((ev G l U).bind λ l=>(ev G k U).bind λ h=>(ev G s U).bind (P9 x l h))=_;rw[hl];show((ev G k U).bind λ h=>(ev G s U).bind (P9 x vl h))=_;rw[hk];show((ev G s U).bind (P9 x vl vk))=_;rw[hs];exact h
theorem QH{xs:List V}(h:ev G e U=Aa v)(k:On v=Aa xs):EU G (.ex e) U=Aa xs:=by show(ev G e U).bind On=_;rw[h];exact k
theorem Cc{i:Nat}(h:ev G e U=Aa v):CD G F (.asg i e) U=Aa (.next,wr U i (.w v)):=by show(ev G e U).map _=_;rw[h];rfl
theorem QT{is:List Nat}{fs:List Bool}(h:IS G es U=Aa vs)(k:Kv is fs vs U=Aa U'):CD G F (.t is fs es) U=Aa (.next,U'):=by show((IS G es U).bind λ vs=>(Kv is fs vs U).map λ U'=>(Fl.next,U'))=_;rw[h];show((Kv is fs vs U).map λ U'=>(Fl.next,U'))=_;rw[k];rfl
theorem Ap{s:St}{r:E5}{p:Fl×AQ}(h:CD G F s U=Aa (.next,U'))(k:Bw G F r U'=Aa p):Bw G F (.cons s r) U=Aa p:=by show((CD G F s U).bind λ x=>E9 x (Bw G F r))=_;rw[h];exact k
end
theorem IL{n:Nat}(h:Ie n 1000=Ab):n<=CN:=Ak (AN h) (by decide)
theorem L4{Z O:Type}(f:Z->O)(xs:List Z)(lo hi st:Option Int):EA (xs.map f) lo hi st=(EA xs lo hi st).map f:=by unfold EA;rw[Ag,List.map_filterMap];exact congrArg (λ g=>QD g _) (funext λ i=>Ba)
noncomputable def FR(xs:List Int):Int:=xs.foldr (·+·) 0
theorem Ld:∀xs:List Int,PM (xs.map .int)=Aa (FR xs):=λ I0=>by
 induction I0 with
 |nil=>exact rfl
 |cons x r IH=>show(PM (r.map .int)).map (x+·)=_;rw[IH];rfl
theorem Mj{f:V->Option (List V)}{g:V->V}:∀{xs:List V},(∀x∈xs,f x=Aa [g x])->Eb f xs=Aa (xs.map g):=@λ I0=>by
 induction I0 with
 |nil=>exact@λ _=>rfl
 |cons x r IH=>intro h;show((f x).bind λ ys=>(Eb f r).map λ zs=>ys++zs)=_;rw[h x (.head _),IH λ y hy=>h y (.tail _ hy)];rfl
theorem Ej{f:V->Option (List V)}{x:V}{xs ys zs:List V}(h:f x=Aa ys)(k:Eb f xs=Aa zs):Eb f (x::xs)=Aa (ys++zs):=by show((f x).bind λ ys=>(Eb f xs).map λ zs=>ys++zs)=_;rw[h,k];rfl
def Gv(ns:List Int):List Int:=(EA ns Ae (Aa 60) Ae).map λ d=>d.fmod 5040
def cell(ns:List Int)(b k:Int):Int:=b+FR (EA (Gv ns) (Aa k) Ae (Aa 4))
def ρ0(ns:List Int):AQ:=Ei [.list (ns.map .int)] 74
noncomputable def E4:V:=.list [.int 9,.int 23,.int 0,.int 5]
def ρ1(ns:List Int):AQ:=wr (wr (ρ0 ns) 1 (.w (.list ((Gv ns).map .int)))) 2 (.w E4)
def ρA(ns:List Int):AQ:=wr (ρ1 ns) 3 (.w (.list [.int (cell ns 9 0),.int (cell ns 23 1),.int (cell ns 0 2),.int (cell ns 5 3)]))
section
variable{ns:List Int}
theorem Pi(h:ns.length<64):(Gv ns).length<64:=by unfold Gv;rw[Ag];exact Bc (Im ns Ae (Aa 60) Ae) h
theorem jO(h:ns.length<64):CD G F (C1 0 A4) (ρ0 ns)=Aa (.next,ρ1 ns):=by
 refine QT (vs:=[.list ((Gv ns).map .int),E4]) (AC (DK (xs:=EA (ns.map .int) Ae (Aa 60) Ae) rfl rfl ?_ ?_) rfl) rfl
 ·rw[L4,Mj (g:=λ v=>match v with|.int d=>.int (d.fmod 5040)|_=>.none) λ x hx=>?_]
  ·unfold Gv;rw[BF,BF];rfl
  ·obtain⟨d,_,rfl⟩:=List.mem_map.mp hx
   rfl
 ·rw[Ag];exact Ak (B9 (Pi h)) (by decide)
def Pr(G:EZ)(ns:List Int)(x:V):Option (List V):=(Ck (.one 40) x (Du [40] (ρ1 ns))).bind (ED (CC G .nil) (ev G (.o2 .a (.o2 .i (.v 2) (.v 40)) (.o1 .sum (.sl (.v 1) (.v 40) .a (.c (.int 4)))))))
theorem jN:CD G F (C1 1 A4) (ρ1 ns)=Aa (.next,ρA ns):=by
 have k:∀(b k:Int),Cj .a (.int b) (.int (FR (EA (Gv ns) (Aa k) Ae (Aa 4))))=Aa (.int (cell ns b k)):=λ z z=>rfl;have s:∀k:Int,QA .sum (.list (EA ((Gv ns).map V.int) (Aa k) Ae (Aa 4)))=Aa (.int (FR (EA (Gv ns) (Aa k) Ae (Aa 4)))):=λ k=>by rw[L4];show(PM ((EA (Gv ns) (Aa k) Ae (Aa 4)).map V.int)).map V.int=_;rw[Ld];rfl
 have one:∀(U:AQ) (b k:Int),ev G (.o2 .i (.v 2) (.v 40)) U=Aa (.int b)->ev G (.sl (.v 1) (.v 40) .a (.c (.int 4))) U=Aa (.list (EA ((Gv ns).map V.int) (Aa k) Ae (Aa 4)))->ED (CC G .nil) (ev G (.o2 .a (.o2 .i (.v 2) (.v 40)) (.o1 .sum (.sl (.v 1) (.v 40) .a (.c (.int 4)))))) U=Aa [.int (cell ns b k)]:=λ U b kk h1 h2=>by show(ev G _ U).map (λ v=>[v])=_;rw[AO h1 (H4 h2 (s kk)) (k b kk)];rfl
 have w:∀b k:Int,ev G (.o2 .i (.v 2) (.v 40)) (wr (Du [40] (ρ1 ns)) 40 (.w (.int k)))=Aa (.int b)->Pr G ns (.int k)=Aa [.int (cell ns b k)]:=λ b k h=>one (wr (Du [40] (ρ1 ns)) 40 (.w (.int k))) b k h rfl;have g1:Eb (Pr G ns) [.int 0,.int 1,.int 2,.int 3]=Aa [.int (cell ns 9 0),.int (cell ns 23 1),.int (cell ns 0 2),.int (cell ns 5 3)]:=
  Ej (f:=Pr G ns) (w 9 0 rfl) (Ej (f:=Pr G ns) (w 23 1 rfl) (Ej (f:=Pr G ns) (w 0 2 rfl) (Ej (f:=Pr G ns) (w 5 3 rfl) rfl)))
 exact Cc (DK (xs:=[.int 0,.int 1,.int 2,.int 3]) rfl rfl g1 (IL rfl))
end
noncomputable def G6:List (Int×Int×Int):=[0,1,2,3].flatMap λ a=>[0,1,2].flatMap λ b=>[0,1].map λ c=>(a,b,c)
noncomputable def zB(c:Int):Int×Int×Int:=(c.fmod 4,(c.fdiv 4).fmod 3,(c.fdiv 12).fmod 2)
theorem NV{c:Int}{n:Nat}(h:0<n):c.fmod n∈(Bp n).map (λ (k:Nat)=>(k:Int)):=by have h1:=BN c (b:=n) (by omega);have h2:=Cn c (b:=n) (by omega);exact List.mem_map.mpr ⟨(c.fmod n).toNat,List.mem_range.mpr (by omega),by omega⟩
theorem ZT(c:Int):zB c∈G6:=
 List.mem_flatMap.mpr ⟨_,NV (n:=4) (by decide),List.mem_flatMap.mpr ⟨_,NV (n:=3) (by decide),List.mem_map.mpr ⟨_,NV (n:=2) (by decide),rfl⟩⟩⟩
noncomputable def U2:List Int->List Int->List Int×List Int
 |[],l=>([],l)
 |k::ks,l=>((l.getD k.toNat 0)::(U2 ks (l.eraseIdx k.toNat)).1,(U2 ks (l.eraseIdx k.toNat)).2)
noncomputable def code(t:Int×Int×Int):List Int:=[t.1,t.2.1,t.2.2]
def Bk(t:Int×Int×Int):List Int:=(U2 (code t) [1,2,3,4]).1++(U2 (code t) [1,2,3,4]).2
noncomputable def TI(t:Int×Int×Int):Int:=t.1+(t.2.1+(t.2.2+0))
noncomputable def il(l:List Int):V:=.list (l.map .int)
def ρB(x0 x1 x2 x3:LV)(t:Int×Int×Int):AQ:=[x0,x1,x2,x3,.w (il (code t)),.w (il (U2 (code t) [1,2,3,4]).2),.w (il (Bk t)),.w (.int (TI t))]++AD 66 .u
theorem jL(x0 x1 x2 x3:LV)(t:Int×Int×Int)(ht:t∈G6):Bw G F (Jp 3 (Gn 3 A4)) ([x0,x1,x2,x3,.w (il (code t)),.x [.int 1,.int 2,.int 3,.int 4]]++AD 68 .u)=Aa (.next,ρB x0 x1 x2 x3 t):=by have h:G6.map (λ t=>Bw G F (Jp 3 (Gn 3 A4)) ([x0,x1,x2,x3,.w (il (code t)),.x [.int 1,.int 2,.int 3,.int 4]]++AD 68 .u))=G6.map λ t=>Aa (.next,ρB x0 x1 x2 x3 t):=rfl;exact List.map_inj_left.mp h t ht
noncomputable def EL(c0 c1 c2 c3:Int):V:=.list [.int c0,.int c1,.int c2,.int c3]
theorem jM{G:EZ}{F:Nat}(x0 x1 x2:LV)(c0 c1 c2 c3:Int):CD G F (C1 2 A4) ([x0,x1,x2,.w (EL c0 c1 c2 c3)]++AD 70 .u)=Aa (.next,[x0,x1,x2,.w (EL c0 c1 c2 c3),.w (il (code (zB c0))),.x [.int 1,.int 2,.int 3,.int 4]]++AD 68 .u):=rfl
noncomputable def CL(d:Nat):V:=.list [.str [97+d],.str [98+d],.str [99+d]]
def Yw(G:EZ)(U:AQ)(x:V):Option (List V):=(Ck (.one 42) x (Du [42] U)).bind (ED (CC G .nil) (ev G (.o1 .chr (.o2 .a (.o2 .a (.c (.int 97)) (.o2 .mod (.o2 .i (.v 3) (.c (.int 3))) (.c (.int 24)))) (.v 42)))))
noncomputable def ρD(x0 x1 x2 x3 x4 x5 x6 x7:LV):AQ:=[x0,x1,x2,x3,x4,x5,x6,x7]++AD 66 .u
theorem eL{i:Int}{n:Nat}(h:i=(n:Int))(hn:n<128):QA .chr (.int i)=Aa (.str [n]):=by subst h;show(if 0<=(n:Int)/\(n:Int)<128 then Aa (V.str [(n:Int).toNat]) else Ae)=_;rw[if_pos ⟨by omega,by omega⟩];rfl
theorem jK{G:EZ}{F:Nat}(x0 x1 x2:LV)(c0 c1 c2 c3:Int)(d:Nat)(x4 x5 x6 x7:LV)(hd:d<24)(he:c3.fmod 24=d):
  CD G F (C1 6 A4) (ρD x0 x1 x2 (.w (EL c0 c1 c2 c3)) x4 x5 x6 x7)=Aa (.next,wr (ρD x0 x1 x2 (.w (EL c0 c1 c2 c3)) x4 x5 x6 x7) 8 (.w (CL d))):=by
 have one:∀(U:AQ) (k:Int) (n:Nat),ev G (.o2 .i (.v 3) (.c (.int 3))) U=Aa (.int c3)->ev G (.v 42) U=Aa (.int k)->97+(d:Int)+k=(n:Int)->n<128->
   ED (CC G .nil) (ev G (.o1 .chr (.o2 .a (.o2 .a (.c (.int 97)) (.o2 .mod (.o2 .i (.v 3) (.c (.int 3))) (.c (.int 24)))) (.v 42)))) U=Aa [.str [n]]:=λ U k n h1 h2 h3 h4=>by
  have m:Cj .mod (.int c3) (.int 24)=Aa (.int (c3.fmod 24)):=rfl;rw[he] at m;have e:=H4 (o:=.chr) (AO (AO (a:=.c (.int 97)) (x:=.int 97) rfl (AO h1 (b:=.c (.int 24)) (y:=.int 24) rfl m) (o:=.a) (z:=.int (97+(d:Int))) rfl) h2 (o:=.a) (z:=.int (97+(d:Int)+k)) rfl) (eL h3 h4);show(ev G _ U).map (λ v=>[v])=_;rw[e];rfl
 generalize hρ:ρD x0 x1 x2 (.w (EL c0 c1 c2 c3)) x4 x5 x6 x7=U at*;have w:∀(k:Int) (n:Nat),97+(d:Int)+k=(n:Int)->n<128->Yw G U (.int k)=Aa [.str [n]]:=λ k n h1 h2=>one (wr (Du [42] U) 42 (.w (.int k))) k n (by rw[<-hρ];kernel_rfl) (by rw[<-hρ];kernel_rfl) h1 h2;have g1:Eb (Yw G U) [.int 0,.int 1,.int 2]=Aa [.str [97+d],.str [98+d],.str [99+d]]:=
  Ej (f:=Yw G U) (w 0 _ (by omega) (by omega)) (Ej (f:=Yw G U) (w 1 _ (by omega) (by omega)) (Ej (f:=Yw G U) (w 2 _ (by omega) (by omega)) rfl))
 exact Cc (DK (xs:=[.int 0,.int 1,.int 2]) rfl (by rw[<-hρ];kernel_rfl) g1 (IL rfl))
section
variable{a b c e:Ex}{x y z:V}{es:Fu}{vs:List V}{s:St}{r:E5}{p:Fl×AQ}
theorem En(h:ev G e U=Aa v):CD G F (.ret e) U=Aa (.ret v,U):=by show(ev G e U).map _=_;rw[h];rfl
theorem Dd(h:CD G F s U=Aa (.ret v,U')):Bw G F (.cons s r) U=Aa (.ret v,U'):=by show((CD G F s U).bind λ x=>E9 x (Bw G F r))=_;rw[h];rfl
theorem DC{t:Ex}{A B:E5}(ht:Gr G t U=Aa Ab)(h:Bw G F A U=Aa p):CD G F (.f t A B) U=Aa p:=by show((Gr G t U).bind λ c=>Ca c (Bw G F A U) (Bw G F B U))=_;rw[ht];exact h
theorem B0{t:Ex}{A B:E5}(ht:Gr G t U=Aa Ai)(h:Bw G F B U=Aa p):CD G F (.f t A B) U=Aa p:=by show((Gr G t U).bind λ c=>Ca c (Bw G F A U) (Bw G F B U))=_;rw[ht];exact h
theorem He(h:ev G e U=Aa v):Gr G e U=truthy v:=by show(ev G e U).bind truthy=_;rw[h];rfl
theorem Jw{is:List Nat}(h:ev G e U=Aa v)(k:Ck (.m is) v U=Aa U'):CD G F (.asgT is e) U=Aa (.next,U'):=by show((ev G e U).bind λ v=>(Ck (.m is) v U).map λ U'=>(Fl.next,U'))=_;rw[h];show((Ck (.m is) v U).map λ U'=>(Fl.next,U'))=_;rw[k];rfl
theorem HT{i:Nat}{o:O2}(h0:rd U i=.w x)(hl:M7 x=Ai)(h:ev G e U=Aa y)(k:Cj o x y=Aa v):CD G F (.aug i o e) U=Aa (.next,wr U i (.w v)):=by show((Bv (rd U i)).bind λ x=>Ca (M7 x) Ae ((ev G e U).bind λ y=>(Cj o x y).map λ v=>(Fl.next,wr U i (.w v))))=_;rw[h0];show Ca (M7 x) Ae ((ev G e U).bind λ y=>(Cj o x y).map λ v=>(Fl.next,wr U i (.w v)))=_;rw[hl,h];show((Cj o x y).map λ v=>(Fl.next,wr U i (.w v)))=_;rw[k];rfl
theorem TS{i:Nat}{xs:List V}(h0:rd U i=.x xs)(h:ev G e U=Aa v)(hz:xs.length<CN):CD G F (.append i e) U=Aa (.next,wr U i (.x (xs++[v]))):=by show((EE (rd U i)).bind λ xs=>(ev G e U).bind λ v=>if xs.length<CN then Aa (Fl.next,wr U i (.x (xs++[v]))) else Ae)=_;rw[h0];rw[h];exact if_pos hz
theorem Jv{t:Tg}{it:It}{B:E5}{xs:List V}(h:EU G it U=Aa xs)(k:B7 t (Bw G F B) xs U=Aa p):CD G F (.for_ t it B) U=Aa p:=by show((EU G it U).bind λ xs=>B7 t (Bw G F B) xs U)=_;rw[h];exact k
theorem KH{t:AQ->Option Bool}{B:AQ->Option (Fl×AQ)}{n:Nat}(ht:t U=Aa Ab)(h:B U=Aa (.next,U'))(k:G2 n t B U'=Aa p):G2 (n+1) t B U=Aa p:=by show((t U).bind λ c=>Ca c ((B U).bind λ r=>E9 r (G2 n t B)) (Aa (.next,U)))=_;rw[ht];rw[h];exact k
theorem Mz{t:AQ->Option Bool}{B:AQ->Option (Fl×AQ)}{n:Nat}(ht:t U=Aa Ai):G2 (n+1) t B U=Aa (.next,U):=by show((t U).bind λ c=>Ca c ((B U).bind λ r=>E9 r (G2 n t B)) (Aa (.next,U)))=_;rw[ht];rfl
theorem Eg{t:Tg}{B:AQ->Option (Fl×AQ)}{xs:List V}{U'1:AQ}(hb:Ck t x U=Aa U'1)(h:B U'1=Aa (.next,U'))(k:B7 t B xs U'=Aa p):B7 t B (x::xs) U=Aa p:=by show((Ck t x U).bind λ U'=>(B U').bind λ r=>E9 r (B7 t B xs))=_;rw[hb];show((B U'1).bind λ r=>E9 r (B7 t B xs))=_;rw[h];exact k
theorem uR{t:Tg}{B:AQ->Option (Fl×AQ)}{ys:List V}:∀{xs:List V} {U:AQ},B7 t B xs U=Aa (.next,U')->B7 t B (xs++ys) U=B7 t B ys U':=@λ I0=>by
 induction I0 with
 |nil=>intro _ h;have h:=sj h;injection h with _ h;rw[h];rfl
 |cons x xs IH=>
  intro U h;obtain⟨U'1,h1,h2⟩:=Hi h;obtain⟨⟨f,U'2⟩,h3,h4⟩:=Hi h2;show((Ck t x U).bind λ U'=>(B U').bind λ r=>E9 r (B7 t B (xs++ys)))=_;rw[h1];show((B U'1).bind λ r=>E9 r (B7 t B (xs++ys)))=_;rw[h3]
  cases f with
  |next=>exact IH h4
  |ret v=>cases h4
  |reto v=>cases h4
end
theorem DM{f j:Nat}{vs vs':List V}{key:Option Nat}{e:qI}{fl:Fl}{U':AQ}{r:V}(h:Zx f OH=Aa e)(hf:HW f vs key=Aa vs')(hl:vs'.length=e.pn.length)(hr:Bw (GL j) 64 e.b (Ei vs' e.ns)=Aa (fl,U'))(hv:qZ f fl=Aa r):GL (j+1) f vs key=Aa r:=by show Ca (Zx f OH).isSome ((Zx f OH).bind λ e=>(HW f vs key).bind λ vs'=>if vs'.length=e.pn.length then(Bw (GL j) 64 e.b (Ei vs' e.ns)).bind λ r=>qZ f r.1 else Ae) _=_;rw[h,hf];show(if vs'.length=e.pn.length then(Bw (GL j) 64 e.b (Ei vs' e.ns)).bind λ r=>qZ f r.1 else Ae)=_;rw[if_pos hl,hr];exact hv
section
variable{p:Fl×AQ}
theorem YI:∀(n:Nat) (b:E5),(Gn n b=.nil/\C1 n b=.bad)\/Gn n b=.cons (C1 n b) (Gn (n+1) b)
:=λ n=>by
 induction n with
 |zero=>intro b;induction b using E5.casesOn with
  |nil=>exact .inl ⟨rfl,rfl⟩
  |cons s r=>exact .inr rfl
 |succ n IH=>intro b;induction b using E5.casesOn with
  |nil=>exact .inl ⟨rfl,rfl⟩
  |cons s r=>exact IH r
theorem q_nx{b:E5}(n:Nat)(h:CD G F (C1 n b) U=Aa (.next,U'))(k:Bw G F (Gn (n+1) b) U'=Aa p):Bw G F (Gn n b) U=Aa p:=by
 rcases YI n b with⟨_,e⟩|e
 ·rw[e] at h;exact nn h
 ·rw[e];exact Ap h k
theorem q_sx{b:E5}(n:Nat)(h:CD G F (C1 n b) U=Aa (.ret v,U')):Bw G F (Gn n b) U=Aa (.ret v,U'):=by
 rcases YI n b with⟨_,e⟩|e
 ·rw[e] at h;exact nn h
 ·rw[e];exact Dd h
end
abbrev L(n:Nat):LV:=.w (I n)
noncomputable def whT:St->Ex
 |.y t _=>t
 |_=>.a
noncomputable def whB:St->E5
 |.y _ b=>b
 |_=>.nil
theorem lV{b:Nat}{x0 x1 x3 x4 x5:LV}:∀(t q f:Nat) (R:Int),t<=q->0<=R+(b*t:Nat)->R+(b*t:Nat)<b\/t=0->
  G2 (f+t+1) (Gr G (whT (C1 2 Iy))) (Bw G F (whB (C1 2 Iy))) [x0,x1,L b,x3,x4,x5,L q,.w (.int R)]=Aa (.next,[x0,x1,L b,x3,x4,x5,L (q - t),.w (.int (R+(b*t:Nat)))])
:=λ t=>by
 induction t with
 |zero=>intro q f R z h0 z1;rw[show(b*0:Nat)=0 from rfl] at h0 ⊢;rw[show R+((0:Nat):Int)=R by lia] at h0 ⊢;refine Mz ((He (AO (z:=.bool (decide (R<0))) rfl rfl rfl)).trans ?_);rw[decide_eq_false (JM h0)];rfl
 |succ t IH=>
  intro q f R hq h0 h1;obtain⟨q,rfl⟩:∃i,q=i+1:=⟨q - 1,by lia⟩;have e:((b*(t+1):Nat):Int)=b+(b*t:Nat):=by rw[GE,Kq,HQ]
  rw[e] at h0 h1 ⊢;refine KH ((He (AO (z:=.bool (decide (R<0))) rfl rfl rfl)).trans ?_) (Ap (HT (y:=I 1) (v:=I q) rfl rfl rfl (QO (DU 1 q))) (Ap (HT rfl rfl rfl rfl) rfl)) ?_
  ·have:(0:Int)<=(b*t:Nat):=AZ _;rw[decide_eq_true (by omega)];rfl
  ·have ih:=IH q f (R+b) (Nat.le_of_lt_succ hq) (by omega) (by lia);rw[show R+(b:Int)+(b*t:Nat)=R+(b+(b*t:Nat)) by lia] at ih;rw[Nat.add_sub_add_right];exact ih
structure P49(k A B n:Nat):Prop where
 lt:B<2^n
 top:2^n<=2*B
 hA:A<B*2^n
 hk:n<=4000*2^k
 z:n<=100000
def D49(j k:Nat):Prop:=∀A B n,P49 k A B n->GL j 49 [I A,I B,I n] Ae=Aa (.tup [I (A/B),I (A%B)])
structure P56(k a12 a3 b h:Nat):Prop where
 h1:1<=h
 lt:b<2^(h+h)
 top:2^(h+h)<=2*b
 l12:a12<b
 l3:a3<2^h
 hk:h<=4000*2^k
 z:h<=100000
def D56(j k:Nat):Prop:=∀a12 a3 b h,P56 k a12 a3 b h->GL j 56 [I a12,I a3,I b,I (b/2^h),I (b%2^h),I h] Ae=Aa (.tup [I ((a12*2^h+a3)/b),I ((a12*2^h+a3)%b)])
theorem vX{a12 a3 b b1 b2 h q0:Nat}(hb:b=b1*2^h+b2)(h2:b2<2^h)(ht:2^h*2^h<=2*b)(h12:a12<b)(h3:a3<2^h)(hq:q0<2^h)(hl:q0*b1<=a12)(hu:q0+1=2^h\/a12<(q0+1)*b1):
  (a12*2^h+a3)/b<=q0/\q0<=(a12*2^h+a3)/b+2:=by
 have hp:=A3 h;generalize 2^h=M at*;have b0:=Nat.zero_lt_of_lt h12;have hqb:q0*b=q0*b1*M+q0*b2:=by rw[hb,Fh,<-Hl]
 have hm:=BK M hl;constructor
 ·refine Nat.le_of_lt_succ (BJ ?_);rcases hu with hu|hu
  ·show a12*M+a3<b*(q0+1);rw[hu];have:=BK M h12;rw[GF] at this
   omega
  ·show a12*M+a3<b*(q0+1);have:=BK M hu;rw[GF] at this;have e:b*(q0+1)=(q0+1)*b1*M+(q0+1)*b2:=by rw[Bg,hb,Fh,<-Hl]
   omega
 ·have h5:=LL (B9 hq) (B9 h2);have h6:q0*b<=a12*M+a3+2*b:=by omega
  rw[<-Nat.add_mul_div_right _ _ b0];exact(K4 b0).mpr h6
theorem Wv{b h:Nat}(h1:1<=h)(ht:2^(h+h)<=2*b):2^h<=2*(b/2^h):=by
 obtain⟨k,rfl⟩:=Nat.exists_eq_add_of_le' h1;have h2:2^k<=b/2^(k+1):=by
  refine(K4 (A3 _)).mpr ?_;have e:2^(k+1+(k+1))=2*(2^k*2^(k+1)):=by rw[<-CF,Bg,<-CX];congr 1;exact Nat.succ_add k (k+1)
  omega
 have e2:2^(k+1)=2*2^k:=by rw[CX,Bg]
 omega
theorem Tf{a m:Nat}(h:a<2^m):BV a<=m:=Fj h
theorem d56{j k:Nat}(ξ:D49 j k):D56 (j+1) k:=λ a12 a3 b h P=>by
 have hb2:=DH b (A3 h);have hb:b=b/2^h*2^h+b%2^h:=by rw[Bg,BR]
 have pp:=(CF 2 h h).symm;have hb1:=BJ (by rw[pp];exact P.lt);have hz:=P.z;have small:∀{x},x<b->x<2^(h+h):=λ hx=>Gz hx P.lt;have guess:∃q0,q0<2^h/\q0*(b/2^h)<=a12/\(q0+1=2^h\/a12<(q0+1)*(b/2^h))/\
   CD (GL j) 64 (C1 0 Iy) [L a12,L a3,L b,L (b/2^h),L (b%2^h),L h,.u,.u]=Aa (.next,[L a12,L a3,L b,L (b/2^h),L (b%2^h),L h,L q0,L (a12 - q0*(b/2^h))]):=by
  have t1:=AO (G:=GL j) (U:=[L a12,L a3,L b,L (b/2^h),L (b%2^h),L h,.u,.u]) (AO (a:=.v 0) (b:=.v 5) rfl rfl (MD a12 h)) (b:=.v 3) rfl (nX (a12/2^h) (b/2^h));generalize hB:b/2^h=b1 at*
  by_cases q:a12/2^h=b1
  ·have hl:b1*2^h<=a12:=by rw[<-q];exact Nat.div_mul_le_self _ _
   have hp:=A3 h;have e2:(2^h - 1)*b1=b1*2^h - b1:=by rw[Nat.sub_mul,PJ,Bg]
   have e3:b1<=b1*2^h:=Ev _ hp;have e1:a12 - (2^h - 1)*b1=a12 - b1*2^h+b1:=by rw[e2];omega
   refine⟨2^h - 1,Nat.sub_one_lt_of_lt hb2,by rw[e2];omega,.inl (Nat.sub_add_cancel hp),DC ((He t1).trans (by rw[q,beq_self_eq_true];rfl)) ?_⟩;refine Ap (QT (AC (AO (AO rfl rfl (Ku (m:=1) (by decide) (by omega))) rfl (by rw[PJ];exact QO hp)) (AC (AO (AO rfl (AO rfl rfl (Ku hb1 (by omega))) (QO hl)) rfl rfl) BW)) rfl) ?_;rw[e1];rfl
  ·have hb1':a12/2^h<=b1:=by rw[<-hB];exact Nat.div_le_div_right (B9 P.l12)
   have ha:a12<b1*2^h:=by rw[Bg];exact Nat.lt_of_not_le λ hc=>absurd ((K4 (A3 h)).mpr (by rw[Bg];exact hc)) (by omega)
   have h49:=ξ a12 b1 h ⟨hb1,hB▸Wv P.h1 P.top,ha,P.hk,hz⟩;have b0:0<b1:=Nat.pos_of_ne_zero λ q=>by rw[q,Nat.zero_mul] at ha;exact absurd ha (HP _)
   have e1:a12 - a12/b1*b1=a12%b1:=by have:=BR a12 b1;rw[Bg] at this;exact Eq.symm Nat.mod_eq_sub_div_mul
   refine⟨a12/b1,BJ ha,Nat.div_mul_le_self _ _,.inr ?_,B0 ((He t1).trans (by rw[beq_false_of_ne q];rfl)) ?_⟩
   ·rw[GF];have h1:=BR a12 b1;have h2:=DH a12 b0;have h3:=Bg b1 (a12/b1);exact Nat.lt_div_mul_add b0
   ·show Bw (GL j) 64 (.cons (.asgT [6,7] (.call 49 (.cons (.v 0) (.cons (.v 3) (.cons (.v 5) .nil))) Ae)) .nil) _=_;refine Ap (Jw (CB (AC rfl (AC rfl (AC rfl BW))) h49) rfl) ?_;rw[e1];rfl
 obtain⟨q0,hq,hl,hu,hr⟩:=guess;have est:=vX hb hb2 (by rw[pp];exact P.top) P.l12 P.l3 hq hl hu;have b0:0<b:=by have:=P.l12;exact Nat.zero_lt_of_lt this
 generalize hN:a12*2^h+a3=N at*;have hdm:=BR N b;have hml:=DH N b0;have r0:a12 - q0*(b/2^h)<2^(h+h):=small (by have:=P.l12;exact Nat.sub_lt_of_lt this);have eR:(((a12 - q0*(b/2^h))*2^h+a3:Nat):Int) - (q0*(b%2^h):Nat)+(b*(q0 - N/b):Nat)=(N%b:Nat):=by
  have e5:(a12 - q0*(b/2^h))*2^h=a12*2^h - q0*(b/2^h)*2^h:=Nat.sub_mul _ _ _;have e6:q0*b=q0*(b/2^h)*2^h+q0*(b%2^h):=by conv=>lhs;rw[hb,Fh,<-Hl]
  have e7:=BK (2^h) hl;have e8:b*(q0 - N/b)=b*q0 - b*(N/b):=Nat.mul_sub _ _ _;have e9:=Bf b est.1;rw[Bg b q0] at e8 e9
  omega
 refine DM rfl rfl rfl (Ap hr (Ap (U':=[L a12,L a3,L b,L (b/2^h),L (b%2^h),L h,L q0,.w (.int ((((a12 - q0*(b/2^h))*2^h+a3:Nat):Int) - (q0*(b%2^h):Nat)))]) ?_ (Ap (U':=[L a12,L a3,L b,L (b/2^h),L (b%2^h),L h,L (N/b),L (N%b)]) ?_ (Dd (En (O4 (AC rfl (AC rfl BW)))))))) rfl
 ·exact Cc (AO (AO (AO rfl rfl (Ku r0 (by omega))) rfl (uF P.l3 _)) (AO rfl rfl (MK (AY hq (A1 _)) hb2 (by omega))) rfl)
 ·generalize (((a12 - q0*(b/2^h))*2^h+a3:Nat):Int) - (q0*(b%2^h):Nat)=R at*;generalize N/b=Q at*;have:=lV (G:=GL j) (F:=64) (x0:=L a12) (x1:=L a3) (x3:=L (b/2^h)) (x4:=L (b%2^h)) (x5:=L h) (q0 - Q) q0 (63 - (q0 - Q)) R (Nat.sub_le q0 Q) (by rw[eR];exact AZ (N%b)) (.inl (by rw[eR];exact Int.ofNat_lt.mpr hml));rw[eR,show 63 - (q0 - Q)+(q0 - Q)+1=64 by omega,show q0 - (q0 - Q)=Q by omega] at this;exact this
theorem eZ{b n:Nat}(h:2^n<=2*b):n<=BV b:=by
 have hp:=A3 n;have b0:b≠0:=by omega
 unfold BV;rw[if_neg (by simpa using b0)];rcases n with _|n
 ·exact DU 0 (b.log2+1)
 ·rw[CX] at h;have:=(Nat.le_log2 b0).mpr (by omega:2^n<=b);exact Nat.add_le_add_right this 1
theorem uQ(x y:Int):Cj .le (.int x) (.int y)=Aa (.bool (decide (x<=y))):=rfl
theorem N1{j A B n k:Nat}(P:P49 k A B n)(h:BV A<=n+4000):GL (j+1) 49 [I A,I B,I n] Ae=Aa (.tup [I (A/B),I (A%B)]):=by
 have b0:0<B:=by have:=P.top;have:=A3 n;omega
 have t:∀U:AQ,rd U 0=L A->rd U 2=L n->Gr (GL j) (.o2 .le (.o2 .sub (.o1 .bitlen (.v 0)) (.v 2)) (.gv 0)) U=Aa Ab:=λ U h0 h2=>by refine(He (AO (AO (H4 (by show Bv (rd U 0)=_;rw[h0];rfl) rfl) (by show Bv (rd U 2)=_;rw[h2];rfl) rfl) rfl (uQ _ _))).trans ?_;rw[decide_eq_true (by show(BV A:Int) - n<=4000;omega)];rfl
 have r:CD (GL j) 64 (C1 0 CR) [L A,L B,L n,.u,.u,.u,.u,.u,.u,.u,.u]=Aa (.ret (.tup [I (A/B),I (A%B)]),[L A,L B,L n,.u,.u,.u,.u,.u,.u,.u,.u]):=
  DC (t _ rfl rfl) (Dd (En (AO rfl rfl (YJ b0 (Ak h (Nat.add_le_add_right (eZ P.top) 4000))))))
 exact DM rfl rfl rfl (Dd r) rfl
theorem uD{G:EZ}{F n:Nat}(A B:Nat)(hA:A<2^1000000)(hB:B<2^1000000):∃p h,p<=1/\n+p=h+h/\CD G F (C1 2 CR) [L A,L B,L n,L (n%2^1),.u,.u,.u,.u,.u,.u,.u]=Aa (.next,[L (A*2^p),L (B*2^p),L (h+h),L p,.u,.u,.u,.u,.u,.u,.u]):=by
 by_cases e:n%2=0
 ·refine⟨0,n/2,by omega,by omega,?_⟩;rw[Nat.pow_one,e,Kp,PK,PK,show n/2+n/2=n by omega];exact B0 (He (v:=I 0) rfl) rfl
 ·refine⟨1,(n+1)/2,by omega,by omega,?_⟩;rw[Nat.pow_one,show n%2=1 by lia,show(n+1)/2+(n+1)/2=n+1 by omega];exact DC (He (v:=I 1) rfl)<|Ap (HT rfl rfl rfl (Ku hA (by decide))) (Ap (HT rfl rfl rfl (Ku hB (by decide))) (Ap (HT rfl rfl rfl rfl) rfl))
theorem ZJ{G:EZ}{F p r:Nat}{x0 x1 x2 x4 x5 x6 x7 x8 x10:LV}(hp:p<=1):CD G F (C1 8 CR) [x0,x1,x2,L p,x4,x5,x6,x7,x8,L (r*2^p),x10]=Aa (.next,[x0,x1,x2,L p,x4,x5,x6,x7,x8,L r,x10]):=by
 rcases(by lia:p=0\/p=1) with e|e
 ·subst e;rw[Kp,PK];exact B0 (He (v:=I 0) rfl) rfl
 ·subst e;refine DC (He (v:=I 1) rfl)<|Ap (HT rfl rfl rfl (MD (r*2^1) 1)) ?_;rw[Nat.mul_div_cancel _ (A3 1)];rfl
theorem Gu{G:EZ}{F:Nat}{p:Fl×AQ}:∀{n:Nat} {b:E5} {U U':AQ},Bw G F (Jp n b) U=Aa (.next,U')->Bw G F (Gn n b) U'=Aa p->Bw G F b U=Aa p
:=@λ n=>by
 induction n with
 |zero=>intro b U U' h k;rw[show U=U' from congrArg Prod.snd (sj (show Aa (Fl.next,U)=Aa (.next,U') from h))];exact k
 |succ n IH=>intro b U U' h k;induction b using E5.casesOn with
  |nil=>rw[show U=U' from congrArg Prod.snd (sj (show Aa (Fl.next,U)=Aa (.next,U') from h))];exact k
  |cons s r=>
   refine bK (show((CD G F s U).bind λ x=>E9 x (Bw G F (Jp n r)))=_ from h) λ x h3 h4=>?_;show((CD G F s U).bind λ x=>E9 x (Bw G F r))=_;rw[h3];obtain⟨f,U'2⟩:=x
   induction f using Fl.casesOn with
   |next=>exact IH h4 k
   |ret v=>cases h4
   |reto v=>cases h4
theorem nB{j k A B h p:Nat}(ξ:D56 j k)(h1:1<=h)(lt:B<2^(h+h))(top:2^(h+h)<=2*B)(hA:A<B*2^(h+h))(hk:h<=4000*2^k)(z:h<=100000):
  Bw (GL j) 64 (Jp 5 (Gn 3 CR)) [L A,L B,L (h+h),L p,.u,.u,.u,.u,.u,.u,.u]=Aa (.next,[L A,L B,L (h+h),L p,L h,L (2^h - 1),L (B/2^h),L (B%2^h),L (A/2^h/B),L (A%B),L ((A/2^h%B*2^h+A%2^h)/B)])/\
  A/B=A/2^h/B*2^h+(A/2^h%B*2^h+A%2^h)/B/\A/2^h/B<2^h/\(A/2^h%B*2^h+A%2^h)/B<2^h:=by
 have hp:=A3 h;have b0:0<B:=by have:=A3 (h+h);omega
 have pp:=(CF 2 h h).symm;have m1:=DH A hp;have m2:=DH (A/2^h) hp;have m3:=DH (A/2^h) b0;have e1:A/2^(h+h)*2^h+A/2^h%2^h=A/2^h:=by rw[<-pp,<-Nat.div_div_eq_div_mul,Bg,BR]
 have c1:=ξ (A/2^(h+h)) (A/2^h%2^h) B h ⟨h1,lt,top,BJ (by rw[Bg];exact hA),m2,hk,z⟩;rw[e1] at c1;have c2:=ξ (A/2^h%B) (A%2^h) B h ⟨h1,lt,top,m3,m1,hk,z⟩;have e2:A=B*(A/2^h/B*2^h)+(A/2^h%B*2^h+A%2^h):=by rw[<-Hl,<-D8,<-Nat.add_mul,BR,Bg,BR]
 have e3:A%B=(A/2^h%B*2^h+A%2^h)%B:=by
  conv=>lhs;rw[e2]
  exact Qy _ _ _
 rw[<-e3] at c2;refine⟨?_,?_,?_,?_⟩
 ·have mask:∀U:AQ,rd U 4=L h->ev (GL j) (.o2 .sub (.o2 .shl (.c (.int 1)) (.v 4)) (.c (.int 1))) U=Aa (I (2^h - 1)):=λ U h4=>by
   have:=AO (G:=GL j) (AO (a:=.c (.int 1)) (b:=.v 4) rfl (by show Bv (rd U 4)=_;rw[h4];rfl) (Ku (m:=1) (by decide) (by lia))) (b:=.c (.int 1)) rfl (by rw[PJ];exact QO hp);exact this
  have s3:CD (GL j) 64 (C1 3 CR) [L A,L B,L (h+h),L p,.u,.u,.u,.u,.u,.u,.u]=Aa (.next,[L A,L B,L (h+h),L p,L h,.u,.u,.u,.u,.u,.u]):=by refine Cc (AO rfl rfl ?_);have:=MD (h+h) 1;rw[show(h+h)/2^1=h by lia] at this;exact this
  have s4:CD (GL j) 64 (C1 4 CR) [L A,L B,L (h+h),L p,L h,.u,.u,.u,.u,.u,.u]=Aa (.next,[L A,L B,L (h+h),L p,L h,L (2^h - 1),.u,.u,.u,.u,.u]):=Cc (mask _ rfl);have s5:CD (GL j) 64 (C1 5 CR) [L A,L B,L (h+h),L p,L h,L (2^h - 1),.u,.u,.u,.u,.u]=Aa (.next,[L A,L B,L (h+h),L p,L h,L (2^h - 1),L (B/2^h),L (B%2^h),.u,.u,.u]):=QT (AC (AO rfl rfl (MD B h)) (AC (AO rfl rfl (Uw B h)) BW)) rfl;have s6:CD (GL j) 64 (C1 6 CR) [L A,L B,L (h+h),L p,L h,L (2^h - 1),L (B/2^h),L (B%2^h),.u,.u,.u]=Aa (.next,[L A,L B,L (h+h),L p,L h,L (2^h - 1),L (B/2^h),L (B%2^h),L (A/2^h/B),L (A/2^h%B),.u]):=
   Jw (CB (AC (AO rfl rfl (MD A (h+h))) (AC (AO (AO rfl rfl (MD A h)) rfl (Uw (A/2^h) h)) (AC rfl (AC rfl (AC rfl (AC rfl BW)))))) c1) rfl
  have s7:CD (GL j) 64 (C1 7 CR) [L A,L B,L (h+h),L p,L h,L (2^h - 1),L (B/2^h),L (B%2^h),L (A/2^h/B),L (A/2^h%B),.u]=Aa (.next,[L A,L B,L (h+h),L p,L h,L (2^h - 1),L (B/2^h),L (B%2^h),L (A/2^h/B),L (A%B),L ((A/2^h%B*2^h+A%2^h)/B)]):=
   Jw (CB (AC rfl (AC (AO rfl rfl (Uw A h)) (AC rfl (AC rfl (AC rfl (AC rfl BW)))))) c2) rfl
  exact Ap s3 (Ap s4 (Ap s5 (Ap s6 (Ap s7 rfl))))
 ·conv=>lhs;rw[e2]
  exact Qz b0 _ _
 ·exact BJ (BJ (by rw[Nat.mul_left_comm,pp];exact hA))
 ·refine BJ ?_;have:=BK (2^h) m3;rw[GF] at this
  omega
theorem d49:∀k j,2*k+1<=j->D49 j k
 |k,0,h=>by lia
 |0,j+1,_=>λ A B n P=>by
  refine N1 P ?_;have h1:A<2^(n+n):=by rw[CF];exact Gz P.hA (E0 P.lt (A3 n))
  have:=Tf h1;have:=P.hk
  lia
 |k+1,j+1,hj=>λ A B n P=>by
  by_cases hd:BV A<=n+4000
  ·exact N1 P hd
  have h1:A<2^(n+n):=by rw[CF];exact Gz P.hA (E0 P.lt (A3 n))
  have hb:=Tf h1;have hz:=P.z;have hk:=P.hk;rw[CX] at hk;have big:∀{x m:Nat},x<2^m->m<=1000000->x<2^1000000:=λ h1 h2=>AY h1 (Bu (by decide) h2);obtain⟨p,h,hp,hn,hr⟩:=uD (G:=GL j) A B (big h1 (by lia)) (big P.lt (by lia));have pw:2^(h+h)=2^n*2^p:=by rw[<-hn,CF]
  have pp:=A3 p;obtain⟨j,rfl⟩:∃i,j=i+1:=⟨j - 1,by lia⟩;have hA:A*2^p<B*2^p*2^(h+h):=by refine AY (E0 P.hA pp) ?_;rw[pw,show B*2^p*(2^n*2^p)=B*2^n*2^p*2^p by ac_rfl];exact Ev _ pp
  obtain⟨g1,g2,g3,g4⟩:=nB (d56 (d49 k j (by lia))) (by omega) (by rw[pw];exact E0 P.lt pp) (by rw[pw,<-Hl];exact BK _ P.top) hA (by lia) (by omega);rw[Nat.mul_div_mul_right _ _ pp] at g2;rw[Nat.mul_mod_mul_right] at g1;have t:Gr (GL (j+1)) (.o2 .le (.o2 .sub (.o1 .bitlen (.v 0)) (.v 2)) (.gv 0)) [L A,L B,L n,.u,.u,.u,.u,.u,.u,.u,.u]=Aa Ai:=by refine(He (AO (AO (H4 rfl rfl) rfl rfl) rfl (uQ _ _))).trans ?_;rw[decide_eq_false (by show¬(BV A:Int) - n<=4000;lia)];rfl
  rw[g2];have s1:CD (GL (j+1)) 64 (C1 1 CR) [L A,L B,L n,.u,.u,.u,.u,.u,.u,.u,.u]=Aa (.next,[L A,L B,L n,L (n%2^1),.u,.u,.u,.u,.u,.u,.u]):=Cc (AO rfl rfl (Uw n 1));have s0:CD (GL (j+1)) 64 (C1 0 CR) [L A,L B,L n,.u,.u,.u,.u,.u,.u,.u,.u]=Aa (.next,[L A,L B,L n,.u,.u,.u,.u,.u,.u,.u,.u]):=B0 t rfl;have s9:∀U:AQ,rd U 4=L h->rd U 8=L (A*2^p/2^h/(B*2^p))->rd U 9=L (A%B)->rd U 10=L ((A*2^p/2^h%(B*2^p)*2^h+A*2^p%2^h)/(B*2^p))->CD (GL (j+1)) 64 (C1 9 CR) U=Aa (.ret (.tup [I (A*2^p/2^h/(B*2^p)*2^h+(A*2^p/2^h%(B*2^p)*2^h+A*2^p%2^h)/(B*2^p)),I (A%B)]),U):=λ U h4 h8 h9 h10=>En (O4 (AC (AO (AO (congrArg Bv h8) (congrArg Bv h4) (Ku g3 (by lia))) (congrArg Bv h10) (uF g4 _)) (AC (congrArg Bv h9) BW)))
  refine DM rfl rfl rfl (Ap s0 (Ap s1 (Ap hr (Gu g1 (Ap (ZJ hp) (Dd (s9 _ rfl rfl rfl rfl))))))) rfl
theorem Lp(a:Nat):a<2^BV a:=by
 unfold BV
 by_cases e:a=0
 ·subst e;decide
 ·rw[if_neg (by simpa using e)];exact Nat.lt_log2_self
theorem Ww{b:Nat}(h:0<b):2^BV b<=2*b:=by unfold BV;rw[if_neg (by simpa using Fw h),CX,Bg];exact Bf 2 (Nat.log2_self_le (Fw h))
theorem Yv{a n:Nat}(hn:0<n)(h:a<2^4000):Cj .fdiv (I a) (I n)=Aa (I (a/n)):=by show(if(n:Int)≠0/\A7 (a:Int) n=Ai then Aa (V.int ((a:Int).fdiv n)) else Ae)=_;rw[if_pos ⟨Int.natCast_ne_zero_iff_pos.mpr hn,NJ (Ak (Tf h) (DU _ _))⟩,ID _ (AZ n)];rfl
structure xI(A B:Nat):Prop where
 b0:0<B
 b:BV B<=32000
 a:BV A<=100000
theorem wN{A n:Nat}(hn:0<n)(hz:BV A+n<=1000000):wT A n=Aa ((Kj n A ((BV A+n - 1)/n)).map I):=by
 have hk:n*((BV A+n - 1)/n)<=BV A+n - 1:=Nat.mul_div_le _ _;have hk2:BV A<=n*((BV A+n - 1)/n):=by
  have h1:=BR (BV A+n - 1) n;have h2:=DH (BV A+n - 1) hn
  omega
 have e:((Cj .fdiv (.int ((BV A:Int)+n - 1)) (.int n)).bind Bb)=Aa (((BV A+n - 1)/n:Nat):Int):=by rw[show(BV A:Int)+n - 1=(BV A+n - 1:Nat) by omega,show Cj .fdiv (.int (BV A+n - 1:Nat)) (.int n)=_ from Yv hn (Bc (by omega:BV A+n - 1<=1000000) (AY (by decide:1000000<2^20) (Bu (by decide) (by decide))))];rfl
 show(((Cj .fdiv (.int ((BV A:Int)+n - 1)) (.int n)).bind Bb).bind λ k=>if 0<=k/\k.toNat<=CN then(if(A:Int)=0 then Aa (AD k.toNat (V.int 0)) else KT 60 n A 0 k (AD k.toNat (.int 0))) else Ae)=_;rw[e];generalize (BV A+n - 1)/n=K at*;have hK:=Cz K hn;show(if(0:Int)<=K/\(K:Int).toNat<=CN then(if(A:Int)=0 then Aa (AD (K:Int).toNat (V.int 0)) else KT 60 n A 0 K (AD (K:Int).toNat (.int 0))) else Ae)=_;rw[if_pos ⟨AZ K,Ak (by omega:(K:Int).toNat<=1000000) (by decide)⟩,Cd]
 by_cases hA:A=0
 ·subst hA;have k0:K=0:=by
   rcases F7 K with q|q
   ·exact q
   ·have:=Ev n q;have b0:BV ((0:Nat):Int)=0:=rfl
    omega
  subst k0;rfl
 ·rw[if_neg (Int.ofNat_ne_zero.mpr hA)];have ap:0<BV A:=by
   rcases F7 (BV A) with q|q
   ·have:=Lp A;rw[q] at this;omega
   ·exact q
  have:=dC hn 59 A 0 K (AD K (.int 0)) (Nat.pos_of_ne_zero λ q=>by rw[q,Km] at hk2;exact absurd (AY ap hk2) (Ch 0)) (Ak (by omega:K<=2^20) (Bu (by decide) (by decide))) (AY (Lp A) (Bu (by decide) hk2)) (by rw[GV];lia) (by omega);rw[CW] at this;rw[show KT 60 n A 0 K (AD K (.int 0))=_ from this,List.take_zero,Kc (by rw[GV];exact A1 _),DT];rfl
theorem wM{ds:List Nat}{n:Nat}(hn:0<n)(hd:∀x∈ds,x<2^n)(hl:n*ds.length<=1000000):rB (ds.map I) n=Aa ((val n ds:Nat):Int):=by
 rcases ds with _|⟨x,r⟩
 ·rfl
 ·have hK:(x::r).length<=n*(x::r).length:=Cz _ hn;have:=dB hn hd hl 59 0 (x::r).length (Ow _) (Ak (by lia:(x::r).length<=2^20) (Bu (by decide) (by decide))) (by lia);rw[CW,K9,OD] at this;show NR 60 n ((x::r).map I) 0 (((x::r).map I).length:Nat)=_;rw[Ag];exact this
theorem lU{A B n:Nat}{ds x8:LV}(h:D49 j 3)(hb:B<2^n)(ht:2^n<=2*B)(hn:n<=32000):∀(D:List Nat) (x6 x7:LV),(∀d∈D,d<2^n)->D.length<=1000000->∃y6 y7,
  B7 (.one 6) (Bw (GL j) 64 (.cons (.asgT [7,4] (.call 49 (.cons (.o2 .a (.o2 .shl (.v 4) (.v 2)) (.v 6)) (.cons (.v 1) (.cons (.v 2) .nil))) Ae)) (.cons (.append 5 (.v 7)) .nil))) (D.map I).reverse [L A,L B,L n,ds,L 0,.x [],x6,x7,x8]=Aa (.next,[L A,L B,L n,ds,L (Dt n B D).2,.x ((Dt n B D).1.map I).reverse,y6,y7,x8]):=λ I0=>by
 induction I0 with
 |nil=>exact λ x6 x7 _ _=>⟨x6,x7,rfl⟩
 |cons x r IH=>
  intro x6 x7 hD hl;have b0:0<B:=by have:=A3 n;lia
  obtain⟨y6,y7,ih⟩:=IH x6 x7 (λ d hd=>hD d (.tail _ hd)) (Je hl);have hr:=(NP (n:=n) b0 r).1;have hx:=hD x (.head _);refine⟨L x,L (((Dt n B r).2*2^n+x)/B),?_⟩;rw[D3,Gq,uR ih];have ht:(Dt n B r).2*2^n+x<B*2^n:=by
   have:=BK (2^n) hr;rw[GF] at this
   omega
  have c:=h ((Dt n B r).2*2^n+x) B n ⟨hb,‹_›,ht,hn,by lia⟩;have hz:(((Dt n B r).1.map I).reverse).length<CN:=by rw[Da,Ag,Ph];exact AY hl (by decide)
  have er:((Dt n B (x::r)).1.map I).reverse=((Dt n B r).1.map I).reverse++[I (((Dt n B r).2*2^n+x)/B)]:=Gq;rw[er];show _=Aa (Fl.next,[L A,L B,L n,ds,L (((Dt n B r).2*2^n+x)%B),LV.x (((Dt n B r).1.map I).reverse++[I (((Dt n B r).2*2^n+x)/B)]),L x,L (((Dt n B r).2*2^n+x)/B),x8]);generalize (Dt n B r).2=R at*;generalize ((Dt n B r).1.map I).reverse=Q at*;refine Eg rfl (Ap (Jw (CB (AC (AO (AO rfl rfl (Ku (Gz hr hb) (by lia))) rfl rfl) (AC rfl (AC rfl BW))) c) rfl) (Ap (TS rfl rfl hz) rfl)) rfl
theorem dm77(hj:7<=j){A B:Nat}(P:xI A B):GL (j+1) 77 [I A,I B] Ae=Aa (.tup [I (A/B),I (A%B)]):=by
 obtain⟨i,rfl⟩:∃i,j=i+1:=⟨j - 1,by omega⟩;have ht:=Ww P.b0;have hb:=Lp B;have hn0:0<BV B:=by
  rcases F7 (BV B) with q|q
  ·rw[q] at hb;have:=P.b0;lia
  ·exact q
 have hB:=P.b;have hA:=P.a;have e63:=wN (A:=A) hn0 (by lia);generalize hn:BV B=n at*;have hz:n*((BV A+n - 1)/n)<=BV A+n - 1:=Nat.mul_div_le _ _;have hv:BV A<=n*((BV A+n - 1)/n):=by
  have h1:=BR (BV A+n - 1) n;have h2:=DH (BV A+n - 1) hn0
  omega
 have hva:=Wn n ((BV A+n - 1)/n) A (AY (Lp A) (Bu (by decide) hv));have hl:=Rn n ((BV A+n - 1)/n) A;have hlt:=dZ n ((BV A+n - 1)/n) A;generalize Kj n A ((BV A+n - 1)/n)=D at*;rw[<-hl] at hz;have hlD:D.length<=n*D.length:=Cz _ hn0;obtain⟨y6,y7,hloop⟩:=lU (d49 3 (i+1) (Nat.succ_le_of_lt hj)) hb ht hB D .u .u hlt (by omega);have ok:=NP (n:=n) P.b0 D;have e70:=wM hn0 (Xn P.b0 D hlt) (by rw[Ph];omega);rw[hva] at ok;have eq:val n (Dt n B D).1=A/B/\(Dt n B D).2=A%B:=by rw[<-ok.2,Qz P.b0,Qy,O0 ok.1,Nat.div_eq_of_lt ok.1,VW];exact⟨rfl,rfl⟩
 rw[eq.1] at e70;rw[eq.2] at hloop;generalize (Dt n B D).1.map I=Q at*;have c63:GL (i+1) 63 [I A,I n] Ae=Aa (.list (D.map I)):=by show(wT A n).map V.list=_;rw[e63];rfl
 have c70:GL (i+1) 70 [.list Q,I n] Ae=Aa (I (A/B)):=by show(rB Q n).map V.int=_;rw[e70];rfl
 have s0:CD (GL (i+1)) 64 (C1 0 DF) [L A,L B,.u,.u,.u,.u,.u,.u,.u]=Aa (.next,[L A,L B,L n,.u,.u,.u,.u,.u,.u]):=Cc (H4 rfl (by rw[<-hn];rfl));have s1:CD (GL (i+1)) 64 (C1 1 DF) [L A,L B,L n,.u,.u,.u,.u,.u,.u]=Aa (.next,[L A,L B,L n,.w (.list (D.map I)),.u,.u,.u,.u,.u]):=Cc (CB (AC rfl (AC rfl BW)) c63);have s2:Bw (GL (i+1)) 64 (Jp 2 (Gn 2 DF)) [L A,L B,L n,.w (.list (D.map I)),.u,.u,.u,.u,.u]=Aa (.next,[L A,L B,L n,.w (.list (D.map I)),L 0,.x [],.u,.u,.u]):=rfl;have s4:CD (GL (i+1)) 64 (C1 4 DF) [L A,L B,L n,.w (.list (D.map I)),L 0,.x [],.u,.u,.u]=Aa (.next,[L A,L B,L n,.w (.list (D.map I)),L (A%B),.x Q.reverse,y6,y7,.u]):=Jv rfl hloop;have s5:Bw (GL (i+1)) 64 (Jp 2 (Gn 5 DF)) [L A,L B,L n,.w (.list (D.map I)),L (A%B),.x Q.reverse,y6,y7,.u]=Aa (.next,[L A,L B,L n,.w (.list (D.map I)),L (A%B),.w (.list Q),y6,y7,.u]):=by show Aa (Fl.next,[L A,L B,L n,.w (.list (D.map I)),L (A%B),.w (.list Q.reverse.reverse),y6,y7,.u])=_;rw[List.reverse_reverse]
 have s7:CD (GL (i+1)) 64 (C1 7 DF) [L A,L B,L n,.w (.list (D.map I)),L (A%B),.w (.list Q),y6,y7,.u]=Aa (.next,[L A,L B,L n,.w (.list (D.map I)),L (A%B),.w (.list Q),y6,y7,L (A/B)]):=Cc (CB (AC rfl (AC rfl BW)) c70);exact DM rfl rfl rfl (Ap s0 (Ap s1 (Gu s2 (Ap s4 (Gu s5 (Ap s7 rfl)))))) rfl
structure Dm(a b q r:Int):Prop where
 e:a=b*q+r
 r:(0<=r/\r<b)\/(b<r/\r<=0)
noncomputable abbrev r84(a b:Int):AQ:=[.w (.int a),.w (.int b),.u,.u]
abbrev s84:St:=C1 0 IV
theorem g84{j:Nat}{a b:Int}{v:V}{U':AQ}(h:CD (GL j) 64 s84 (r84 a b)=Aa (.ret v,U')):GL (j+1) 84 [.int a,.int b] Ae=Aa v:=
 DM rfl rfl rfl (Dd h) rfl
section
variable{a b:Int}{p:Fl×AQ}
theorem Wy{i:Nat}{U:AQ}{x:Int}(h:rd U i=.w (.int x)){c:Bool}(hc:decide (x=0)=c):Gr G (.o2 .eq (.v i) (.c (.int 0))) U=Aa c:=by
 refine(He (AO (a:=.v i) (congrArg Bv h) rfl rfl)).trans ?_;rw[<-hc]
 rfl
theorem Nn{i:Nat}{U:AQ}{x:Int}(h:rd U i=.w (.int x)){c:Bool}(hc:decide (x<0)=c):Gr G (.o2 .lt (.v i) (.c (.int 0))) U=Aa c:=
 (He (AO (a:=.v i) (z:=.bool (decide (x<0))) (congrArg Bv h) rfl rfl)).trans (congrArg Aa hc)
theorem r1{s:St}{v:V}{U U':AQ}(h:CD G F s U=Aa (.ret v,U')):Bw G F (.cons s .nil) U=Aa (.ret v,U'):=Dd h
end
theorem oK{j:Nat}(hj:8<=j){A B:Nat}(P:xI A B):GL (j+1) 84 [I A,I B] Ae=Aa (.tup [I (A/B),I (A%B)]):=by have h:=P.b0;obtain⟨i,rfl⟩:∃i,j=i+1:=⟨j - 1,by omega⟩;exact g84 (B0 (Wy rfl (decide_eq_false (Int.natCast_ne_zero_iff_pos.mpr h))) (r1 (B0 (Nn rfl (decide_eq_false (Int.not_ofNat_neg B))) (r1 (B0 (Nn rfl (decide_eq_false (Int.not_ofNat_neg A))) (r1 (En (CB (AC rfl (AC rfl BW)) (dm77 (Nat.le_of_lt_succ hj) P)))))))))
theorem wK{j:Nat}(hj:8<=j){a b q r:Int}(P:xI a.natAbs b.natAbs)(ha:0<=a)(hb:0<b)(D:Dm a b q r):GL (j+1) 84 [.int a,.int b] Ae=Aa (.tup [.int q,.int r]):=by
 have hr:0<=r/\r<b:=by have:=D.r;omega
 obtain⟨A,rfl⟩:=Eu ha;obtain⟨B,rfl⟩:=Eu (Int.le_of_lt hb);obtain⟨R,rfl⟩:=Eu hr.1;have h0:0<=q:=by
  refine Int.not_lt.mp λ hq=>?_;have h1:=Int.mul_le_mul_of_nonneg_left (Int.add_le_zero_iff_le_neg.mp hq) (AZ B);have:=D.e
  omega
 obtain⟨Q,rfl⟩:=Eu h0;have e:A=B*Q+R:=by have:=D.e;rw[<-HO,<-HQ] at this;exact Int.ofNat.inj this
 have b0:=Int.natCast_pos.mp hb;have rb:R<B:=by omega
 have h:=oK hj (A:=A) (B:=B) P;rw[show A/B=Q by rw[e,Qz b0,Nat.div_eq_of_lt rb,VW],show A%B=R by rw[e,Qy,O0 rb]] at h;exact h
theorem wL{j:Nat}(hj:9<=j){a b q r:Int}(P:xI a.natAbs b.natAbs)(hb:0<b)(D:Dm a b q r):GL (j+1) 84 [.int a,.int b] Ae=Aa (.tup [.int q,.int r]):=by
 by_cases ha:a<0
 ·have hr:0<=r/\r<b:=by have:=D.r;omega
  have hs:(-a - 1).natAbs<=a.natAbs:=by omega
  obtain⟨i,rfl⟩:∃i,j=i+1:=⟨j - 1,by omega⟩;have c:=wK (q:=-q - 1) (r:=b - 1 - r) (Nat.le_of_lt_succ hj) ⟨P.b0,P.b,Ak (Fj (Bc hs (Lp _))) P.a⟩ (by omega) hb ⟨by have:=D.e;rw[Int.mul_sub,Int.mul_neg];omega,by omega⟩;refine g84 (B0 (Wy rfl (decide_eq_false (Int.ne_of_gt hb))) (r1 (B0 (Nn rfl (decide_eq_false (Int.lt_asymm hb))) (r1 (DC (Nn rfl (decide_eq_true ha)) (Ap (Jw (CB (AC rfl (AC rfl BW)) c) rfl) (Dd (En ?_))))))));have e1:-(-q - 1) - 1=q:=by lia
  have e2:b+(-(b - 1 - r) - 1)=r:=by lia
  show Aa (V.tup [.int (-(-q - 1) - 1),.int (b+(-(b - 1 - r) - 1))])=_;rw[e1,e2]
 ·exact wK (Nat.le_of_add_left_le hj) P (Int.not_lt.mp ha) hb D
theorem hI{j:Nat}(hj:10<=j){a b q r:Int}(P:xI a.natAbs b.natAbs)(D:Dm a b q r):GL (j+1) 84 [.int a,.int b] Ae=Aa (.tup [.int q,.int r]):=by
 have b0:=P.b0
 by_cases hb:b<0
 ·have hr:b<r/\r<=0:=by have:=D.r;omega
  obtain⟨i,rfl⟩:∃i,j=i+1:=⟨j - 1,by omega⟩;have c:=wL (a:=-a) (q:=q) (r:=-r) (Nat.le_of_lt_succ hj) (by rw[Int.natAbs_neg,Int.natAbs_neg];exact P) (Int.neg_pos_of_neg hb) ⟨by have:=D.e;rw[Int.neg_mul];omega,by omega⟩;refine g84 (B0 (Wy rfl (decide_eq_false (Int.natAbs_pos.mp b0))) (r1 (DC (Nn rfl (decide_eq_true hb)) (Ap (Jw (CB (AC rfl (AC rfl BW)) c) rfl) (Dd (En ?_))))));show Aa (V.tup [.int q,.int (- -r)])=_;rw[Int.neg_neg]
 ·exact wL (Nat.le_of_add_left_le hj) P (by omega) D
theorem JI(a b:Int):Cj .eq (.int a) (.int b)=Aa (.bool (a==b)):=rfl
theorem M5{a b:Int}(h:0<=b)(h2:(BV a:Int)*b<=134217728):Cj .pow (.int a) (.int b)=Aa (.int (a^b.toNat)):=by show(if 0<=b/\(BV a:Int)*b<=134217728 then Aa (V.int (a^b.toNat)) else Ae)=_;rw[if_pos ⟨h,h2⟩]
noncomputable def q0(c1:Int):Int:=if(c1.fmod 41==19)=Ab then -21 else c1.fmod 41 - 20
noncomputable def qx(c1 size:Int):Int:=(if size<4 then 2600 else 200)+(c1.fdiv 287).fmod 60
def qF(c1 size:Int):Int:=if((c1.fdiv 41).fmod 7==6)=Ab then q0 c1*3^(qx c1 size).toNat else q0 c1
theorem gD(c1:Int):-21<=q0 c1/\q0 c1<=20/\q0 c1≠-1:=by
 have h1:=BN c1 (b:=41) (by decide);have h2:=Cn c1 (b:=41) (by decide);unfold q0
 by_cases e:c1.fmod 41=19
 ·rw[e];decide
 ·rw[if_neg (by simpa using e)];omega
theorem gB(c1 size:Int):200<=qx c1 size/\qx c1 size<2660/\(4<=size->qx c1 size<260):=by
 have h1:=BN (c1.fdiv 287) (b:=60) (by decide);have h2:=Cn (c1.fdiv 287) (b:=60) (by decide);unfold qx
 by_cases e:size<4
 ·rw[if_pos e];omega
 ·rw[if_neg e];omega
theorem O5(n:Nat):3^n<2^(2*n+1):=by
 rw[CX,Nat.pow_mul];have h:3^n<=(2^2)^n:=Nat.pow_le_pow_left (by decide) n;have p:0<(2^2)^n:=Nat.pow_pos (by decide)
 omega
theorem Ux(n:Nat):((3:Int)^n).natAbs=3^n:=by rw[RP];rfl
structure QOk(q size:Int):Prop where
 ne:q≠-1
 big:q.natAbs<2^5326
 small:4<=size->q.natAbs<2^600
theorem tH(c1 size:Int):QOk (qF c1 size) size:=by
 have h0:=gD c1;have hx:=gB c1 size;have small:∀{n:Nat},5<=n->(q0 c1).natAbs<2^n:=λ {n} hn=>AY (by omega:(q0 c1).natAbs<2^5) (Bu (by decide) hn);unfold qF
 by_cases e:(c1.fdiv 41).fmod 7=6
 ·rw[e,if_pos (by decide)];have hm:(q0 c1*3^(qx c1 size).toNat).natAbs=(q0 c1).natAbs*3^(qx c1 size).toNat:=by rw[Int.natAbs_mul,Ux]
  have le:∀k n:Nat,(qx c1 size).toNat<=k->5+(2*k+1)<=n->(q0 c1*3^(qx c1 size).toNat).natAbs<2^n:=λ k n h1 h2=>by rw[hm];refine AY (Nat.mul_lt_mul'' (small (A1 5)) (O5 _)) ?_;rw[<-CF];exact Bu (by decide) (by omega)
  refine⟨λ h=>?_,le 2660 5326 (by omega) (by omega),λ h=>le 260 600 (by omega) (by omega)⟩;have h:=congrArg Int.natAbs h;rw[hm] at h;have h3:1<3^(qx c1 size).toNat:=Nat.one_lt_pow (by omega) (by decide);have:(q0 c1).natAbs*3^(qx c1 size).toNat=1:=h;rcases F7 (q0 c1).natAbs with h4|h4
  ·rw[h4,Nat.zero_mul] at this;cases this
  ·have:=Cz (3^(qx c1 size).toNat) h4
   omega
 ·rw[if_neg (by simpa using e)];exact⟨h0.2.2,small (by decide),λ z=>small (by decide)⟩
section
variable{c1 size:Int}
theorem vZ(h:ev G (.o2 .i (.v 3) (.c (.int 1))) U=Aa (.int c1)):ev G (.o2 .mod (.o2 .i (.v 3) (.c (.int 1))) (.c (.int 41))) U=Aa (.int (c1.fmod 41)):=AO h (b:=.c (.int 41)) (y:=.int 41) rfl rfl
theorem jJ(h:ev G (.o2 .i (.v 3) (.c (.int 1))) U=Aa (.int c1)):CD G F (C1 7 A4) U=Aa (.next,wr U 9 (.w (.int (q0 c1)))):=by
 refine Cc (TA (t:=c1.fmod 41==19) (x:=.bool (c1.fmod 41==19)) (AO (vZ h) (b:=.c (.int 19)) (y:=.int 19) rfl (JI _ _)) rfl ?_);unfold q0
 cases c1.fmod 41==19 with
 |true=>rfl
 |false=>exact AO (vZ h) (b:=.c (.int 20)) (y:=.int 20) rfl rfl
theorem jI(h:ev G (.o2 .i (.v 3) (.c (.int 1))) U=Aa (.int c1))(h7:ev G (.v 7) U=Aa (.int size))(h9:ev G (.v 9) U=Aa (.int (q0 c1))):CD G F (C1 8 A4) U=Aa (.next,wr U 9 (.w (.int (qF c1 size)))):=by
 have hx:=gB c1 size;refine Cc (TA (t:=(c1.fdiv 41).fmod 7==6) (x:=.bool ((c1.fdiv 41).fmod 7==6)) (AO (AO (AO h (b:=.c (.int 41)) (y:=.int 41) (o:=.fdiv) rfl rfl) (b:=.c (.int 7)) (y:=.int 7) (o:=.mod) rfl rfl) (b:=.c (.int 6)) (y:=.int 6) rfl (JI _ _)) rfl ?_);unfold qF
 cases (c1.fdiv 41).fmod 7==6 with
 |false=>exact h9
 |true=>
  have e1:ev G (.f (.o2 .lt (.v 7) (.c (.int 4))) (.c (.int 2600)) (.c (.int 200))) U=Aa (.int (if size<4 then 2600 else 200)):=by
   refine TA (t:=decide (size<4)) (x:=.bool (decide (size<4))) (AO h7 (b:=.c (.int 4)) (y:=.int 4) rfl rfl) rfl ?_
   by_cases q:size<4
   ·rw[if_pos q,if_pos (decide_eq_true q)];rfl
   ·rw[if_neg q,if_neg (by simpa using q)];rfl
  have e2:ev G (.o2 .mod (.o2 .fdiv (.o2 .i (.v 3) (.c (.int 1))) (.c (.int 287))) (.c (.int 60))) U=Aa (.int ((c1.fdiv 287).fmod 60)):=AO (AO h (b:=.c (.int 287)) (y:=.int 287) (o:=.fdiv) rfl rfl) (b:=.c (.int 60)) (y:=.int 60) (o:=.mod) rfl rfl;have e3:=AO (o:=.pow) (a:=.c (.int 3)) (x:=.int 3) (U:=U) (G:=G) rfl (AO e1 e2 (o:=.a) (z:=.int (qx c1 size)) rfl) (M5 (by omega) (by rw[show BV 3=2 from rfl];omega));refine AO h9 e3 (NO (n:=6000) ?_ ?_ (by decide))
  ·have h0:=gD c1;exact AY (by omega:(q0 c1).natAbs<2^5) (Bu (by decide) (by decide))
  ·rw[Ux];exact AY (O5 _) (Bu (by decide) (by omega))
end
def qn(q:Int)(a:Nat):Int:=FR ((Bp a).map λ k=>q^k)
theorem XJ:∀a b:List Int,FR (a++b)=FR a+FR b:=λ I0=>by
 induction I0 with
 |nil=>intro b;show FR b=0+FR b;exact Eq.symm (Int.zero_add (FR b))
 |cons x a IH=>intro b;show x+FR (a++b)=x+FR a+FR b;rw[IH b];exact Eq.symm (Int.add_assoc x (FR a) (FR b))
theorem JV(q:Int)(a:Nat):qn q (a+1)=qn q a+q^a:=by
 unfold qn;rw[List.range_succ,C5,XJ];show _+(q^a+0)=_
 lia
theorem W3(q:Int):∀a:Nat,(q - 1)*qn q a=q^a - 1:=λ I0=>by
 induction I0 with
 |zero=>rw[Ox];show(q - 1)*0=1 - 1;lia
 |succ a IH=>rw[JV,LM,IH,Int.sub_mul,Zu,Oy,Kr q];lia
theorem W0:∀a:Nat,qn 1 a=a:=λ I0=>by
 induction I0 with
 |zero=>exact rfl
 |succ a IH=>rw[JV,IH,Int.one_pow];rfl
theorem HB{q:Int}{M:Nat}(h:q.natAbs<2^M)(a:Nat):(q^a).natAbs<=2^(M*a):=by rw[RP,Nat.pow_mul];exact Nat.pow_le_pow_left (B9 h) a
noncomputable abbrev R7:List Nat:=[0,1,2,3,4,5,6]
theorem OP{P:Nat->Prop}(h0:P 0)(h1:P 1)(h2:P 2)(h3:P 3)(h4:P 4)(h5:P 5)(h6:P 6):∀a∈R7,P a:=
 List.forall_mem_cons.mpr ⟨h0,List.forall_mem_cons.mpr ⟨h1,List.forall_mem_cons.mpr ⟨h2,List.forall_mem_cons.mpr ⟨h3,List.forall_mem_cons.mpr ⟨h4,List.forall_mem_cons.mpr ⟨h5,List.forall_mem_cons.mpr ⟨h6,(λ _ h=>absurd h List.not_mem_nil)⟩⟩⟩⟩⟩⟩⟩
theorem kE{G:EZ}{x0 x2:LV}:∀a∈R7,EU G (.r (.v 1)) [x0,L a,x2,.u,.u]=Aa ((Bp a).map I):=
 OP rfl rfl rfl rfl rfl rfl rfl
theorem Xx{a:Nat}(h:a∈R7):a<=6:=by
 have:∀a∈R7,a<=6:=by decide
 exact this a h
theorem CE{a b:Nat}(h:a<=b):2^a<=2^b:=Bu (by decide) h
theorem rO{G:EZ}{U:AQ}{a b:Ex}{v:V}(ha:ev G a U=Aa (.bool Ab))(hb:ev G b U=Aa v):ev G (.bool Ab (.cons a (.cons b .nil))) U=Aa v:=by show((ev G a U).bind λ v=>(truthy v).bind λ c=>Ca (c==Ab) (ev G b U) (Aa v))=_;rw[ha];exact hb
theorem Nd{Z O:Type}{x:Option Z}{f:Z->Option O}{u:Z}{r:Option O}(h:x=Aa u)(k:f u=r):x.bind f=r:=by rw[h];exact k
theorem eG{q:Int}{M a:Nat}(hq:q≠1)(h:q.natAbs<2^M)(hM:M*6<=32400)(ha:a∈R7):eH (GL 11) q a=Aa (.int (qn q a)):=by
 have h6:=Xx ha;have hMa:=Ak (Bf M h6) hM;have bq:=Fj h;have pa:=HB h a;have c:GL 11 84 [.int (q^a - 1),.int (q - 1)] Ae=Aa (.tup [.int (qn q a),.int 0]):=by
  refine hI (by decide) ⟨by omega,?_,?_⟩ ⟨by rw[W3,Int.add_zero],by lia⟩
  ·refine Ak (Fj (n:=M+1) ?_) (by lia);rw[CX];have:=A3 M;omega
  ·refine Ak (Fj (n:=M*a+2) ?_) (by lia);rw[CX,CX];have:=A3 (M*a);omega
 have hp:∀k:Nat,k<=6->Cj .pow (.int q) (I k)=Aa (.int (q^k)):=λ k hk=>by
  have:=M5 (a:=q) (AZ k) (by
   have:((BV q*k:Nat):Int)<=32400:=by
    have h1:=LL bq hk
    lia
   rw[HO] at this;lia)
  rw[this,Cd]
 have c1:ev (GL 11) oG [.w (.int q),L a,.u,.u,.u]=Aa (.tup [.int (qn q a),.int 0]):=
  CB (AC (AO (AO rfl rfl (hp a h6)) rfl rfl) (AC (AO rfl rfl rfl) BW)) c
 have c2:ev (GL 11) (.o1 .sum (.comp [4] (.one 4) (.r (.v 1)) .nil (.o2 .pow (.v 0) (.v 4)))) [.w (.int q),L a,.w (.tup [.int (qn q a),.int 0]),.u,.u]=Aa (.int (qn q a)):=by
  refine H4 (DK (ys:=((Bp a).map λ k=>q^k).map .int) (kE a ha) rfl ?_ ?_) ?_
  ·rw[Mj (g:=λ v=>match v with|.int k=>.int (q^k.toNat)|_=>.none) λ x hx=>?_]
   ·rw[BF,BF];rfl
   ·obtain⟨k,hk,rfl⟩:=List.mem_map.mp hx;have hk:=List.mem_range.mp hk;show(ev (GL 11) (.o2 .pow (.v 0) (.v 4)) [.w (.int q),L a,.w (.tup [.int (qn q a),.int 0]),.u,L k]).map (λ v=>[v])=_;rw[AO rfl rfl (hp k (by lia))];rfl
  ·rw[Ag,Ag,C3];exact Ak h6 (by decide)
  ·show(PM (((Bp a).map λ k=>q^k).map .int)).map V.int=_;rw[Ld];rfl
 refine Nd c1 ?_;generalize hr:qn q a=r at*;have c3:ev (GL 11) (.o2 .eq (.v 2) (.tup (.cons (.o1 .sum (.comp [4] (.one 4) (.r (.v 1)) .nil (.o2 .pow (.v 0) (.v 4)))) (.cons (.c (.int 0)) .nil)))) [.w (.int q),L a,.w (.tup [.int r,.int 0]),.u,.u]=Aa (.bool Ab):=by refine AO rfl (O4 (AC c2 (AC rfl BW))) ?_;show Aa (V.bool ((r==r)&&((0:Int)==0&&Ab)))=_;rw[beq_self_eq_true];rfl
 have c4:ev (GL 11) (.o2 .ne (.v 0) (.c (.int 1))) [.w (.int q),L a,.w (.tup [.int r,.int 0]),.u,.u]=Aa (.bool Ab):=by refine AO rfl rfl ?_;show Aa (V.bool !(q==1))=_;rw[beq_false_of_ne hq];rfl
 have c5:ev (GL 11) (.o2 .i (.v 2) (.c (.int 0))) [.w (.int q),L a,.w (.tup [.int r,.int 0]),.u,.u]=Aa (.int r):=rfl;unfold dT;refine TA (x:=.bool Ab) ?h rfl (by rw[if_pos rfl];exact c5);exact rO c3 c4
noncomputable def OM(z:Nat):List Nat:=(Bp (max z 3)).map (·+1)
def II(z:Nat)(q:Int):V:=.list ((OM z).map λ a=>.int (qn q a))
def ρ9(x0 x1 x2 x3 x4 x5 x6:LV)(z:Nat)(x8:LV)(q:Int)(x11:LV):AQ:=[x0,x1,x2,x3,x4,x5,x6,L z,x8,.w (.int q),.u,x11]++AD 62 .u
theorem T0:∀z∈R7,∀a∈OM z,a∈R7:=by decide+kernel
section
variable{x0 x1 x2 x3 x4 x5 x6 x8 x11:LV}
theorem it9:∀z∈R7,EU G Pl (ρ9 x0 x1 x2 x3 x4 x5 x6 z x8 q x11)=Aa ((OM z).map I):=
 OP (by kernel_rfl) (by kernel_rfl) (by kernel_rfl) (by kernel_rfl) (by kernel_rfl) (by kernel_rfl) (by kernel_rfl)
theorem NG:∀z∈R7,(OM z).length<=6:=by decide+kernel
theorem jH{z:Nat}(hz:z∈R7)(hq:q.natAbs<2^5326):∃ρ1,ρ1=ρ9 x0 x1 x2 x3 x4 x5 x6 z x8 q .u/\
  (CD (GL 12) 64 (C1 9 A4) ρ1=Aa (.next,ρ9 x0 x1 x2 x3 x4 x5 x6 z x8 q (.w (II z q)))\/∃xs,rd ρ1 9=.w (.int 1)/\EU (GL 12) Pl ρ1=Aa xs/\UA xs/\xs.length<=CN/\43<ρ1.length/\rd ρ1 43=.u/\ρ9 x0 x1 x2 x3 x4 x5 x6 z x8 q (.w (II z q))=wr ρ1 11 (.w (.list xs))):=by
 refine⟨_,rfl,?_⟩;have hl:((OM z).map I).length<=CN:=by rw[Ag];exact Ak (NG z hz) (by decide)
 by_cases e:q=1
 ·right;subst e;refine⟨(OM z).map I,rfl,it9 z hz,λ x hx=>?_,hl,by show 43<74;decide,rfl,?_⟩
  ·obtain⟨a,ha,rfl⟩:=List.mem_map.mp hx;have h6:=Xx (T0 z hz a ha);have p:Cj .pow (.int 1) (I a)=Aa (.int ((1:Int)^a)):=by
    have:=M5 (AZ a) (by rw[show BV 1=1 from rfl];lia);rw[this,Cd]
   exact⟨a,_,rfl,AO (AO rfl rfl p) rfl rfl⟩
  ·show _=ρ9 x0 x1 x2 x3 x4 x5 x6 z x8 1 (.w (.list ((OM z).map I)));unfold II;rw[show(OM z).map (λ a=>V.int (qn 1 a))=(OM z).map I from HN λ a y=>by rw[W0]]
 ·left;have c:=Mj (f:=λ x=>(Ck (.one 43) x (Du [43] (ρ9 x0 x1 x2 x3 x4 x5 x6 z x8 q .u))).bind (ED (CC (GL 12) .nil) (ev (GL 12) (.call 170 (.cons (.v 9) (.cons (.v 43) .nil)) Ae)))) (g:=λ v=>match v with|.int k=>.int (qn q k.toNat)|_=>.none) λ x hx=>by
   obtain⟨a,ha,rfl⟩:=List.mem_map.mp hx;have h:=eG e hq (by decide) (T0 z hz a ha);show(ev (GL 12) (.call 170 (.cons (.v 9) (.cons (.v 43) .nil)) Ae) (wr (Du [43] (ρ9 x0 x1 x2 x3 x4 x5 x6 z x8 q .u)) 43 (L a))).map (λ v=>[v])=_;rw[CB (AC rfl (AC rfl BW)) (show GL 12 170 [.int q,I a] Ae=_ from h)];rfl
  rw[BF] at c;exact Cc (DK (it9 z hz) rfl c (by rw[Ag];exact Ak (NG z hz) (by decide)))
end
noncomputable def Nv(n:Nat)(lo:Option Int):Nat:=lo.elim 0 (O3 n)
noncomputable def PP(n:Nat)(hi:Option Int):Nat:=hi.elim n (O3 n)
def jR{Z:Type}(s:List Z)(lo hi:Option Int):List Z:=(s.drop (Nv s.length lo)).take (PP s.length hi - Nv s.length lo)
theorem U3{Z:Type}(s:List Z)(lo hi:Option Int):EA s lo hi Ae=jR s lo hi:=by unfold EA;rw[sliceBounds_plain];show(xR (Nv s.length lo) (PP s.length hi) 1).filterMap _=_;rw[sliceRange_one];have h:=pick_run s.toArray (Nv s.length lo) (PP s.length hi - Nv s.length lo);simpa[jR] using h
theorem Rb(n:Nat)(lo hi:Option Int):Bx lo hi 1 n=xR (Nv n lo) (PP n hi) 1:=by
 unfold Nv PP Bx
 cases lo<;>cases hi<;>simp[clipAt_cast]
theorem WP(s:List Nat)(lo hi:Option Int):aG s lo hi Ae=Aa (.str (jR s lo hi)):=by
 show Aa (V.str (if(Bx lo hi 1 s.length).length==s.length then s else EA s lo hi Ae))=_;rw[U3]
 by_cases h:((Bx lo hi 1 s.length).length==s.length)=Ab
 ·rw[if_pos h];rw[Rb,sliceRange_one,Ag,C3] at h;have h:=eq_of_beq h;have hb:PP s.length hi<=s.length:=by
   cases hi with
   |none=>exact A1 _
   |some i=>show O3 s.length i<=_;have:=clipAt_cast s.length i;omega
  unfold jR;rw[Dn (by rw[BS];omega)];rcases F7 s.length with q|q
  ·rw[List.length_eq_zero_iff.mp q,List.drop_nil]
  ·rw[show Nv s.length lo=0 by omega,K9]
 ·rw[if_neg h]
noncomputable def qU{Z:Type}(s:List Z)(a b:Nat):List Z:=(s.drop a).take (b - a)
theorem fW(s:List Nat)(a b:Nat):aG s (Aa a) (Aa b) Ae=Aa (.str (qU s a b)):=by
 rw[WP];unfold jR Nv PP qU;show Aa (V.str ((s.drop (O3 s.length a)).take (O3 s.length b - O3 s.length a)))=_;rw[xZ,xZ];rcases CV s.length a with q|q
 ·rw[Kc (B9 q),show min b s.length - min a s.length=0 by omega,List.take_nil];rfl
 ·rw[EQ q];rcases CV s.length b with q2|q2
  ·rw[Dn (by rw[BS];omega),Dn (by rw[BS];omega)]
  ·rw[EQ q2]
theorem fX(s:List Nat)(a:Nat):aG s (Aa a) Ae Ae=Aa (.str (s.drop a)):=by
 rw[WP];unfold jR Nv PP;show Aa (V.str ((s.drop (O3 s.length a)).take (s.length - O3 s.length a)))=_;rw[xZ];rcases CV s.length a with q|q
 ·rw[Kc (B9 q),show s.length - min a s.length=0 by omega];rfl
 ·rw[EQ q,Dn (by rw[BS];exact A1 (s.length - a))]
theorem ne_n(a b:Nat):Cj .ne (I a) (I b)=Aa (.bool !(a==b)):=by
 show Aa (V.bool !((a:Int)==b))=_
 by_cases h:a=b
 ·subst h;simp
 ·rw[beq_false_of_ne h,beq_false_of_ne (Nat.ToInt.of_diseq rfl rfl h)]
def bF:Option Nat->V
 |none=>.none
 |some i=>I i
structure Sp where
 start:Nat
 op:Option Nat
 res:List (List Nat)
def Sp.quote(s:List Nat)(p:Nat)(S:Sp):Sp:=match S.op with
 |none=>⟨S.start,Aa p,S.res⟩
 |some o=>⟨p+1,Ae,if S.start=o then S.res else S.res++[qU s S.start o]⟩
noncomputable def V7(s:List Nat):List Nat->Nat->Bool->Sp->Sp
 |[],_,_,S=>S
 |_::r,p,Ab,S=>V7 s r (p+1) Ai S
 |c::r,p,Ai,S=>bif AG c 92 then V7 s r (p+1) Ab S else V7 s r (p+1) Ai (bif AG c 34 then S.quote s p else S)
def Sp.rh(s:List Nat)(S:Sp)(x4 x5:LV):AQ:=[.w (.str s),L S.start,.w (bF S.op),.x (S.res.map .str),x4,x5]
noncomputable def MT:List Nat->Bool->Nat->Option Nat
 |[],_,n=>Aa n
 |_::r,Ab,n=>MT r Ai n
 |c::r,Ai,n=>bif AG c 92 then MT r Ab n else bif AG c 40 then MT r Ai (n+1) else bif AG c 41 then(match n with|0=>Ae|n+1=>MT r Ai n) else MT r Ai n
theorem NE{c:List Nat}(h:c.all (λ x=>decide (x<128))=Ab):V.ok 8 (.str c)=Ab:=by show c.all (·<55296)=Ab;rw[Al] at h ⊢;intro x hx;have:=of_decide_eq_true (h x hx);exact decide_eq_true (by omega)
theorem S0{c d:List Nat}(h:c.all (λ x=>decide (x<128))=Ab)(h':d.all (λ x=>decide (x<128))=Ab):Cj .eq (.str c) (.str d)=Aa (.bool (c==d)):=by show(if(V.ok 8 (.str c)&&V.ok 8 (.str d))=Ab then Aa (V.bool (c==d)) else Ae)=_;rw[NE h,NE h'];rfl
noncomputable abbrev Ng(s:List Nat):Bool:=s.all λ x=>decide (x<128)
theorem DZ{c:Nat}{r:List Nat}(h:Ng (c::r)=Ab):c<128/\Ng r=Ab:=CJ h λ h1 h2=>⟨of_decide_eq_true h1,h2⟩
theorem pZ{c:Nat}(h:c<128):Ng [c]=Ab:=by show(decide (c<128)&&Ab)=Ab;rw[decide_eq_true h];rfl
theorem xD{c:Nat}(h:c<128):Ng [92,c]=Ab:=by show(decide (92<128)&&(decide (c<128)&&Ab))=Ab;rw[decide_eq_true h];rfl
theorem Ti(c d:Nat):([c]==[d])=AG c d:=by
 show(c==d&&Ab)=AG c d;rw[xY]
 by_cases e:c=d
 ·subst e;rw[beq_self_eq_true];exact(VV c).symm
 ·rw[beq_false_of_ne e]
  cases q:AG c d with
  |false=>rfl
  |true=>exact absurd (Av q) e
section
variable{s:List Nat}{S:Sp}{x4 x5:LV}
abbrev yT:E5:=match C1 4 BM with
 |.g _ _ _ b=>b
 |_=>.nil
abbrev bCn:E5:=match C1 2 Cs with
 |.g _ _ _ b=>b
 |_=>.nil
theorem WK{p:Int}{c:List Nat}(hc:Ng c=Ab)(h:(c==[34])=Ai):Bw G F yT (S.rh s (.w (.int p)) (.w (.str c)))=Aa (.next,S.rh s (.w (.int p)) (.w (.str c))):=by refine Ap (B0 ?_ rfl) rfl;refine(He (AO rfl rfl (S0 hc rfl))).trans ?_;rw[h];rfl
theorem jQ{p:Nat}(hr:S.res.length<CN):Bw G F yT (S.rh s (L p) (.w (.str [34])))=Aa (.next,(S.quote s p).rh s (L p) (.w (.str [34]))):=by
 refine Ap (DC rfl ?_) rfl;obtain⟨st,op,res⟩:=S
 cases op with
 |none=>exact Ap (DC rfl (Ap (Cc rfl) rfl)) rfl
 |some o=>
  have tn:Gr G (.o2 .ne (.v 1) (.v 2)) (Sp.rh s ⟨st,Aa o,res⟩ (L p) (.w (.str [34])))=Aa (!(st==o)):=(He (AO rfl rfl (ne_n st o))).trans rfl;refine Ap (B0 rfl (Ap (U':=Sp.rh s ⟨st,Aa o,if st=o then res else res++[qU s st o]⟩ (L p) (.w (.str [34]))) ?_ (Ap (Cc (AO rfl rfl rfl)) (Ap (Cc rfl) rfl)))) rfl
  by_cases e:st=o
  ·rw[if_pos e];refine B0 (tn.trans ?_) rfl;rw[beq_iff_eq.mpr e];rfl
  ·rw[if_neg e];refine DC (tn.trans (by rw[beq_false_of_ne e];rfl)) (Ap (TS rfl (R5 rfl rfl rfl rfl (fW s st o)) (by rw[Ag];exact hr)) ?_);unfold Sp.rh;rw[C5];rfl
theorem Pb{p:Nat}:(S.quote s p).res.length<=S.res.length+1:=by
 obtain⟨st,op,res⟩:=S
 cases op with
 |none=>exact Dw _
 |some o=>
  show(if st=o then res else res++[qU s st o]).length<=res.length+1
  by_cases e:st=o
  ·rw[if_pos e];exact Dw _
  ·rw[if_neg e,AB];exact A1 _
theorem aF:∀(l:List Nat) (p:Nat) (esc:Bool) (S:Sp) (x4 x5:LV),Ng l=Ab->S.res.length+l.length<CN->∃y4 y5,B7 (.m [4,5]) (Bw G F yT) (FU l p esc) (S.rh s x4 x5)=Aa (.next,(V7 s l p esc S).rh s y4 y5):=λ l=>by
 induction l with
 |nil=>
  intro p esc S x4 x5 z z2
  induction esc with
  |false=>exact⟨x4,x5,rfl⟩
  |true=>exact⟨_,_,Eg rfl (WK rfl rfl) rfl⟩
 |cons c r IH=>
  intro p esc S x4 x5 h hl
  induction esc with
  |true=>obtain⟨y4,y5,ih⟩:=IH (p+1) Ai S (L p) (.w (.str [92,c])) (DZ h).2 (Bc (Di (Dw _) _) hl);exact⟨y4,y5,Eg rfl (WK (xD (DZ h).1) rfl) ih⟩
  |false=>
    have hl':=Bc (Di (Dw _) _) hl;have hc:=(DZ h).1
    by_cases e:c=92
    ·subst e;exact IH (p+1) Ab S x4 x5 (DZ h).2 hl'
    ·have e2:AG c 92=Ai:=by cases q:AG c 92 with
      |false=>rfl
      |true=>exact absurd (Av q) e
     show∃y4 y5,B7 (.m [4,5]) (Bw G F yT) (if c=92 then FU r (p+1) Ab else .tup [.int p,.str [c]]::FU r (p+1) Ai) (S.rh s x4 x5)=Aa (.next,(bif AG c 92 then V7 s r (p+1) Ab S else V7 s r (p+1) Ai (bif AG c 34 then S.quote s p else S)).rh s y4 y5);rw[if_neg e,e2]
     cases q:AG c 34 with
     |false=>obtain⟨y4,y5,ih⟩:=IH (p+1) Ai S (L p) (.w (.str [c])) (DZ h).2 hl';exact⟨y4,y5,Eg rfl (WK (pZ hc) ((Ti c 34).trans q)) ih⟩
     |true=>have:=Av q;subst this;have:=Pb (S:=S) (s:=s) (p:=p);obtain⟨y4,y5,ih⟩:=IH (p+1) Ai (S.quote s p) (L p) (.w (.str [34])) (DZ h).2 (by rw[Bl] at hl;omega);exact⟨y4,y5,Eg rfl (jQ (Nat.lt_of_add_right_lt hl')) ih⟩
end
noncomputable def qT(s:List Nat)(S:Sp):List (List Nat):=if S.start<s.length then S.res++[s.drop S.start] else S.res
def MB(s:List Nat):List Nat:=bif s.contains 34 then(qT s (V7 s s 0 Ai ⟨0,Ae,[]⟩)).flatten else s
noncomputable def zero:Option Nat->Bool
 |some 0=>Ab
 |_=>Ai
def P7(s:List Nat):Bool:=Ng s&&Ie s.length 1000
def Od(s:List Nat):Option Bool:=bif P7 s&&P7 (MB s) then Aa (zero (MT (MB s) Ai 0)) else Ae
theorem Ve:∀l:List (List Nat),Pk (l.map .str)=Aa l.flatten:=λ I0=>by
 induction I0 with
 |nil=>exact rfl
 |cons x r IH=>show((Pk (r.map .str)).map λ y=>x++y)=_;rw[IH];rfl
theorem uT{l:List (List Nat)}(h:l.flatten.length<=CN):Cj .join (.str []) (.list (l.map .str))=Aa (.str l.flatten):=by show((Pk (l.map .str)).bind λ y=>if y.length<=CN then Aa (V.str y) else Ae)=_;rw[Ve];exact if_pos h
theorem JH{s:List Nat}(h:P7 s=Ab):Ng s=Ab/\s.length<=1000:=CJ h λ h1 h2=>⟨h1,AN h2⟩
theorem XD{t:Tg}{B:AQ->Option (Fl×AQ)}{x v:V}{xs:List V}{U U'1 U':AQ}(hb:Ck t x U=Aa U'1)(h:B U'1=Aa (.ret v,U')):B7 t B (x::xs) U=Aa (.ret v,U'):=by show((Ck t x U).bind λ U'=>(B U').bind λ r=>E9 r (B7 t B xs))=_;rw[hb];show((B U'1).bind λ r=>E9 r (B7 t B xs))=_;rw[h];rfl
theorem W5{t:Tg}{e:Ex}{b:E5}{s:List Nat}{U:AQ}{p:Fl×AQ}(h:ev G e U=Aa (.str s))(ha:Ng s=Ab)(k:B7 t (Bw G F b) (HK s 0) U=Aa p):CD G F (.g t 21 e b) U=Aa p:=by show((ev G e U).bind Jb).bind (λ s=>Ca ((21:Nat)==21&&Ng s) (B7 t (Bw G F b) (HK s 0) U) Ae)=_;rw[h];show Ca ((21:Nat)==21&&Ng s) (B7 t (Bw G F b) (HK s 0) U) Ae=_;rw[ha];exact k
theorem WB{j:Nat}{s:List Nat}(h:P7 s=Ab)(h2:P7 (MB s)=Ab):GL (j+1) 28 [.str s] Ae=Aa (.str (MB s)):=by
 obtain⟨ha,hl⟩:=JH h;have hl2:=(JH h2).2;unfold MB at hl2 ⊢;have t0:∀U:AQ,rd U 0=.w (.str s)->Gr (GL j) (.o2 .notin (.c (.str [34])) (.v 0)) U=Aa (!s.contains 34):=λ U h0=>(He (AO (b:=.v 0) rfl (congrArg Bv h0) rfl)).trans rfl
 cases q:s.contains 34 with
 |false=>refine DM rfl rfl rfl (Dd (DC ((t0 _ rfl).trans (by rw[q];rfl)) (r1 (En rfl)))) rfl
 |true=>
  rw[q] at hl2;obtain⟨y4,y5,hloop⟩:=aF (G:=GL j) (F:=64) s 0 Ai ⟨0,Ae,[]⟩ .u .u ha (by show 0+s.length<CN;exact Bc (by omega:0+s.length<=1000) (by decide));have hlen:(V7 s s 0 Ai ⟨0,Ae,[]⟩).res.length<=0+s.length:=by
   have:∀(l:List Nat) (p:Nat) (esc:Bool) (S:Sp),(V7 s l p esc S).res.length<=S.res.length+l.length:=λ l=>by
    induction l with
    |nil=>exact λ z z z=>A1 _
    |cons c r ih=>intro p esc S;cases esc with
     |true=>exact Ak (ih _ _ _) (Di (Dw _) _)
     |false=>
      show(bif AG c 92 then V7 s r (p+1) Ab S else V7 s r (p+1) Ai (bif AG c 34 then S.quote s p else S)).res.length<=S.res.length+(r.length+1)
      cases AG c 92 with
      |true=>exact Ak (ih _ _ _) (Di (Dw _) _)
      |false=>
       refine Ak (ih _ _ _) ?_
       cases AG c 34 with
       |true=>have:=Pb (S:=S) (s:=s) (p:=p);show(S.quote s p).res.length+r.length<=_;omega
       |false=>exact Di (Dw _) _
   exact this s 0 Ai ⟨0,Ae,[]⟩
  have hl2:=hl2;generalize V7 s s 0 Ai ⟨0,Ae,[]⟩=S at*;have s5:CD (GL j) 64 (C1 5 BM) (S.rh s y4 y5)=Aa (.next,[.w (.str s),L S.start,.w (bF S.op),.x ((qT s S).map .str),y4,y5]):=by
   have t5:Gr (GL j) (.o2 .lt (.v 1) (.o1 .len (.v 0))) (S.rh s y4 y5)=Aa (decide ((S.start:Int)<(s.length:Int))):=(He (AO rfl rfl rfl)).trans rfl;unfold qT
   by_cases e:S.start<s.length
   ·rw[if_pos e];refine DC (t5.trans (by rw[decide_eq_true (Int.ofNat_lt.mpr e)])) (Ap (TS rfl (R5 rfl rfl rfl rfl (fX s S.start)) (by rw[Ag];exact Bc (by omega:S.res.length<=1000) (by decide))) ?_);rw[C5];rfl
   ·rw[if_neg e];exact B0 (t5.trans (by rw[decide_eq_false λ h=>e (Int.ofNat_lt.mp h)])) rfl
  have s0:CD (GL j) 64 (C1 0 BM) [.w (.str s),.u,.u,.u,.u,.u]=Aa (.next,[.w (.str s),.u,.u,.u,.u,.u]):=B0 ((t0 _ rfl).trans (by rw[q];rfl)) rfl;have s7:CD (GL j) 64 (C1 7 BM) [.w (.str s),L S.start,.w (bF S.op),.w (.list ((qT s S).map .str)),y4,y5]=Aa (.ret (.str (qT s S).flatten),[.w (.str s),L S.start,.w (bF S.op),.w (.list ((qT s S).map .str)),y4,y5]):=En (AO rfl rfl (uT (Ak hl2 (by decide))));exact DM rfl rfl rfl (Ap s0 (Ap rfl (Ap rfl (Ap rfl (Ap (W5 rfl ha hloop) (Ap s5 (Ap rfl (Dd s7)))))))) rfl
theorem wV{c d:List Nat}{x0 x1 x2:LV}(hc:Ng c=Ab)(hd:Ng d=Ab):Gr G (.o2 .eq (.v 3) (.c (.str d))) [x0,x1,x2,.w (.str c)]=Aa (c==d):=
 (He (AO rfl rfl (S0 hc hd))).trans rfl
theorem YV{x0 x1 x2:LV}{c:List Nat}(hc:Ng c=Ab)(h:(c==[40])=Ai)(h':(c==[41])=Ai):Bw G F bCn [x0,x1,x2,.w (.str c)]=Aa (.next,[x0,x1,x2,.w (.str c)]):=
 Ap (B0 ((wV hc rfl).trans (congrArg Aa h)) (Ap (B0 ((wV hc rfl).trans (congrArg Aa h')) rfl) rfl)) rfl
theorem eI{x0:LV}:∀(l:List Nat) (p:Nat) (esc:Bool) (n:Nat) (x2 x3:LV),Ng l=Ab->∃y2 y3,B7 (.m [2,3]) (Bw G F bCn) (FU l p esc) [x0,L n,x2,x3]=Aa (match MT l esc n with|some m=>(Fl.next,[x0,L m,y2,y3])|none=>(Fl.ret (.bool Ai),[x0,.w (.int (-1)),y2,y3])):=λ l=>by
 induction l with
 |nil=>
  intro p esc n x2 x3 z
  induction esc with
  |false=>exact⟨x2,x3,rfl⟩
  |true=>exact⟨.w (.int ((p:Int) - 1)),.w (.str [92]),Eg rfl (YV rfl rfl rfl) rfl⟩
 |cons c r IH=>
  intro p esc n x2 x3 h
  induction esc with
  |true=>obtain⟨y4,y5,ih⟩:=IH (p+1) Ai n (L p) (.w (.str [92,c])) (DZ h).2;exact⟨y4,y5,Eg rfl (YV (xD (DZ h).1) rfl rfl) ih⟩
  |false=>
    have hc:=(DZ h).1
    by_cases e:c=92
    ·subst e;exact IH (p+1) Ab n x2 x3 (DZ h).2
    ·have e2:AG c 92=Ai:=by cases q:AG c 92 with
      |false=>rfl
      |true=>exact absurd (Av q) e
     show∃y2 y3,B7 (.m [2,3]) (Bw G F bCn) (if c=92 then FU r (p+1) Ab else .tup [.int p,.str [c]]::FU r (p+1) Ai) [x0,L n,x2,x3]=Aa (match(bif AG c 92 then MT r Ab n else bif AG c 40 then MT r Ai (n+1) else bif AG c 41 then(match n with|0=>Ae|n+1=>MT r Ai n) else MT r Ai n) with|some m=>(Fl.next,[x0,L m,y2,y3])|none=>(Fl.ret (.bool Ai),[x0,.w (.int (-1)),y2,y3]))
     rw[if_neg e,e2,cond_false]
     cases q:AG c 40 with
     |true=>have:=Av q;subst this;obtain⟨y4,y5,ih⟩:=IH (p+1) Ai (n+1) (L p) (.w (.str [40])) (DZ h).2;exact⟨y4,y5,Eg rfl (Ap (DC rfl (Ap (HT rfl rfl rfl rfl) rfl)) rfl) ih⟩
     |false=>
      rw[cond_false]
      cases q':AG c 41 with
      |false=>obtain⟨y4,y5,ih⟩:=IH (p+1) Ai n (L p) (.w (.str [c])) (DZ h).2;exact⟨y4,y5,Eg rfl (YV (pZ hc) ((Ti c 40).trans q) ((Ti c 41).trans q')) ih⟩
      |true=>
       have:=Av q';subst this;rw[cond_true];rcases n with _|n
       ·exact⟨L p,.w (.str [41]),XD rfl (Dd (B0 rfl (r1 (DC rfl (Ap (HT rfl rfl rfl rfl) (Dd (DC rfl (r1 (En rfl)))))))))⟩
       ·obtain⟨y4,y5,ih⟩:=IH (p+1) Ai n (L p) (.w (.str [41])) (DZ h).2;refine⟨y4,y5,Eg rfl (Ap (B0 rfl (Ap (DC rfl (Ap (HT (y:=I 1) rfl rfl rfl (QO (by omega))) (Ap (B0 (Nn rfl (decide_eq_false (by omega))) rfl) rfl))) rfl)) rfl) ih⟩
theorem YY{j:Nat}{s:List Nat}{b:Bool}(h:Od s=Aa b):GL (j+2) 35 [.str s] Ae=Aa (.bool b):=by
 unfold Od at h
 cases q:P7 s&&P7 (MB s) with
 |false=>rw[q] at h;exact nn h
 |true=>
  rw[q] at h;obtain rfl:=sj h;refine CJ q λ h1 h2=>?_;have c28:=WB (j:=j) h1 h2;generalize MB s=y at*;obtain⟨y2,y3,hl⟩:=eI y 0 Ai 0 .u .u (JH h2).1;have s0:CD (GL (j+1)) 64 (C1 0 Cs) [.w (.str s),.u,.u,.u]=Aa (.next,[.w (.str y),.u,.u,.u]):=Cc (CB (AC rfl BW) c28);have s2:CD (GL (j+1)) 64 (C1 2 Cs) [.w (.str y),L 0,.u,.u]=_:=W5 rfl (JH h2).1 hl;have s1:CD (GL (j+1)) 64 (C1 1 Cs) [.w (.str y),.u,.u,.u]=Aa (.next,[.w (.str y),L 0,.u,.u]):=rfl
  cases e:MT y Ai 0 with
  |none=>rw[e] at s2;exact DM rfl rfl rfl (Ap s0 (Ap s1 (Dd s2))) rfl
  |some m=>rw[e] at s2;refine DM rfl rfl rfl (Ap s0 (Ap s1 (Ap s2 (r1 (En (AO rfl rfl ((nX m 0).trans ?_))))))) rfl;rcases m with _|m<;>rfl
noncomputable abbrev Kl:List Nat:=[40,39,39,44,32,39,39,41]
theorem kP{j:Nat}{T:List (List Nat×Bool)}(h:∀p∈T,Od p.1=Aa p.2)(hl:T.length<CN):GL (j+3) 42 [.list (T.map λ p=>V.str p.1)] Ae=Aa (.list (T.map λ p=>V.str (bif p.2 then p.1 else Kl))):=by
 have loop:∀(T:List (List Nat×Bool)) (acc:List V) (x0 x2:LV),(∀p∈T,Od p.1=Aa p.2)->acc.length+T.length<CN->∃y2,B7 (.one 2) (Bw (GL (j+2)) 64 (.cons (.f (.not (.call 35 (.cons (.v 2) .nil) Ae)) (.cons (.asg 2 (.c (.str Kl))) .nil) .nil) (.cons (.append 1 (.v 2)) .nil))) (T.map λ p=>V.str p.1) [x0,.x acc,x2]=Aa (.next,[x0,.x (acc++T.map λ p=>V.str (bif p.2 then p.1 else Kl)),y2]):=λ T=>by
  induction T with
  |nil=>intro acc x0 x2 z z;exact⟨x2,by rw[UH,UH,DT];rfl⟩
  |cons p r ih=>
   intro acc x0 x2 h hz;obtain⟨s,b⟩:=p;have hc:=YY (j:=j) (h (s,b) (.head _));rw[Bl] at hz;obtain⟨y2,ih⟩:=ih (acc++[.str (bif b then s else Kl)]) x0 (.w (.str (bif b then s else Kl))) (λ p hp=>h p (.tail _ hp)) (by rw[AB];show acc.length+1+r.length<CN;omega);refine⟨y2,?_⟩;rw[A0] at ih;refine Eg rfl (Ap (U':=[x0,.x acc,.w (.str (bif b then s else Kl))]) ?_ (Ap (TS rfl rfl (by omega)) rfl)) ih;have t:Gr (GL (j+2)) (.not (.call 35 (.cons (.v 2) .nil) Ae)) [x0,.x acc,.w (.str s)]=Aa (!b):=by
    have c:=CB (U:=[x0,.x acc,.w (.str s)]) (es:=.cons (.v 2) .nil) (AC rfl BW) hc;have c2:ev (GL (j+2)) (.not (.call 35 (.cons (.v 2) .nil) Ae)) [x0,.x acc,.w (.str s)]=Aa (.bool (!b)):=by show(((ev (GL (j+2)) (.call 35 (.cons (.v 2) .nil) Ae) [x0,.x acc,.w (.str s)]).bind truthy).map λ b=>V.bool (!b))=_;rw[c];rfl
    exact He c2
   cases b with
   |true=>exact B0 t rfl
   |false=>exact DC t (Ap (Cc rfl) rfl)
 obtain⟨y2,hl2⟩:=loop T [] (.w (.list (T.map λ p=>V.str p.1))) .u h (by rw[List.length_nil];omega);rw[Ko] at hl2;exact DM rfl rfl rfl (Ap rfl (Ap (Jv rfl hl2) rfl)) rfl
abbrev JG(g r:List Int)(x2 x3 x4 x5 x6 x7:LV):AQ:=[.w (il g),.w (il r),x2,x3,x4,x5,x6,x7]
def mA{Z O:Type}(f:Z->O)(l:List Z):List O:=@QC Z (λ z=>List O) [] (λ a z ih=>f a::ih) l
def mB{Z O:Type}(f:Z->O)(l:List Z):List O:=(λ l=>@QC Z (λ z=>List O) [] (λ a z ih=>f a::ih) l) l
theorem Zw{Z O:Type}{f g:Z->O}:∀{l:List Z},mA f l=mB g l->∀a∈l,f a=g a:=@λ I0=>by
 induction I0 with
 |nil=>exact@λ _ _ h=>(absurd h List.not_mem_nil)
 |cons b l IH=>
  intro e a h;have e:=e;injection e with e1 e2;rcases AL.mp h with h|h
  ·rw[h];exact e1
  ·exact IH e2 a h
noncomputable def ht:List (List Nat×List Nat):=[([34],[92,40]),([34,40,34],[34]),([92,41],[92]),([97,34,41,34],[34,40,34]),([92,34],[34]),([34,92,34,41,34],[34,40,41]),([92,92,34,40,34],[92,92,40,41])]
noncomputable def gG(c:Nat)(g:List Int)(k x:Nat):List Nat:=if(g.take k).elem (x:Int) then[c] else[]
def pc(g r:List Int)(k x:Nat):List Nat:=gG 40 g k x++gG 41 r k x
noncomputable def qY(g r:List Int)(bb:Bool):List Nat:=[1,2,3].filter λ k=>bif bb then decide (r.getD (k - 1) 0<r.getD k 0) else decide (g.getD k 0<g.getD (k - 1) 0)
def yE(g r:List Int)(k:Nat):List Nat:=[1,2,3,4].flatMap (pc g r k)
def mid(g r:List Int)(bb:Bool):List Nat:=(qY g r bb).flatMap (yE g r)
def UN(g r:List Int)(i:Nat)(bb:Bool):List Nat:=((ht.getD i ([],[])).1++mid g r bb)++(ht.getD i ([],[])).2
noncomputable abbrev eB:Ex:=.o2 .a (.f (.o2 .in_ (.v 6) (.sl (.v 0) .a (.v 5) .a)) (.c (.str [40])) (.c (.str []))) (.f (.o2 .in_ (.v 6) (.sl (.v 1) .a (.v 5) .a)) (.c (.str [41])) (.c (.str [])))
noncomputable abbrev cA:Ex:=.o2 .lt (.o2 .i (.v 1) (.o2 .sub (.v 7) (.c (.int 1)))) (.o2 .i (.v 1) (.v 7))
noncomputable abbrev cB:Ex:=.o2 .gt (.o2 .i (.v 0) (.o2 .sub (.v 7) (.c (.int 1)))) (.o2 .i (.v 0) (.v 7))
noncomputable abbrev cC:Ex:=.o2 .eq (.o2 .mod (.o2 .fdiv (.v 2) (.c (.int 2))) (.c (.int 2))) (.c (.int 0))
noncomputable abbrev wW(c:Ex):Ex:=.comp [7] (.one 7) (.rng2 (.c (.int 1)) (.c (.int 4))) (.cons c .nil) (.v 7)
structure GR(G:EZ)(g r:List Int):Prop where
 p:∀k∈[1,2,3],∀x∈[1,2,3,4],∀(x2 x4 x7:LV) (T:List Nat),ev G eB (JG g r x2 (.w (.str T)) x4 (L k) (L x) x7)=Aa (.str (pc g r k x))
 k:∀(bb:Bool) (x2 x3 x4 x5 x6:LV),ev G (wW (bif bb then cA else cB)) (JG g r x2 x3 x4 x5 x6 .u)=Aa (.list ((qY g r bb).map I))
theorem cR{g r:List Int}{bb:Bool}{k:Nat}(h:k∈qY g r bb):k∈[1,2,3]:=(List.mem_filter.mp h).1
theorem add_str{x y:List Nat}(h:(x++y).length<=1000):Cj .a (.str x) (.str y)=Aa (.str (x++y)):=by rw[AB] at h;exact if_pos (Ak h (by decide))
theorem Zf{x y z:List Nat}{n:Nat}(h:(x++(y++z)).length<=n):(x++y).length<=n:=by rw[<-A0,AB] at h;exact Ak (Cr _ _) h
theorem vD{g r:List Int}(ξ:GR G g r){x2 x4 x7:LV}{k:Nat}(hk:k∈[1,2,3]):∀(xs:List Nat) (T:List Nat) (x6:LV),(∀x∈xs,x∈[1,2,3,4])->(T++xs.flatMap (pc g r k)).length<=1000->∃y6,
  B7 (.one 6) (Bw G F (.cons (.aug 3 .a eB) .nil)) (xs.map I) (JG g r x2 (.w (.str T)) x4 (L k) x6 x7)=Aa (.next,(JG g r x2 (.w (.str (T++xs.flatMap (pc g r k)))) x4 (L k) y6 x7)):=λ I0=>by
 induction I0 with
 |nil=>exact λ T x6 _ _=>⟨x6,by rw[List.flatMap_nil,DT];rfl⟩
 |cons x xs IH=>intro T x6 hx hl;rw[List.flatMap_cons] at hl ⊢;obtain⟨y6,ih⟩:=IH (T++pc g r k x) (L x) (λ y hy=>hx y (.tail _ hy)) (by rw[A0];exact hl);rw[A0] at ih;exact⟨y6,Eg rfl (Ap (HT rfl rfl (ξ.p k hk x (hx x (.head _)) x2 x4 x7 T) (add_str (Zf hl))) rfl) ih⟩
theorem kX{g r:List Int}(ξ:GR G g r){x2 x4 x7:LV}:∀(ks:List Nat) (T:List Nat) (x5 x6:LV),(∀k∈ks,k∈[1,2,3])->(T++ks.flatMap (yE g r)).length<=1000->∃y5 y6,
  B7 (.one 5) (Bw G F (.cons (.for_ (.one 6) (.rng2 (.c (.int 1)) (.c (.int 5))) (.cons (.aug 3 .a eB) .nil)) .nil)) (ks.map I) (JG g r x2 (.w (.str T)) x4 x5 x6 x7)=Aa (.next,(JG g r x2 (.w (.str (T++ks.flatMap (yE g r)))) x4 y5 y6 x7)):=λ I0=>by
 induction I0 with
 |nil=>exact λ T x5 x6 _ _=>⟨x5,x6,by rw[List.flatMap_nil,DT];rfl⟩
 |cons k ks IH=>intro T x5 x6 hk hl;rw[List.flatMap_cons] at hl ⊢;obtain⟨z6,h1⟩:=vD ξ (hk k (.head _)) [1,2,3,4] T x6 (λ x hx=>hx) (Zf hl);obtain⟨y5,y6,ih⟩:=IH (T++yE g r k) (L k) z6 (λ y hy=>hk y (.tail _ hy)) (by rw[A0];exact hl);rw[A0] at ih;exact⟨y5,y6,Eg rfl (Ap (Jv rfl h1) rfl) ih⟩
theorem S4{v:Nat}{it:It}{c c':Fu}{e:Ex}{U:AQ}(h:∀x,CC G c (wr (Du [v] U) v (.w x))=CC G c' (wr (Du [v] U) v (.w x))):ev G (.comp [v] (.one v) it c e) U=ev G (.comp [v] (.one v) it c' e) U:=by
 have ef:(λ x=>(Ck (.one v) x (Du [v] U)).bind (ED (CC G c) (ev G e)))=λ x=>(Ck (.one v) x (Du [v] U)).bind (ED (CC G c') (ev G e)):=funext λ x=>by show ED (CC G c) (ev G e) (wr (Du [v] U) v (.w x))=ED (CC G c') (ev G e) (wr (Du [v] U) v (.w x));unfold ED;rw[h x]
 show(EU G it U).bind (JK [v] (.one v) (ED (CC G c) (ev G e)) U)=(EU G it U).bind (JK [v] (.one v) (ED (CC G c') (ev G e)) U);unfold JK;rw[ef]
theorem FT{U:AQ}{c a b:Ex}{t:Bool}(h:ev G c U=Aa (.bool t)):ev G (.f c a b) U=ev G (bif t then a else b) U:=by
 show(((ev G c U).bind truthy).bind λ t=>Ca t (ev G a U) (ev G b U))=_;rw[h]
 cases t<;>rfl
theorem iV{U:AQ}:∀i∈R7,(ev G (.l (.cons (.tup (.cons (.c (.str [34])) (.cons (.c (.str [92,40])) .nil))) (.cons (.tup (.cons (.c (.str [34,40,34])) (.cons (.c (.str [34])) .nil))) (.cons (.tup (.cons (.c (.str [92,41])) (.cons (.c (.str [92])) .nil))) (.cons (.tup (.cons (.c (.str [97,34,41,34])) (.cons (.c (.str [34,40,34])) .nil))) (.cons (.tup (.cons (.c (.str [92,34])) (.cons (.c (.str [34])) .nil))) (.cons (.tup (.cons (.c (.str [34,92,34,41,34])) (.cons (.c (.str [34,40,41])) .nil))) (.cons (.tup (.cons (.c (.str [92,92,34,40,34])) (.cons (.c (.str [92,92,40,41])) .nil))) .nil)))))))) U).bind (λ u=>Cj .i u (I i))=Aa (.tup [.str (ht.getD i ([],[])).1,.str (ht.getD i ([],[])).2]):=
 OP rfl rfl rfl rfl rfl rfl rfl
theorem iT{j:Nat}{g r:List Int}(ξ:GR (GL j) g r){turn:Int}{i:Nat}{bb:Bool}(hi:i∈R7)(ei:(turn.fdiv 2).fmod 7=i)(eb:((turn.fdiv 2).fmod 2==0)=bb)(hl:(UN g r i bb).length<=1000):GL (j+1) 158 [il g,il r,.int turn] Ae=Aa (.str (UN g r i bb)):=by
 unfold UN at hl ⊢;have ht:=iV (G:=GL j) (U:=(JG g r (.w (.int turn)) .u .u .u .u .u)) i hi;generalize (Internal.ht.getD i ([],[])).1=h1 at*;generalize (Internal.ht.getD i ([],[])).2=h2 at*;have hl':(h1++mid g r bb).length<=1000:=by rw[AB] at hl;exact Ak (Cr _ _) hl
 obtain⟨y5,y6,ho⟩:=kX ξ (qY g r bb) h1 .u .u (λ k hk=>cR hk) hl';have s0:CD (GL j) 64 (C1 0 IU) (JG g r (.w (.int turn)) .u .u .u .u .u)=Aa (.next,(JG g r (.w (.int turn)) (.w (.str h1)) (.w (.str h2)) .u .u .u)):=by
  refine Jw (v:=.tup [.str h1,.str h2]) ?_ rfl;obtain⟨u,hu,hv⟩:=Hi ht;have m:ev (GL j) (.o2 .mod (.o2 .fdiv (.v 2) (.c (.int 2))) (.c (.int 7))) (JG g r (.w (.int turn)) .u .u .u .u .u)=Aa (I i):=by have:=AO (G:=GL j) (U:=(JG g r (.w (.int turn)) .u .u .u .u .u)) (o:=.mod) (AO (o:=.fdiv) (a:=.v 2) (b:=.c (.int 2)) rfl rfl rfl) (b:=.c (.int 7)) rfl rfl;rw[ei] at this;exact this
  exact AO hu m hv
 have hc:∀x,CC (GL j) (.cons (.f cC cA cB) .nil) (wr (Du [7] (JG g r (.w (.int turn)) (.w (.str h1)) (.w (.str h2)) .u .u .u)) 7 (.w x))=CC (GL j) (.cons (bif bb then cA else cB) .nil) (wr (Du [7] (JG g r (.w (.int turn)) (.w (.str h1)) (.w (.str h2)) .u .u .u)) 7 (.w x)):=λ x=>by
  have c:ev (GL j) cC (JG g r (.w (.int turn)) (.w (.str h1)) (.w (.str h2)) .u .u (.w x))=Aa (.bool bb):=by have:=AO (G:=GL j) (U:=(JG g r (.w (.int turn)) (.w (.str h1)) (.w (.str h2)) .u .u (.w x))) (AO (o:=.mod) (AO (o:=.fdiv) (a:=.v 2) (b:=.c (.int 2)) rfl rfl rfl) (b:=.c (.int 2)) rfl rfl) (b:=.c (.int 0)) rfl (JI _ _);rw[eb] at this;exact this
  show((ev (GL j) (.f cC cA cB) _).bind truthy).bind (λ b=>Ca b (Aa Ab) (Aa Ai))=((ev (GL j) (bif bb then cA else cB) _).bind truthy).bind (λ b=>Ca b (Aa Ab) (Aa Ai));exact congrArg (λ o=>(Option.bind o truthy).bind λ b=>Ca b (Aa Ab) (Aa Ai)) (FT c)
 have s1:CD (GL j) 64 (C1 1 IU) (JG g r (.w (.int turn)) (.w (.str h1)) (.w (.str h2)) .u .u .u)=Aa (.next,(JG g r (.w (.int turn)) (.w (.str (h1++mid g r bb))) (.w (.str h2)) y5 y6 .u)):=by refine Jv (QH (v:=.list ((qY g r bb).map I)) ?_ rfl) ho;rw[S4 hc];exact ξ.k bb _ _ _ _ _
 exact DM rfl rfl rfl (Ap s0 (Ap s1 (r1 (En (AO rfl rfl (add_str hl)))))) rfl
noncomputable def DW:List Nat:=[2,1,0,2,1,2]
noncomputable def Nw:List Nat:=[0,0,0,1,1,2]
noncomputable def rY:List (List Nat):=[0,1,2,3,4,5].foldl (λ s p=>s++s.map (·++[p])) [[]]
def EV(z:Nat):List (List Nat):=rY.filter λ s=>AG s.length z
noncomputable def exI(l:List Int)(i:Nat):List Int:=l.take i++(l.getD (i+1) 0::l.getD i 0::l.drop (i+2))
def ledI(w:List Nat):List Int:=w.foldl (λ row i=>if row.getD i 0<row.getD (i+1) 0 then exI row i else row) [1,2,3,4]
def Hp(z:Nat):List (List Int):=(EV z).map λ s=>ledI (s.map λ p=>DW.getD p 0)
def Au(t:Int×Int×Int):Nat:=(TI t).toNat
noncomputable def dd:List (List Int)->List (List Int):=λ l=>l.foldr (λ x acc=>bif acc.elem x then acc else x::acc) []
def GP:List (List Int×List Int):=G6.flatMap λ t=>(dd (Hp (Au t))).map λ r=>(Bk t,r)
def qG:List (List Int):=G6.map Bk
def GQ:List (List Int×Nat×Nat):=qG.flatMap λ p=>[1,2,3].flatMap λ k=>[1,2,3,4].map λ x=>(p,k,x)
def GK:List ((List Int×List Int)×Bool):=GP.flatMap λ p=>[(p,Ab),(p,Ai)]
def GTs:List ((List Int×List Int)×Nat×Bool):=GP.flatMap λ p=>R7.flatMap λ i=>[(p,i,Ab),(p,i,Ai)]
noncomputable abbrev eIn(i c:Nat):Ex:=.f (.o2 .in_ (.v 6) (.sl (.v i) .a (.v 5) .a)) (.c (.str [c])) (.c (.str []))
theorem gr_0{G:EZ}:mA (λ (q:List Int×Nat×Nat) (x1 x2 x3 x4 x7:LV)=>ev G (eIn 0 40) [.w (il q.1),x1,x2,x3,x4,L q.2.1,L q.2.2,x7]) GQ=mB (λ q z z z z z=>Aa (.str (gG 40 q.1 q.2.1 q.2.2))) GQ:=by kernel_rfl
theorem gr_1{G:EZ}:mA (λ (q:List Int×Nat×Nat) (x0 x2 x3 x4 x7:LV)=>ev G (eIn 1 41) [x0,.w (il q.1),x2,x3,x4,L q.2.1,L q.2.2,x7]) GQ=mB (λ q z z z z z=>Aa (.str (gG 41 q.1 q.2.1 q.2.2))) GQ:=by kernel_rfl
theorem gr_k{G:EZ}:mA (λ (q:(List Int×List Int)×Bool) (x2 x3 x4 x5 x6:LV)=>ev G (wW (bif q.2 then cA else cB)) [.w (il q.1.1),.w (il q.1.2),x2,x3,x4,x5,x6,.u]) GK=mB (λ q z z z z z=>Aa (.list ((qY q.1.1 q.1.2 q.2).map I))) GK:=by kernel_rfl
theorem gr_t:mA (λ (q:(List Int×List Int)×Nat×Bool)=>Od (UN q.1.1 q.1.2 q.2.1 q.2.2)) GTs=mB (λ q=>Aa (q.1.2==q.1.1)) GTs:=by kernel_rfl
def isP(l:List Int):Bool:=qG.elem l
theorem nJ:GP.all (λ p=>isP p.1&&isP p.2)=Ab:=by decide+kernel
theorem nH:mA (λ (q:List Int×Nat×Bool)=>Od (40::UN q.1 q.1 q.2.1 q.2.2)) (qG.flatMap λ g=>R7.flatMap λ i=>[(g,i,Ab),(g,i,Ai)])=mB (λ z=>Aa Ai) (qG.flatMap λ g=>R7.flatMap λ i=>[(g,i,Ab),(g,i,Ai)]):=by kernel_rfl
theorem Xm{Z:Type}{g:Z}{l:List Z}{i:Nat}{b:Bool}(h:g∈l)(hi:i∈R7):(g,i,b)∈l.flatMap λ g=>R7.flatMap λ i=>[(g,i,Ab),(g,i,Ai)]:=
 List.mem_flatMap.mpr ⟨g,h,List.mem_flatMap.mpr ⟨i,hi,by cases b<;>simp⟩⟩
theorem Xa{c:Nat}{g:List Int}{k x:Nat}:(gG c g k x).length<=1:=by
 unfold gG
 split
 ·exact A1 _
 ·exact Bj _
theorem vL{G:EZ}{g r:List Int}(h:(g,r)∈GP):GR G g r:=by
 refine CJ (Al.mp nJ _ h) λ hg hr=>?_;have hg:=List.elem_iff.mp hg;have hr:=List.elem_iff.mp hr;constructor
 ·intro k hk x hx x2 x4 x7 T;have m:∀w,w∈qG->(w,k,x)∈GQ:=λ w hw=>List.mem_flatMap.mpr ⟨w,hw,List.mem_flatMap.mpr ⟨k,hk,List.mem_map.mpr ⟨x,hx,rfl⟩⟩⟩;have e0:=congrFun (congrFun (congrFun (congrFun (congrFun (Zw (gr_0 (G:=G)) _ (m g hg)) (.w (il r))) x2) (.w (.str T))) x4) x7;have e1:=congrFun (congrFun (congrFun (congrFun (congrFun (Zw (gr_1 (G:=G)) _ (m r hr)) (.w (il g))) x2) (.w (.str T))) x4) x7;refine AO e0 e1 (add_str ?_);rw[AB];have:=Xa (c:=40) (g:=g) (k:=k) (x:=x);have:=Xa (c:=41) (g:=r) (k:=k) (x:=x);show(gG 40 g k x).length+(gG 41 r k x).length<=_
  lia
 ·intro bb x2 x3 x4 x5 x6;exact congrFun (congrFun (congrFun (congrFun (congrFun (Zw (gr_k (G:=G)) ((g,r),bb) (List.mem_flatMap.mpr ⟨_,h,by cases bb<;>simp⟩)) x2) x3) x4) x5) x6
noncomputable def tI(turn:Int):Nat:=((turn.fdiv 2).fmod 7).toNat
noncomputable def tB(turn:Int):Bool:=(turn.fdiv 2).fmod 2==0
def tX(g r:List Int)(turn:Int):List Nat:=UN g r (tI turn) (tB turn)
theorem TD(turn:Int):tI turn∈R7/\(turn.fdiv 2).fmod 7=tI turn:=by
 have h1:=BN (turn.fdiv 2) (b:=7) (by decide);have h2:=Cn (turn.fdiv 2) (b:=7) (by decide);have e:(turn.fdiv 2).fmod 7=tI turn:=by unfold tI;omega
 refine⟨?_,e⟩;have:∀n:Nat,n<7->n∈R7:=by decide
 exact this _ (by omega)
theorem Iw{s:List Nat}{b:Bool}(h:Od s=Aa b):Ng s=Ab/\s.length<=1000:=by
 unfold Od at h
 cases q:P7 s&&P7 (MB s) with
 |false=>rw[q] at h;exact nn h
 |true=>exact JH (B6 q).1
theorem No{g r:List Int}(h:(g,r)∈GP)(turn:Int):Od (tX g r turn)=Aa (r==g):=Zw gr_t ((g,r),tI turn,tB turn) (Xm h (TD turn).1)
theorem Wz{g:List Int}(h:g∈qG)(turn:Int):Od (40::tX g g turn)=Aa Ai:=Zw nH (g,tI turn,tB turn) (Xm h (TD turn).1)
theorem fU{j:Nat}{g r:List Int}(h:(g,r)∈GP)(turn:Int):GL (j+1) 158 [il g,il r,.int turn] Ae=Aa (.str (tX g r turn)):=
 iT (vL h) (TD turn).1 (TD turn).2 rfl (Iw (No h turn)).2
noncomputable def fr(l:List LV):AQ:=l++AD (74 - l.length) .u
def bn(l:List Nat):V:=.list (l.map I)
def Le(z:Nat):V:=.list ((EV z).map bn)
def KN(z:Nat):V:=.list ((Hp z).map il)
section
variable{x0 x1 x2 x3 x4 x5 x6 x8 x9 x10:LV}
theorem jG:∀z∈R7,Bw (GL 12) 64 (Jp 5 (Gn 10 A4)) (fr [x0,x1,x2,x3,x4,x5,x6,L z,x8,x9,x10,.w (II z q)])=Aa (.next,fr [x0,x1,x2,x3,x4,x5,x6,L z,x8,x9,x10,.w (II z q),.w (bn DW),.w (bn Nw),.w (Le z),L 5,.w (KN z)]):=
 OP (by kernel_rfl) (by kernel_rfl) (by kernel_rfl) (by kernel_rfl) (by kernel_rfl) (by kernel_rfl) (by kernel_rfl)
end
theorem Qe{f:V->Option (List V)}{p:Nat->Bool}:∀{xs:List Nat},(∀x∈xs,f (I x)=Aa (bif p x then[I x] else[]))->Eb f (xs.map I)=Aa ((xs.filter p).map I):=@λ I0=>by
 induction I0 with
 |nil=>exact@λ _=>rfl
 |cons x r IH=>
  intro h;show((f (I x)).bind λ ys=>(Eb f (r.map I)).map λ zs=>ys++zs)=_;rw[h x (.head _),IH λ y hy=>h y (.tail _ hy),List.filter_cons]
  cases p x<;>rfl
theorem DV{Z:Type}{f:V->Option (List V)}{u v:Z->V}:∀{xs:List Z},(∀x∈xs,f (u x)=Aa [v x])->Eb f (xs.map u)=Aa (xs.map v):=@λ I0=>by
 induction I0 with
 |nil=>exact@λ _=>rfl
 |cons x r IH=>intro h;show((f (u x)).bind λ ys=>(Eb f (r.map u)).map λ zs=>ys++zs)=_;rw[h x (.head _),IH λ y hy=>h y (.tail _ hy)];rfl
theorem KB{xs:List V}{n:Nat}{v:V}(h:xs[n]?=Aa v)(hz:xs.length<=1000000):Cj .i (.list xs) (I n)=Aa v:=by obtain⟨hl,e⟩:=List.getElem?_eq_some_iff.mp h;show JD xs n=_;rw[SP hl hz,e]
theorem iC{x y:List V}(h:x.length+y.length<=1000):Cj .a (.list x) (.list y)=Aa (.list (x++y)):=if_pos (Ak h (by decide))
theorem TW(n:Nat)(l:List Int):V.ok (n+2) (il l)=Ab:=by show(l.map V.int).all (V.ok (n+1))=Ab;rw[Kd];exact Al.mpr λ z z=>rfl
theorem Y9:∀a b:List Int,V.beq (il a) (il b)=(a==b)
:=λ a=>by
 induction a with
 |nil=>intro b;induction b using Aq<;>rfl
 |cons x a IH=>intro b;induction b using Aq with
  |nil=>rfl
  |cons y b=>exact congrArg ((x==y)&&·) (IH b)
theorem Un(a b:List Int):Cj .eq (il a) (il b)=Aa (.bool (a==b)):=by show(if(V.ok 8 (il a)&&V.ok 8 (il b))=Ab then Aa (V.bool (V.beq (il a) (il b))) else Ae)=_;rw[TW,TW,Y9];rfl
noncomputable def TH(l:List (List Nat)):V:=.list (l.map .str)
theorem bI{n:Nat}{l:List (List Nat)}(h:∀s∈l,Ng s=Ab):V.ok (n+2) (TH l)=Ab:=by show(l.map V.str).all (V.ok (n+1))=Ab;rw[Kd];exact Al.mpr λ s hs=>NE (h s hs)
theorem Y8:∀a:List (List Nat),V.beq (TH a) (TH a)=Ab:=λ I0=>by
 induction I0 with
 |nil=>exact rfl
 |cons x a IH=>show((x==x)&&V.beq (TH a) (TH a))=Ab;rw[IH,beq_self_eq_true];rfl
theorem T3{a:List (List Nat)}(h:∀s∈a,Ng s=Ab):Cj .ne (TH a) (TH a)=Aa (.bool Ai):=by show(if(V.ok 8 (TH a)&&V.ok 8 (TH a))=Ab then Aa (V.bool (!V.beq (TH a) (TH a))) else Ae)=_;rw[bI h,Y8];rfl
theorem rL{G:EZ}{U:AQ}{a b c:Ex}{v:V}(ha:ev G a U=Aa (.bool Ai))(hb:ev G b U=Aa (.bool Ai))(hc:ev G c U=Aa v):ev G (.bool Ai (.cons a (.cons b (.cons c .nil)))) U=Aa v:=by show((ev G a U).bind λ v=>(truthy v).bind λ t=>Ca (t==Ai) ((ev G b U).bind λ v=>(truthy v).bind λ t=>Ca (t==Ai) (ev G c U) (Aa v)) (Aa v))=_;rw[ha];rw[hb];exact hc
theorem fQ{G:EZ}{U:AQ}{a b:Ex}{v:V}(ha:ev G a U=Aa (.bool Ai))(hb:ev G b U=Aa v):ev G (.bool Ai (.cons a (.cons b .nil))) U=Aa v:=by show((ev G a U).bind λ v=>(truthy v).bind λ t=>Ca (t==Ai) (ev G b U) (Aa v))=_;rw[ha];exact hb
theorem nI:G6.all (λ t=>(Hp (Au t)).elem (Bk t))=Ab:=by decide+kernel
theorem oR:∀{l:List (List Int)} {x:List Int},x∈l->x∈dd l
:=@λ l=>by
 induction l with
 |nil=>exact λ h=>absurd h List.not_mem_nil
 |cons y l IH=>
  intro x h;show x∈(bif (dd l).elem y then dd l else y::dd l);rcases AL.mp h with h|h
  ·subst h
   cases q:(dd l).elem x with
   |true=>exact List.elem_iff.mp q
   |false=>exact .head _
  ·have:=IH h
   cases (dd l).elem y with
   |true=>exact this
   |false=>exact .tail _ this
theorem X0{t:Int×Int×Int}(ht:t∈G6){r:List Int}(h:r∈Hp (Au t)):(Bk t,r)∈GP:=List.mem_flatMap.mpr ⟨t,ht,List.mem_map.mpr ⟨r,oR h,rfl⟩⟩
theorem bE{t:Int×Int×Int}(ht:t∈G6):Bk t∈Hp (Au t):=List.elem_iff.mp (Al.mp nI t ht)
theorem Em:∀t∈G6,Au t∈R7:=by decide+kernel
theorem FK:∀z∈R7,(EV z).length<=20:=by decide+kernel
def F4(z:Nat)(c2:Int):List Nat:=(Bp (EV z).length).filter λ n=>((n:Int)+c2).fmod 2==1
def rN(z n:Nat):List Int:=(Hp z).getD n []
theorem Ss{z n:Nat}(h:n<(EV z).length):rN z n∈Hp z/\((Hp z).map il)[n]?=Aa (il (rN z n)):=by
 have hl:(Hp z).length=(EV z).length:=Ag _;have hn:n<(Hp z).length:=by lia
 have e:rN z n=(Hp z)[n]:=by unfold rN;rw[AK,Ar hn];rfl
 rw[e];exact⟨Jq hn,by rw[Ba,Ar hn];rfl⟩
structure Lw where
 x0:LV
 x1:LV
 x2:LV
 x4:LV
 x5:LV
 x8:LV
 x9:LV
 x10:LV
 x11:LV
 c0:Int
 c1:Int
 c2:Int
 c3:Int
abbrev Lw.cells(X:Lw):V:=EL X.c0 X.c1 X.c2 X.c3
abbrev FA(X:Lw)(g:List Int)(z:Nat)(ys:List LV):AQ:=fr (X.x0::X.x1::X.x2::.w X.cells::X.x4::X.x5::.w (il g)::L z::X.x8::X.x9::X.x10::X.x11::.w (bn DW)::.w (bn Nw)::.w (Le z)::L 5::.w (KN z)::.u::ys)
section
variable{X:Lw}{z:Nat}{g:List Int}
theorem gQ{U:AQ}(X:Lw)(h:rd U 3=.w X.cells):ev G (.o2 .i (.v 3) (.c (.int 2))) U=Aa (.int X.c2):=AO (congrArg Bv h) rfl rfl
theorem Oo(a b:Int):Cj .a (.int a) (.int b)=Aa (.int (a+b)):=rfl
theorem it15:∀z∈R7,EU G (.r (.o1 .len (.v 14))) (FA X g z [])=Aa ((Bp (EV z).length).map I):=
 OP rfl rfl rfl rfl rfl rfl rfl
theorem Uq{c:Ex}{e:Ex}{U:AQ}{b:Bool}{v:V}(hc:ev G c U=Aa (.bool b))(he:ev G e U=Aa v):ED (CC G (.cons c .nil)) (ev G e) U=Aa (bif b then[v] else[]):=by
 show(((ev G c U).bind truthy).bind λ b=>Ca b (Aa Ab) (Aa Ai)).bind (λ b=>if b then(ev G e U).map (λ v=>[v]) else Aa [])=_;rw[hc,he]
 cases b<;>rfl
theorem DD{e:Ex}{U:AQ}{v:V}(he:ev G e U=Aa v):ED (CC G .nil) (ev G e) U=Aa [v]:=by show(ev G e U).map (λ v=>[v])=_;rw[he];rfl
theorem aD(hz:z∈R7):CD G F (C1 15 A4) (FA X g z [])=Aa (.next,FA X g z [.w (bn (F4 z X.c2))]):=by
 have hl:=FK z hz;refine Cc (DK (it15 z hz) rfl (Qe λ n hn=>?_) ?_)
 ·exact Uq (AO (AO (AO rfl (gQ X rfl) (Oo _ _)) rfl rfl) rfl (JI _ _)) rfl
 ·rw[Ag];exact Ak (Ak (ET _ _) (by rw[C3];exact hl)) (by decide)
end
def tn(g:List Int)(z:Nat)(c2:Int)(n:Nat):List Nat:=tX g (rN z n) ((n:Int)+c2)
def EX(g:List Int)(z:Nat)(c2:Int):List (List Nat×Bool):=(F4 z c2).map (λ n=>(tn g z c2 n,rN z n==g))++[(tX g g c2,Ab),(40::tX g g c2,Ai)]
theorem Li{z n:Nat}{c2:Int}(h:n∈F4 z c2):n<(EV z).length:=List.mem_range.mp (List.mem_filter.mp h).1
theorem ZA{Z:Type}(f g:Z->V):∀l:List Z,LS (l.map f) (l.map g)=l.map λ x=>.tup [f x,g x]:=λ I0=>by
 induction I0 with
 |nil=>exact rfl
 |cons x l IH=>exact congrArg (V.tup [f x,g x]::·) (IH)
section
variable{X:Lw}{z:Nat}{g:List Int}
theorem aX{G:EZ}{F:Nat}{U:AQ}{i f:Nat}{es:Fu}{vs xs:List V}(h:IS G es U=Aa vs)(k:G f vs Ae=Aa (.list xs)):CD G F (.asgOc i f es) U=Aa (.next,wr U i (.x xs)):=by show((IS G es U).bind λ vs=>(G f vs Ae).bind BD).map (λ xs=>(Fl.next,wr U i (.x xs)))=_;rw[h];show((G f vs Ae).bind BD).map (λ xs=>(Fl.next,wr U i (.x xs)))=_;rw[k];rfl
theorem lP{G:EZ}{U:AQ}{i:Nat}{e:Ex}{xs:List V}{y v:V}(h:rd U i=.x xs)(he:ev G e U=Aa y)(k:Cj .ne (.list xs) y=Aa v):ev G (.neo i e) U=Aa v:=by show((EE (rd U i)).bind λ xs=>(ev G e U).bind (Cj .ne (.list xs)))=_;rw[h];rw[he];exact k
theorem XK{G:EZ}{U:AQ}{i j:Nat}{xs ys:List V}(h:rd U i=.x xs)(k:rd U j=.w (.list ys)):ev G (.isown i j) U=Aa (.bool Ai):=by show((EE (rd U i)).bind λ z=>((Bv (rd U j)).bind BD).map λ z=>V.bool Ai)=_;rw[h];rw[k];rfl
theorem fP{G:EZ}{U:AQ}{a b:Ex}{xs ys:List V}(ha:ev G a U=Aa (.list xs))(hb:ev G b U=Aa (.list ys)):EU G (.zip a b) U=Aa (LS xs ys):=by show(((ev G a U).bind BD).bind λ xs=>((ev G b U).bind BD).map λ ys=>LS xs ys)=_;rw[ha];rw[hb];rfl
theorem jF{t:Int×Int×Int}(ht:t∈G6)(hg:g=Bk t)(hz:z=Au t){gC:Prop}(gk:∀a b c d e,Bw (GL 12) 64 (Jp 4 (Gn 16 A4)) (FA X g z [.w (bn (F4 z X.c2))])=Aa (.next,FA X g z [a,b,c,d,e])->gC):gC:=by
 have z7:=hz▸Em t ht;have hl:=FK z z7;have hr:∀n,n<(EV z).length->(g,rN z n)∈GP:=λ n hn=>by rw[hg,hz];exact X0 ht (hz▸(Ss hn).1)
 have hgg:(g,g)∈GP:=by rw[hg];exact X0 ht (bE ht)
 have hg24:g∈qG:=by rw[hg];exact List.mem_map.mpr ⟨t,ht,rfl⟩
 have ls:(F4 z X.c2).length<=20:=Ak (ET _ _) (by rw[C3];exact hl);have asc_own:=Iw (No hgg X.c2);have asc_tn:∀n∈F4 z X.c2,Ng (tn g z X.c2 n)=Ab:=λ n hn=>(Iw (No (hr n (Li hn)) _)).1;have chk:∀p∈EX g z X.c2,Od p.1=Aa p.2:=λ p hp=>by
  rcases List.mem_append.mp hp with h|h
  ·obtain⟨n,hn,rfl⟩:=List.mem_map.mp h;exact No (hr n (Li hn)) _
  ·rcases AL.mp h with h|h
   ·rw[h];have:=No hgg X.c2;rw[beq_self_eq_true] at this;exact this
   ·rw[List.mem_singleton.mp h];exact Wz hg24 X.c2
 have ixr:∀n,n<(EV z).length->Cj .i (KN z) (I n)=Aa (il (rN z n)):=λ n hn=>KB (Ss hn).2 (by rw[Ag];show((EV z).map _).length<=_;rw[Ag];lia);have lt:((F4 z X.c2).map λ n=>V.str (tn g z X.c2 n)).length<=20:=by rw[Ag];exact ls
 have s16:CD (GL 12) 64 (C1 16 A4) (FA X g z [.w (bn (F4 z X.c2))])=Aa (.next,FA X g z [.w (bn (F4 z X.c2)),.w (.list ((F4 z X.c2).map λ n=>.str (tn g z X.c2 n))),.w (.str (tX g g X.c2))]):=by refine QT (AC (DK (QH (v:=bn (F4 z X.c2)) rfl rfl) rfl (DV λ n hn=>?_) (Ak lt (by decide))) (AC (CB (AC rfl (AC rfl (AC (gQ X rfl) BW))) (fU hgg X.c2)) BW)) rfl;exact DD (CB (AC rfl (AC (AO rfl rfl (ixr n (Li hn))) (AC (AO rfl (gQ X rfl) (Oo _ _)) BW))) (fU (hr n (Li hn)) _))
 have own_add:∀U:AQ,rd U 20=.w (.str (tX g g X.c2))->ev (GL 12) (.o2 .a (.c (.str [40])) (.v 20)) U=Aa (.str (40::tX g g X.c2)):=λ U h=>AO rfl (congrArg Bv h) (add_str (Iw (Wz hg24 X.c2)).2);have hin:(EX g z X.c2).map (λ p=>V.str p.1)=(F4 z X.c2).map (λ n=>V.str (tn g z X.c2 n))++[.str (tX g g X.c2),.str (40::tX g g X.c2)]:=by unfold EX;rw[C5,BF];rfl
 have handed:∀U:AQ,rd U 19=.w (.list ((F4 z X.c2).map λ n=>.str (tn g z X.c2 n)))->rd U 20=.w (.str (tX g g X.c2))->ev (GL 12) (.o2 .a (.v 19) (.l (.cons (.v 20) (.cons (.o2 .a (.c (.str [40])) (.v 20)) .nil)))) U=Aa (.list ((EX g z X.c2).map λ p=>V.str p.1)):=λ U h19 h20=>by rw[hin];exact AO (congrArg Bv h19) (Tz (AC (congrArg Bv h20) (AC (own_add U h20) BW))) (iC (by show _+2<=1000;lia))
 have c42:=kP (j:=9) chk (by rw[show(EX g z X.c2).length=_ from AB,Ag];show _+2<_;exact Bc (by lia:_<=22) (by decide));have s17:CD (GL 12) 64 (C1 17 A4) (FA X g z [.w (bn (F4 z X.c2)),.w (.list ((F4 z X.c2).map λ n=>.str (tn g z X.c2 n))),.w (.str (tX g g X.c2))])=Aa (.next,FA X g z [.w (bn (F4 z X.c2)),.w (.list ((F4 z X.c2).map λ n=>.str (tn g z X.c2 n))),.w (.str (tX g g X.c2)),.w (.list ((EX g z X.c2).map λ p=>V.str p.1))]):=Cc (handed _ rfl rfl);have s18:CD (GL 12) 64 (C1 18 A4) (FA X g z [.w (bn (F4 z X.c2)),.w (.list ((F4 z X.c2).map λ n=>.str (tn g z X.c2 n))),.w (.str (tX g g X.c2)),.w (.list ((EX g z X.c2).map λ p=>V.str p.1))])=Aa (.next,FA X g z [.w (bn (F4 z X.c2)),.w (.list ((F4 z X.c2).map λ n=>.str (tn g z X.c2 n))),.w (.str (tX g g X.c2)),.w (.list ((EX g z X.c2).map λ p=>V.str p.1)),.x ((EX g z X.c2).map λ p=>V.str (bif p.2 then p.1 else Kl))]):=aX (AC rfl BW) c42;have hsl:∀f:List Nat×Bool->List Nat,(EX g z X.c2).map (λ p=>V.str (f p))=((EX g z X.c2).map f).map V.str:=λ f=>by rw[BF];rfl
 have s19:CD (GL 12) 64 (C1 19 A4) (FA X g z [.w (bn (F4 z X.c2)),.w (.list ((F4 z X.c2).map λ n=>.str (tn g z X.c2 n))),.w (.str (tX g g X.c2)),.w (.list ((EX g z X.c2).map λ p=>V.str p.1)),.x ((EX g z X.c2).map λ p=>V.str (bif p.2 then p.1 else Kl))])=Aa (.next,FA X g z [.w (bn (F4 z X.c2)),.w (.list ((F4 z X.c2).map λ n=>.str (tn g z X.c2 n))),.w (.str (tX g g X.c2)),.w (.list ((EX g z X.c2).map λ p=>V.str p.1)),.x ((EX g z X.c2).map λ p=>V.str (bif p.2 then p.1 else Kl))]):=by
  have e1:∀U:AQ,rd U 18=.w (bn (F4 z X.c2))->rd U 19=.w (.list ((F4 z X.c2).map λ n=>.str (tn g z X.c2 n)))->rd U 20=.w (.str (tX g g X.c2))->rd U 16=.w (KN z)->rd U 6=.w (il g)->U.length=74->rd U 50=.u->rd U 51=.u->ev (GL 12) (.o2 .a (.comp [50,51] (.m [50,51]) (.zip (.v 18) (.v 19)) .nil (.f (.o2 .eq (.o2 .i (.v 16) (.v 50)) (.v 6)) (.v 51) (.c (.str [40,39,39,44,32,39,39,41])))) (.l (.cons (.v 20) (.cons (.c (.str [40,39,39,44,32,39,39,41])) .nil)))) U=Aa (.list ((EX g z X.c2).map λ p=>V.str (bif p.2 then p.1 else Kl))):=λ U h18 h19 h20 h16 h6 hlen h50 h51=>by
   have hout:(EX g z X.c2).map (λ p=>V.str (bif p.2 then p.1 else Kl))=(F4 z X.c2).map (λ n=>V.str (bif rN z n==g then tn g z X.c2 n else Kl))++[.str (tX g g X.c2),.str Kl]:=by unfold EX;rw[C5,BF];rfl
   rw[hout];refine AO (DK ((fP (a:=.v 18) (b:=.v 19) (congrArg Bv h18) (congrArg Bv h19)).trans (congrArg Aa (ZA _ _ _))) ?_ (DV λ n hn=>?_) (by rw[Ag];exact Ak ls (by decide))) (Tz (AC (congrArg Bv h20) (AC rfl BW))) (iC (by rw[Ag];show _+2<=1000;lia))
   ·unfold noOwn;rw[RZ,RZ,h50,h51];rfl
   ·generalize hρ:wr (wr (Du [50,51] U) 50 (L n)) 51 (.w (.str (tn g z X.c2 n)))=U'1;have ne:∀{i:Nat},i≠50->i≠51->rd U'1 i=rd U i:=λ {i} a b=>by
     rw[<-hρ,AU b,AU a];show rd (wr (wr U 50 .u) 51 .u) i=_;rw[AU b,AU a]
    have r51:rd U'1 51=.w (.str (tn g z X.c2 n)):=by rw[<-hρ];exact DB (by rw[GO];show 51<(wr (wr U 50 .u) 51 .u).length;rw[GO,GO,hlen];decide)
    have r50:rd U'1 50=L n:=by rw[<-hρ,AU (by decide)];exact DB (by show 50<(wr (wr U 50 .u) 51 .u).length;rw[GO,GO,hlen];decide)
    show(Aa (wr (wr (Du [50,51] U) 50 (L n)) 51 (.w (.str (tn g z X.c2 n))))).bind (ED (CC (GL 12) .nil) (ev (GL 12) _))=_;rw[hρ];refine DD ?_;rw[FT (AO (AO (a:=.v 16) (b:=.v 50) (congrArg Bv ((ne (by decide) (by decide)).trans h16)) (congrArg Bv r50) (ixr n (Li hn))) (b:=.v 6) (congrArg Bv ((ne (by decide) (by decide)).trans h6)) (Un _ _))]
    cases rN z n==g with
    |true=>exact congrArg Bv r51
    |false=>rfl
  have a1:∀s∈(EX g z X.c2).map (λ p=>bif p.2 then p.1 else Kl),Ng s=Ab:=λ s hs=>by
   obtain⟨p,hp,rfl⟩:=List.mem_map.mp hs
   cases q:p.2 with
   |true=>exact(Iw (chk p hp)).1
   |false=>rfl
  have a2:∀s∈(EX g z X.c2).map (λ p=>p.1),Ng s=Ab:=λ s hs=>by obtain⟨p,hp,rfl⟩:=List.mem_map.mp hs;exact(Iw (chk p hp)).1
  have n1:=T3 a1;have n2:=T3 a2;unfold TH at n1 n2;rw[<-hsl (λ p=>bif p.2 then p.1 else Kl)] at n1;rw[<-hsl (λ p=>p.1)] at n2;exact B0 (He (rL (lP rfl (e1 _ rfl rfl rfl rfl rfl rfl rfl rfl) n1) (AO rfl (handed _ rfl rfl) n2) (XK (xs:=(EX g z X.c2).map λ p=>V.str (bif p.2 then p.1 else Kl)) (ys:=(EX g z X.c2).map λ p=>V.str p.1) rfl rfl))) rfl
 exact gk _ _ _ _ _ (Ap s16 (Ap s17 (Ap s18 (Ap s19 rfl))))
end
noncomputable def ch(d:Nat):Nat->Nat
 |0=>97+d
 |1=>98+d
 |2=>99+d
 |3=>65+d
 |4=>66+d
 |5=>67+d
 |_=>45
def wd(d:Nat)(w:List Nat):V:=.str (w.map (ch d))
def wl(d:Nat)(l:List (List Nat)):V:=.list (l.map (wd d))
def D9(g:List Int)(z:Nat):List (List Nat):=((Bp z).foldl (λ (ws:List (List Nat×List Int)) y=>ws.flatMap λ w=>([0,1,2].filter λ i=>decide (w.2.getD (i+1) 0<w.2.getD i 0)).map λ i=>(i::w.1,exI w.2 i)) [([],g)]).map λ w=>w.1
def jP(s:List Nat):List Nat:=s.map λ p=>DW.getD p 0
def Bz(z:Nat):List (List Nat):=(EV z).map jP
def De(z:Nat):Nat:=(EV z).length
def Kg(z r:Nat):List Nat:=(Bp (De z)).map λ k=>(11*k+r)%De z
def wtN(s:List Nat):Nat:=(s.map λ p=>Nw.getD p 0).foldr (·+·) 0
def wtT(z:Nat):List Nat:=(EV z).map wtN
def OF(z n:Nat):Nat:=(wtT z).getD n 0
def Bs(z n:Nat):V:=.list [I n,I (OF z n)]
abbrev Lw.let(X:Lw)(d:Nat):Lw:={X with x8:=.w (CL d)}
section
variable{X:Lw}{z:Nat}{g:List Int}
theorem aL:mA (λ (t:Int×Int×Int) (X:Lw) (d:Nat) (a b c e f:LV)=>CD (GL 12) 64 (C1 20 A4) (FA (X.let d) (Bk t) (Au t) [a,b,c,e,f])) G6=mB (λ t X d a b c e f=>Aa (.next,FA (X.let d) (Bk t) (Au t) [a,b,c,e,f,.w (wl d (D9 (Bk t) (Au t))),.w (wl d (Bz (Au t))),.x []])) G6:=by kernel_rfl
def ZN:List (Nat×Nat):=R7.flatMap λ z=>(Bp (De z)).map λ n=>(z,n)
noncomputable abbrev hF:Ex:=.l (.cons (.v 54) (.cons (.o1 .sum (.comp [56] (.one 56) (.ex (.o2 .i (.v 14) (.v 54))) .nil (.o2 .i (.v 13) (.v 56)))) .nil))
theorem mQ{G:EZ}:mA (λ (p:Nat×Nat) (X:Lw) (g:List Int) (a b c e f h i j:LV)=>ev G hF (wr (Du [54] (FA X g p.1 [a,b,c,e,f,h,i,j])) 54 (L p.2))) ZN=mB (λ p z z z z z z z z z z=>Aa (Bs p.1 p.2)) ZN:=by kernel_rfl
theorem P0:∀z∈R7,0<De z:=by decide+kernel
theorem nS(a:Nat)(c:Int){n:Nat}(h:0<n):((a:Int)+c).fmod n=((a+(c.fmod n).toNat)%n:Nat):=by rw[IE _ (AZ n),IE _ (AZ n)];have h1:=Int.emod_nonneg c (show(n:Int)≠0 by omega);rw[Int.natCast_emod,HQ,H1 h1,Int.add_emod_emod]
theorem uM{a:Int}{n:Nat}(hn:0<n)(hz:n<1000000):Cj .mod (.int a) (I n)=Aa (.int (a.fmod n)):=by
 refine if_pos ⟨by omega,?_⟩;unfold A7;rw[Bool.and_eq_false_iff];left;refine decide_eq_false ?_;show¬(if((n:Int)==0)=Ab then 0 else(n:Int).natAbs.log2/30+1)>300;rw[if_neg (by simp;omega)];have:=(Nat.log2_lt (n:=n) (k:=30) (by omega)).mpr (by omega);show¬n.log2/30+1>300
 lia
theorem TM:∀z∈R7,Dc 0 (De z:Nat) 1=Aa ((Bp (De z)).map I):=OP (by kernel_rfl) (by kernel_rfl) (by kernel_rfl) (by kernel_rfl) (by kernel_rfl) (by kernel_rfl) (by kernel_rfl)
theorem JU{G:EZ}{U:AQ}{e:Ex}{n:Int}{xs:List V}(h:ev G e U=Aa (.int n))(k:Dc 0 n 1=Aa xs):EU G (.r e) U=Aa xs:=by show(((ev G e U).bind Bb).bind λ n=>Dc 0 n 1)=_;rw[h];exact k
theorem aC(hz:z∈R7){a b c e f h i j:LV}:CD (GL 12) 64 (C1 21 A4) (FA X g z [a,b,c,e,f,h,i,j])=Aa (.next,FA X g z [a,b,c,e,f,h,i,j,.w (.list ((Kg z (X.c2.fmod (De z)).toNat).map (Bs z)))]):=by
 have hl:De z<=20:=FK z hz;have hp:=P0 z hz;have lo:(Kg z (X.c2.fmod (De z)).toNat).length<=20:=by unfold Kg;rw[Ag,C3];exact hl
 have e14:∀U:AQ,rd U 14=.w (Le z)->ev (GL 12) (.o1 .len (.v 14)) U=Aa (I (De z)):=λ U hr=>H4 (congrArg Bv hr) (by show Aa (V.int ((EV z).map bn).length)=_;rw[Ag];rfl);have ei:EU (GL 12) (.r (.o1 .len (.v 14))) (FA X g z [a,b,c,e,f,h,i,j])=Aa ((Bp (De z)).map I):=JU (e14 _ (by kernel_rfl)) (TM z hz);generalize hr:(X.c2.fmod (De z)).toNat=r at*;have inner:ev (GL 12) (.comp [55] (.one 55) (.r (.o1 .len (.v 14))) .nil (.o2 .mod (.o2 .a (.o2 .mul (.c (.int 11)) (.v 55)) (.o2 .i (.v 3) (.c (.int 2)))) (.o1 .len (.v 14)))) (FA X g z [a,b,c,e,f,h,i,j])=Aa (.list ((Kg z r).map I)):=by refine DK ei (by kernel_rfl) ?_ (by rw[Ag];exact Ak lo (by decide));unfold Kg;rw[BF];refine DV (v:=λ k=>I ((11*k+r)%De z)) λ k hk=>?_;have hk:=List.mem_range.mp hk;refine DD<|AO (AO (AO (y:=I k) rfl (by kernel_rfl) (MK (n:=20) (by decide) (by lia) (by decide))) (gQ X (by kernel_rfl)) (Oo _ _)) (e14 _ (by kernel_rfl)) ?_;rw[uM hp (by lia),nS _ _ hp,hr]
 have outer:ev (GL 12) (.comp [54] (.one 54) (.ex (.comp [55] (.one 55) (.r (.o1 .len (.v 14))) .nil (.o2 .mod (.o2 .a (.o2 .mul (.c (.int 11)) (.v 55)) (.o2 .i (.v 3) (.c (.int 2)))) (.o1 .len (.v 14))))) .nil hF) (FA X g z [a,b,c,e,f,h,i,j])=Aa (.list ((Kg z r).map (Bs z))):=by refine DK (QH inner rfl) (by kernel_rfl) (DV λ n hn=>?_) (by rw[Ag];exact Ak lo (by decide));obtain⟨k,hk,rfl⟩:=List.mem_map.mp hn;refine DD ?_;have m:=Zw (mQ (G:=GL 12)) (z,(11*k+r)%De z) (List.mem_flatMap.mpr ⟨z,hz,List.mem_map.mpr ⟨_,List.mem_range.mpr (DH _ hp),rfl⟩⟩);exact congrFun (congrFun (congrFun (congrFun (congrFun (congrFun (congrFun (congrFun (congrFun (congrFun m X) g) a) b) c) e) f) h) i) j
 exact Cc outer
end
abbrev Rl(d:Nat)(a:List Nat)(x1 x2 x3 x4:LV)(l:List Int)(r:Int)(x7:LV)(x:Nat)(x9:LV)(m:Int)(x11 x12 x13:LV):AQ:=[.w (wd d a),x1,x2,x3,x4,.x (l.map .int),.w (.int r),x7,.w (wd d [x]),x9,.w (.int m),x11,x12,x13]
noncomputable def Xq(i:Nat):Nat:=if i<3 then i else if i<6 then i - 3 else i
def JY(w:List Nat):Prop:=∀x∈w,x<7
theorem S9:∀d<24,∀i<7,ch d i<128/\SG (ch d i)=ch d (Xq i)/\∀j<7,ch d i=ch d j->i=j:=by decide+kernel
theorem pJ{d i j:Nat}(hd:d<24)(hi:i<7)(hj:j<7)(h:ch d i=ch d j):i=j:=(S9 d hd i hi).2.2 j hj h
theorem hZ{d i:Nat}(hd:d<24)(hi:i<7):ch d i<128:=(S9 d hd i hi).1
theorem lT{d i:Nat}(hd:d<24)(hi:i<7):SG (ch d i)=ch d (Xq i):=(S9 d hd i hi).2.1
theorem cH:∀i<7,Xq i<7:=by decide+kernel
theorem Xp{i:Nat}(h:i<7):Xq i<7:=cH i h
theorem Om{d:Nat}(hd:d<24){w:List Nat}(h:JY w):Ng (w.map (ch d))=Ab:=by show(w.map (ch d)).all _=Ab;rw[Kd];exact Al.mpr λ x hx=>decide_eq_true (hZ hd (h x hx))
theorem Za{d:Nat}(hd:d<24):∀{a b:List Nat},JY a->JY b->(a.map (ch d)==b.map (ch d))=(a==b)
:=@λ a=>by
 induction a with
 |nil=>intro b ha hb;induction b using Aq<;>rfl
 |cons x a IH=>intro b ha hb;induction b using Aq with
  |nil=>rfl
  |cons y b=>
   show((ch d x==ch d y)&&(a.map (ch d)==b.map (ch d)))=((x==y)&&(a==b));rw[IH (λ z hz=>ha z (.tail _ hz)) λ z hz=>hb z (.tail _ hz)]
   by_cases e:x=y
   ·rw[e,beq_self_eq_true,beq_self_eq_true]
   ·rw[beq_false_of_ne e,beq_false_of_ne λ h=>e (pJ hd (ha x (.head _)) (hb y (.head _)) h)]
theorem Ps{d:Nat}(hd:d<24){a b:List Nat}(ha:JY a)(hb:JY b):Cj .eq (wd d a) (wd d b)=Aa (.bool (a==b)):=by rw[show Cj .eq (wd d a) (wd d b)=_ from S0 (Om hd ha) (Om hd hb),Za hd ha hb]
def sc(x y:Nat):Nat:=bif AG x y then 0 else bif AG (Xq x) (Xq y) then 1 else 2
theorem QZ{x:Nat}(h:x<7):JY [x]:=λ y hy=>by rw[List.mem_singleton.mp hy];exact h
theorem c127{j d x y:Nat}(hd:d<24)(hx:x<7)(hy:y<7):GL (j+1) 127 [wd d [x],wd d [y]] Ae=Aa (I (sc x y)):=by
 have low:∀i (U:AQ) z,rd U i=.w (wd d [z])->z<7->ev (GL j) (.o1 .lower (.v i)) U=Aa (wd d [Xq z]):=λ i U z h hz=>by refine H4 (congrArg Bv h) ?_;show(if Ng [ch d z]=Ab then Aa (V.str [SG (ch d z)]) else Ae)=_;rw[if_pos (pZ (hZ hd hz)),lT hd hz];rfl
 have t0:Gr (GL j) (.o2 .eq (.v 0) (.v 1)) [.w (wd d [x]),.w (wd d [y])]=Aa (AG x y):=(He (AO rfl rfl (Ps hd (QZ hx) (QZ hy)))).trans (congrArg Aa (Ti x y));have t1:Gr (GL j) (.o2 .eq (.o1 .lower (.v 0)) (.o1 .lower (.v 1))) [.w (wd d [x]),.w (wd d [y])]=Aa (AG (Xq x) (Xq y)):=(He (AO (low 0 _ x rfl hx) (low 1 _ y rfl hy) (Ps hd (QZ (Xp hx)) (QZ (Xp hy))))).trans (congrArg Aa (Ti _ _));unfold sc
 cases q:AG x y with
 |true=>rw[q] at t0;exact DM rfl rfl rfl (Dd (DC t0 (r1 (En rfl)))) rfl
 |false=>
  rw[q] at t0
  cases q2:AG (Xq x) (Xq y) with
  |true=>rw[q2] at t1;exact DM rfl rfl rfl (Ap (B0 t0 rfl) (Dd (DC t1 (r1 (En rfl))))) rfl
  |false=>rw[q2] at t1;exact DM rfl rfl rfl (Ap (B0 t0 rfl) (Ap (B0 t1 rfl) (Dd (En rfl)))) rfl
structure R3 where
 row:List Int
 res:Int
 mn:Int
noncomputable def mi(i j:Int):Int:=if j<i then j else i
noncomputable def Ur(x:Nat):List Nat->List Int->Int->Int->Int->R3
 |y::a,r::row,dist,res,mn=>let v:=mi (mi res r+2) (dist+(sc x y:Nat));let o:=Ur x a row r v (mi mn v);⟨v::o.row,o.res,o.mn⟩
 |_,_,_,res,mn=>⟨[],res,mn⟩
noncomputable def oJ(a:List Nat)(m:Int):List Nat->Nat->List Int->Int->Int
 |[],_,_,res=>res
 |x::b,n,row,_=>let o:=Ur x a row (n*2:Nat) (n*2:Nat) 9223372036854775807;if m<o.mn then m+1 else oJ a m b (n+1) o.row o.res
noncomputable abbrev bIn:E5:=.cons (.asg 12 (.o2 .a (.v 9) (.call 127 (.cons (.v 8) (.cons (.o2 .i (.v 0) (.v 11)) .nil)) Ae))) (.cons (.asg 9 (.idxo 5 (.v 11))) (.cons (.asg 13 (.o2 .a (.o2 .min (.v 6) (.v 9)) (.gv 2))) (.cons (.asg 6 (.o2 .min (.v 13) (.v 12))) (.cons (.setidx 5 (.v 11) (.v 6)) (.cons (.f (.o2 .lt (.v 6) (.v 10)) (.cons (.asg 10 (.v 6)) .nil) .nil) .nil)))))
theorem PZ(a b:Int):Cj .lt (.int a) (.int b)=Aa (.bool (decide (a<b))):=rfl
theorem Re{d:Nat}{w:List Nat}{n x:Nat}(h:w[n]?=Aa x)(hz:w.length<=1000):Cj .i (wd d w) (I n)=Aa (wd d [x]):=by obtain⟨hl,e⟩:=List.getElem?_eq_some_iff.mp h;show(JD (w.map (ch d)) n).map (λ c=>V.str [c])=_;rw[SP (by rw[Ag];exact hl) (by rw[Ag];exact Ak hz (by decide)),List.getElem_map,e];rfl
theorem vE(hd:d<24){a:List Nat}(ha:JY a)(hz:a.length<=40){x:Nat}(hx:x<7){x1 x2 x3 x4 x7:LV}(as pa:List Nat)(done row:List Int)(dist res mn:Int)(x11 x12 x13:LV)(e:a=pa++as)(hdl:done.length=pa.length)(hrl:row.length=as.length){gC:Prop}(gk:∀y9 y11 y12 y13,
  B7 (.one 11) (Bw (GL (j+1)) 64 bIn) ((BZ pa.length as.length).map I) (Rl d a x1 x2 x3 x4 (done++row) res x7 x (.w (.int dist)) mn x11 x12 x13)=Aa (.next,(Rl d a x1 x2 x3 x4 (done++(Ur x as row dist res mn).row) ((Ur x as row dist res mn).res) x7 x y9 ((Ur x as row dist res mn).mn) y11 y12 y13))->gC):gC:=by
 induction as generalizing pa done row dist res mn x11 x12 x13 with
 |nil=>
  induction row using Aq with
  |nil=>exact gk _ _ _ _ rfl
  |cons=>cases hrl
 |cons y as ih=>
  induction row using Aq with
  |nil=>cases hrl
  |cons r row=>
   have hpa:pa.length<a.length:=by rw[e,AB];show _<_+(as.length+1);lia
   have ey:a[pa.length]?=Aa y:=by rw[e,BY (A1 _),Fy];rfl
   have hy:=ha y (by rw[e];exact List.mem_append.mpr (.inr (.head _)));generalize hv:mi (mi res r+2) (dist+(sc x y:Nat))=v;refine ih (pa++[y]) (done++[v]) row r v (mi mn v) (L pa.length) (.w (.int (dist+(sc x y:Nat)))) (.w (.int (mi res r+2))) (by rw[e,A0];rfl) (by rw[AB,AB,hdl];rfl) (C4 hrl) λ y9 y11 y12 y13 ih=>?_;have hlr:(done++r::row).length=a.length:=by rw[AB,hdl,hrl,e,AB]
   have er:((done++r::row).map V.int)[pa.length]?=Aa (.int r):=by rw[Ba,BY (by omega),hdl,Fy];rfl
   have es:((done++r::row).map V.int).set pa.length (.int v)=(done++([v]++row)).map .int:=by rw[<-hdl,C5,List.set_append_right _ _ (by rw[Ag];exact A1 _),Ag,Fy,C5];rfl
   refine gk y9 y11 y12 y13 ?_;rw[AB] at ih;have ed:(Ur x (y::as) (r::row) dist res mn)=⟨v::(Ur x as row r v (mi mn v)).row,(Ur x as row r v (mi mn v)).res,(Ur x as row r v (mi mn v)).mn⟩:=by rw[<-hv];rfl
   rw[ed,Bl,Fm];rw[A0,A0] at ih;refine Eg rfl ?_ ih;refine Ap (Cc (AO rfl (CB (AC rfl (AC (AO rfl rfl (Re ey (by omega))) BW)) (c127 hd hx hy)) rfl))<|Ap (U':=(Rl d a x1 x2 x3 x4 (done++r::row) res x7 x (.w (.int r)) mn (L pa.length) (.w (.int (dist+(sc x y:Nat)))) x13)) (Cc ?_) ?_
   ·show((Cj .i (.list ((done++r::row).map .int)) (I pa.length)))=_;exact KB er (by rw[Ag,hlr];omega)
   refine Ap (Cc rfl) (Ap (U':=(Rl d a x1 x2 x3 x4 (done++r::row) v x7 x (.w (.int r)) mn (L pa.length) (.w (.int (dist+(sc x y:Nat)))) (.w (.int (mi res r+2))))) (Cc (by rw[<-hv];rfl)) (Ap (U':=(Rl d a x1 x2 x3 x4 (done++([v]++row)) v x7 x (.w (.int r)) mn (L pa.length) (.w (.int (dist+(sc x y:Nat)))) (.w (.int (mi res r+2))))) ?_ (Ap (U':=(Rl d a x1 x2 x3 x4 (done++([v]++row)) v x7 x (.w (.int r)) (mi mn v) (L pa.length) (.w (.int (dist+(sc x y:Nat)))) (.w (.int (mi res r+2))))) ?_ ?_)))
   ·delta Rl;rw[<-es];show(if(0:Int)<=(pa.length:Nat)/\((pa.length:Nat):Int).toNat<((done++r::row).map V.int).length then Aa (Fl.next,wr (Rl d a x1 x2 x3 x4 (done++r::row) v x7 x (.w (.int r)) mn (L pa.length) (.w (.int (dist+(sc x y:Nat)))) (.w (.int (mi res r+2)))) 5 (.x (((done++r::row).map V.int).set ((pa.length:Nat):Int).toNat (.int v)))) else Ae)=_;rw[if_pos ⟨by lia,by rw[Ag,hlr];lia⟩,Cd];rfl
   ·unfold mi
    by_cases q:v<mn
    ·rw[if_pos q];exact DC ((He (AO rfl rfl (PZ v mn))).trans (by rw[decide_eq_true q];rfl)) (Ap (Cc rfl) rfl)
    ·rw[if_neg q];exact B0 ((He (AO rfl rfl (PZ v mn))).trans (by rw[decide_eq_false q];rfl)) rfl
   ·rfl
abbrev Vt(d:Nat)(a b:List Nat)(m:Int)(x3 x4 x5 x6 x7 x8 x9 x10 x11 x12 x13:LV):AQ:=[.w (wd d a),.w (wd d b),.w (.int m),x3,x4,x5,x6,x7,x8,x9,x10,x11,x12,x13]
theorem aS:∀n∈R7,Dc 0 (n:Nat) 1=Aa ((BZ 0 n).map I):=OP (by kernel_rfl) (by kernel_rfl) (by kernel_rfl) (by kernel_rfl) (by kernel_rfl) (by kernel_rfl) (by kernel_rfl)
theorem Uz:∀n:Nat,n<=6->n∈R7:=by decide
theorem dX(x:Nat)(a:List Nat)(row:List Int)(dist res mn:Int)(h:row.length=a.length):(Ur x a row dist res mn).row.length=a.length:=by
 induction a generalizing row dist res mn with
 |nil=>
  induction row using Aq with
  |nil=>rfl
  |cons=>cases h
 |cons y a ih=>
  induction row using Aq with
  |nil=>cases h
  |cons r row=>exact congrArg (·+1) (ih row _ _ _ (C4 h))
abbrev pW:E5:=.cons (.asg 8 (.o2 .i (.v 1) (.v 7))) (.cons (.asgL [9,6] (.o2 .mul (.v 7) (.gv 2))) (.cons (.asg 10 (.c (.int 9223372036854775807))) (.cons (.for_ (.one 11) (.r (.o1 .len (.v 0))) bIn) (.cons (.f (.o2 .gt (.v 10) (.v 2)) (.cons (.ret (.o2 .a (.v 2) (.c (.int 1)))) .nil) .nil) .nil))))
theorem vK(a b:Int):Cj .gt (.int a) (.int b)=Aa (.bool (decide (b<a))):=rfl
theorem kO{G:EZ}{F:Nat}{U:AQ}{is:List Nat}{e:Ex}{v:V}(h:ev G e U=Aa v):CD G F (.asgL is e) U=Aa (.next,is.foldl (λ U i=>wr U i (.w v)) U):=by show(ev G e U).map _=_;rw[h];rfl
theorem KR(d:Nat)(w:List Nat):QA .len (wd d w)=Aa (I w.length):=by show Aa (V.int (w.map (ch d)).length)=_;rw[Ag]
theorem kZ(hd:d<24){a b:List Nat}(ha:JY a)(hb:JY b)(hza:a.length<=6)(hzb:b.length<=6){m:Int}{x3 x4:LV}(bs pb:List Nat)(row:List Int)(res:Int)(x7 x8 x9 x10 x11 x12 x13:LV)(e:b=pb++bs)(hrl:row.length=a.length){gC:Prop}(gk:∀U',(B7 (.one 7) (Bw (GL (j+1)) 64 pW) ((BZ pb.length bs.length).map I) (Vt d a b m x3 x4 (.x (row.map .int)) (.w (.int res)) x7 x8 x9 x10 x11 x12 x13)=Aa (.ret (.int (oJ a m bs pb.length row res)),U'))\/(B7 (.one 7) (Bw (GL (j+1)) 64 pW) ((BZ pb.length bs.length).map I) (Vt d a b m x3 x4 (.x (row.map .int)) (.w (.int res)) x7 x8 x9 x10 x11 x12 x13)=Aa (.next,U')/\rd U' 6=.w (.int (oJ a m bs pb.length row res)))->gC):gC:=by
 induction bs generalizing pb row res x7 x8 x9 x10 x11 x12 x13 with
 |nil=>exact gk _ (.inr ⟨rfl,rfl⟩)
 |cons x bs ih=>
  have hpb:pb.length+(bs.length+1)<=6:=by rw[e,AB] at hzb;exact hzb
  have ex:b[pb.length]?=Aa x:=by rw[e,BY (A1 _),Fy];rfl
  have hx:=hb x (by rw[e];exact List.mem_append.mpr (.inr (.head _)));refine vE (j:=j) (x1:=.w (wd d b)) (x2:=.w (.int m)) (x3:=x3) (x4:=x4) (x7:=L pb.length) hd ha (by lia) hx a [] [] row (pb.length*2:Nat) (pb.length*2:Nat) 9223372036854775807 x11 x12 x13 rfl rfl hrl λ y9 y11 y12 y13 hin=>?_;rw[Ko,Ko] at hin;have hol:=dX x a row (pb.length*2:Nat) (pb.length*2:Nat) 9223372036854775807 hrl;rw[Bl,Fm] at gk;have eD:oJ a m (x::bs) pb.length row res=if m<(Ur x a row (pb.length*2:Nat) (pb.length*2:Nat) 9223372036854775807).mn then m+1 else oJ a m bs (pb.length+1) (Ur x a row (pb.length*2:Nat) (pb.length*2:Nat) 9223372036854775807).row (Ur x a row (pb.length*2:Nat) (pb.length*2:Nat) 9223372036854775807).res:=rfl;rw[eD] at gk;generalize Ur x a row (pb.length*2:Nat) (pb.length*2:Nat) 9223372036854775807=o at gk hin hol;have key:∀q,Bw (GL (j+1)) 64 (.cons (.f (.o2 .gt (.v 10) (.v 2)) (.cons (.ret (.o2 .a (.v 2) (.c (.int 1)))) .nil) .nil) .nil) (Vt d a b m x3 x4 (.x (o.row.map .int)) (.w (.int o.res)) (L pb.length) (.w (wd d [x])) y9 (.w (.int o.mn)) y11 y12 y13)=Aa q->Bw (GL (j+1)) 64 pW (Vt d a b m x3 x4 (.x (row.map .int)) (.w (.int res)) (L pb.length) x8 x9 x10 x11 x12 x13)=Aa q:=λ q hq=>Ap (Cc (AO rfl rfl (Re ex (by lia)))) (Ap (kO (AO rfl rfl (MK (n:=20) (by lia) (by decide) (by decide)))) (Ap rfl (Ap (Jv (JU (H4 rfl (KR d a)) (aS _ (Uz _ hza))) hin) hq)))
  have t:Gr (GL (j+1)) (.o2 .gt (.v 10) (.v 2)) (Vt d a b m x3 x4 (.x (o.row.map .int)) (.w (.int o.res)) (L pb.length) (.w (wd d [x])) y9 (.w (.int o.mn)) y11 y12 y13)=Aa (decide (m<o.mn)):=(He (AO rfl rfl (vK o.mn m))).trans rfl
  by_cases q:m<o.mn
  ·rw[if_pos q] at gk;exact gk _ (.inl (XD rfl (key _ (r1 (DC (t.trans (by rw[decide_eq_true q])) (r1 (En rfl)))))))
  ·rw[if_neg q] at gk;refine ih (pb++[x]) o.row o.res (L pb.length) (.w (wd d [x])) y9 (.w (.int o.mn)) y11 y12 y13 (by rw[e,A0];rfl) hol λ U' ih=>?_;rw[AB] at ih;have st:=λ {p:Fl×AQ}=>Eg (p:=p) (t:=.one 7) (xs:=(BZ (pb.length+1) bs.length).map I) (U:=(Vt d a b m x3 x4 (.x (row.map .int)) (.w (.int res)) x7 x8 x9 x10 x11 x12 x13)) rfl (key _ (Ap (B0 (t.trans (by rw[decide_eq_false q])) rfl) rfl));rcases ih with ih|⟨ih,h6⟩
   ·exact gk U' (.inl (st ih))
   ·exact gk U' (.inr ⟨st ih,h6⟩)
noncomputable def pre:List Nat->List Nat->Nat
 |x::a,y::b=>bif AG x y then pre a b+1 else 0
 |_,_=>0
section
variable{a b c:Ex}{x:V}{r:Fu}
theorem PD(h:ev G a U=Aa x)(t:truthy x=Aa Ai):ev G (.bool Ab (.cons a (.cons b r))) U=Aa x:=by show((ev G a U).bind λ v=>(truthy v).bind λ t=>Ca (t==Ab) (ev G (.bool Ab (.cons b r)) U) (Aa v))=_;rw[h];show((truthy x).bind λ t=>Ca (t==Ab) (ev G (.bool Ab (.cons b r)) U) (Aa x))=_;rw[t];rfl
theorem LD(h:ev G a U=Aa x)(t:truthy x=Aa Ab):ev G (.bool Ab (.cons a (.cons b r))) U=ev G (.bool Ab (.cons b r)) U:=by show((ev G a U).bind λ v=>(truthy v).bind λ t=>Ca (t==Ab) (ev G (.bool Ab (.cons b r)) U) (Aa v))=_;rw[h];show((truthy x).bind λ t=>Ca (t==Ab) (ev G (.bool Ab (.cons b r)) U) (Aa x))=_;rw[t];rfl
theorem uG(h:ev G a U=Aa x)(t:truthy x=Aa Ai):ev G (.bool Ai (.cons a (.cons b r))) U=ev G (.bool Ai (.cons b r)) U:=by show((ev G a U).bind λ v=>(truthy v).bind λ t=>Ca (t==Ai) (ev G (.bool Ai (.cons b r)) U) (Aa v))=_;rw[h];show((truthy x).bind λ t=>Ca (t==Ai) (ev G (.bool Ai (.cons b r)) U) (Aa x))=_;rw[t];rfl
theorem uE(h:ev G a U=Aa x)(t:truthy x=Aa Ab):ev G (.bool Ai (.cons a (.cons b r))) U=Aa x:=by show((ev G a U).bind λ v=>(truthy v).bind λ t=>Ca (t==Ai) (ev G (.bool Ai (.cons b r)) U) (Aa v))=_;rw[h];show((truthy x).bind λ t=>Ca (t==Ai) (ev G (.bool Ai (.cons b r)) U) (Aa x))=_;rw[t];rfl
end
theorem dW(d k:Nat)(w:List Nat):aG (w.map (ch d)) (Aa (k:Int)) Ae Ae=Aa (wd d (w.drop k)):=by rw[fX,<-R0];rfl
theorem Lk{a r:List Nat}{k x:Nat}(h:a.drop k=x::r):a[k]?=Aa x/\a.drop (k+1)=r:=by
 constructor
 ·have:=List.getElem?_drop (xs:=a) (i:=k) (j:=0);rw[h] at this;exact this.symm
 ·rw[<-Ij,h];rfl
noncomputable abbrev xA:Ex:=.bool Ab (.cons (.sl (.v 0) (.v 3) .a .a) (.cons (.sl (.v 1) (.v 3) .a .a) (.cons (.o2 .eq (.o2 .i (.v 0) (.v 3)) (.o2 .i (.v 1) (.v 3))) .nil)))
theorem KJ{U:AQ}{i d k:Nat}{w:List Nat}(hi:rd U i=.w (wd d w))(h:rd U 3=L k):ev G (.sl (.v i) (.v 3) .a .a) U=Aa (wd d (w.drop k)):=
 R5 (congrArg Bv hi) (congrArg Bv h) rfl rfl (dW d k w)
theorem W6(hd:d<24){a b:List Nat}(ha:JY a)(hb:JY b)(hza:a.length<=1000)(hzb:b.length<=1000){x2:LV}{ys:List LV}:∀(a' b':List Nat) (k n:Nat),a.drop k=a'->b.drop k=b'->pre a' b'<n->G2 n (Gr G xA) (Bw G F (.cons (.aug 3 .a (.c (.int 1))) .nil)) (.w (wd d a)::.w (wd d b)::x2::L k::ys)=Aa (.next,.w (wd d a)::.w (wd d b)::x2::L (k+pre a' b')::ys):=λ a' b' k n=>by
 induction n generalizing a' b' k with
 |zero=>exact λ _ _ h=>absurd h (HP _)
 |succ n IH=>
  intro ea eb hn
  induction a' using Aq with
  |nil=>have h:=KJ (G:=G) (U:=.w (wd d a)::.w (wd d b)::x2::L k::ys) (i:=0) rfl rfl;rw[ea] at h;exact Mz ((He (PD h rfl)).trans rfl)
  |cons x r=>
   induction b' using Aq with
   |nil=>have h:=KJ (G:=G) (U:=.w (wd d a)::.w (wd d b)::x2::L k::ys) (i:=0) rfl rfl;rw[ea] at h;have h':=KJ (G:=G) (U:=.w (wd d a)::.w (wd d b)::x2::L k::ys) (i:=1) rfl rfl;rw[eb] at h';refine Mz ((He ?_).trans (show truthy (.str [])=Aa Ai from rfl));rw[LD h rfl];exact PD h' rfl
   |cons y r'=>
    have h:=KJ (G:=G) (U:=.w (wd d a)::.w (wd d b)::x2::L k::ys) (i:=0) rfl rfl;rw[ea] at h;have h':=KJ (G:=G) (U:=.w (wd d a)::.w (wd d b)::x2::L k::ys) (i:=1) rfl rfl;rw[eb] at h';obtain⟨ex,er⟩:=Lk ea;obtain⟨ey,er'⟩:=Lk eb;have hx:=ha x (Bi ex);have hy:=hb y (Bi ey);have t:Gr G xA (.w (wd d a)::.w (wd d b)::x2::L k::ys)=Aa (AG x y):=by refine(He (v:=.bool (AG x y)) ?_).trans rfl;rw[LD h rfl,LD h' rfl];show ev G (.o2 .eq (.o2 .i (.v 0) (.v 3)) (.o2 .i (.v 1) (.v 3))) _=_;rw[<-Ti];exact AO (AO rfl rfl (Re ex hza)) (AO rfl rfl (Re ey hzb)) (Ps hd (QZ hx) (QZ hy))
    show _=Aa (Fl.next,.w (wd d a)::.w (wd d b)::x2::L (k+(bif AG x y then pre r r'+1 else 0))::ys);have hn:(bif AG x y then pre r r'+1 else 0)<n+1:=hn
    cases q:AG x y with
    |false=>rw[q] at t;exact Mz t
    |true=>rw[q] at t hn;rw[cond_true] at hn ⊢;have ih:=IH r r' (k+1) er er' (Nat.lt_of_succ_lt_succ hn);rw[show k+(pre r r'+1)=k+1+pre r r' by omega];exact KH t (Ap (HT rfl rfl rfl rfl) rfl) ih
noncomputable def PY(k:Nat):V:=.int (-(k:Int))
noncomputable abbrev eP:Ex:=.bool Ai (.cons (.v 4) (.cons (.c .none) .nil))
theorem bU{U:AQ}{k:Nat}(h:rd U 4=.w (PY k)):∃v,ev G eP U=Aa v/\GX v=Aa (if k=0 then Ae else Aa (-(k:Int))):=by
 rcases k with _|k
 ·refine⟨.none,?_,rfl⟩;rw[show ev G eP U=ev G (.bool Ai (.cons (.c .none) .nil)) U from uG (congrArg Bv h) rfl];rfl
 ·refine⟨PY (k+1),uE (congrArg Bv h) ?_,rfl⟩;show Aa ((-((k+1:Nat):Int))!=0)=_;rw[bne_iff_ne.mpr (by omega)]
theorem ZP(d k:Nat)(w:List Nat):aG (w.map (ch d)) Ae (if k=0 then Ae else Aa (-(k:Int))) Ae=Aa (wd d (w.take (w.length - k))):=by
 rw[WP];unfold jR Nv PP wd;rw[Ag];show Aa (V.str (((w.map (ch d)).drop 0).take _))=_;rw[K9,R1];rcases k with _|k
 ·rfl
 ·rw[if_neg (JO k)];show Aa (V.str (List.take (O3 w.length (-((k+1:Nat):Int)) - 0) _))=_;rw[clipAt_neg _ _ (by lia)];rfl
theorem KI{U:AQ}{i d k:Nat}{w:List Nat}(hi:rd U i=.w (wd d w))(h:rd U 4=.w (PY k)):ev G (.sl (.v i) .a eP .a) U=Aa (wd d (w.take (w.length - k))):=by obtain⟨v,h1,h2⟩:=bU h;refine R5 (congrArg Bv hi) rfl h1 rfl ?_;show((GX V.none).bind λ l=>(GX v).bind λ h=>(GX V.none).bind λ k=>aG (w.map (ch d)) l h k)=_;rw[h2];exact ZP d k w
theorem Rg{Z:Type}{xs:List Z}{k:Nat}{x:Z}(h:xs.reverse[k]?=Aa x)(hz:xs.length<=1000000):JD xs (-(k:Int) - 1)=Aa x:=by
 have hk:k<xs.length:=by have:=(List.getElem?_eq_some_iff.mp h).1;rw[Da] at this;exact this
 rw[KD hk] at h;unfold JD Nt;rw[if_pos (by rw[Co];exact⟨decide_eq_true (by lia),decide_eq_true (by lia)⟩)];have e:E7 (-(k:Int) - 1) xs.length=Aa (xs.length - 1 - k):=by
  unfold E7;simp
  omega
 rw[e];exact h
theorem XV{U:AQ}{i d k x:Nat}{w:List Nat}(hi:rd U i=.w (wd d w))(h:rd U 4=.w (PY k))(e:w.reverse[k]?=Aa x)(hz:w.length<=1000):ev G (.o2 .i (.v i) (.o2 .sub (.v 4) (.c (.int 1)))) U=Aa (wd d [x]):=by refine AO (congrArg Bv hi) (AO (congrArg Bv h) rfl rfl) ?_;show(JD (w.map (ch d)) (-(k:Int) - 1)).map (λ c=>V.str [c])=_;rw[Rg (by rw[<-OC,Ba,e];rfl) (by rw[Ag];exact Ak hz (by decide))];rfl
abbrev iA:Ex:=.bool Ab (.cons (.sl (.v 0) .a eP .a) (.cons (.sl (.v 1) .a eP .a) (.cons (.o2 .eq (.o2 .i (.v 0) (.o2 .sub (.v 4) (.c (.int 1)))) (.o2 .i (.v 1) (.o2 .sub (.v 4) (.c (.int 1))))) .nil)))
theorem Js{a a':List Nat}{k:Nat}(h:a.reverse.drop k=a'):a.take (a.length - k)=a'.reverse:=by rw[<-h,List.drop_reverse,List.reverse_reverse]
theorem QK(d:Nat)(w:List Nat):truthy (wd d w)=Aa (!w.isEmpty):=by cases w<;>rfl
theorem U0(hd:d<24){a b:List Nat}(ha:JY a)(hb:JY b)(hza:a.length<=1000)(hzb:b.length<=1000){x2 x3:LV}{ys:List LV}:∀(a' b':List Nat) (k n:Nat),a.reverse.drop k=a'->b.reverse.drop k=b'->pre a' b'<n->G2 n (Gr G iA) (Bw G F (.cons (.aug 4 .sub (.c (.int 1))) .nil)) (.w (wd d a)::.w (wd d b)::x2::x3::.w (PY k)::ys)=Aa (.next,.w (wd d a)::.w (wd d b)::x2::x3::.w (PY (k+pre a' b'))::ys):=λ a' b' k n=>by
 induction n generalizing a' b' k with
 |zero=>exact λ _ _ h=>absurd h (HP _)
 |succ n IH=>
  intro ea eb hn
  induction a' using Aq with
  |nil=>have h:=KI (G:=G) (U:=.w (wd d a)::.w (wd d b)::x2::x3::.w (PY k)::ys) (i:=0) rfl rfl;rw[Js ea] at h;exact Mz ((He (PD h rfl)).trans rfl)
  |cons x r=>
   induction b' using Aq with
   |nil=>have h:=KI (G:=G) (U:=.w (wd d a)::.w (wd d b)::x2::x3::.w (PY k)::ys) (i:=0) rfl rfl;rw[Js ea] at h;have h':=KI (G:=G) (U:=.w (wd d a)::.w (wd d b)::x2::x3::.w (PY k)::ys) (i:=1) rfl rfl;rw[Js eb] at h';refine Mz ((He ?_).trans (show truthy (.str [])=Aa Ai from rfl));rw[LD h (by rw[QK];simp)];exact PD h' rfl
   |cons y r'=>
    have h:=KI (G:=G) (U:=.w (wd d a)::.w (wd d b)::x2::x3::.w (PY k)::ys) (i:=0) rfl rfl;rw[Js ea] at h;have h':=KI (G:=G) (U:=.w (wd d a)::.w (wd d b)::x2::x3::.w (PY k)::ys) (i:=1) rfl rfl;rw[Js eb] at h';obtain⟨ex,er⟩:=Lk ea;obtain⟨ey,er'⟩:=Lk eb;have hx:=ha x (List.mem_reverse.mp (Bi ex));have hy:=hb y (List.mem_reverse.mp (Bi ey));have t:Gr G iA (.w (wd d a)::.w (wd d b)::x2::x3::.w (PY k)::ys)=Aa (AG x y):=by refine(He (v:=.bool (AG x y)) ?_).trans rfl;rw[LD h (by rw[QK];simp),LD h' (by rw[QK];simp)];show ev G (.o2 .eq (.o2 .i (.v 0) (.o2 .sub (.v 4) (.c (.int 1)))) (.o2 .i (.v 1) (.o2 .sub (.v 4) (.c (.int 1))))) _=_;rw[<-Ti];exact AO (XV rfl rfl ex hza) (XV rfl rfl ey hzb) (Ps hd (QZ hx) (QZ hy))
    show _=Aa (Fl.next,.w (wd d a)::.w (wd d b)::x2::x3::.w (PY (k+(bif AG x y then pre r r'+1 else 0)))::ys);have hn:(bif AG x y then pre r r'+1 else 0)<n+1:=hn
    cases q:AG x y with
    |false=>rw[q] at t;exact Mz t
    |true=>rw[q] at t hn;rw[cond_true] at hn ⊢;have ih:=IH r r' (k+1) er er' (Nat.lt_of_succ_lt_succ hn);rw[show k+(pre r r'+1)=k+1+pre r r' by omega];refine KH t (Ap (HT rfl rfl rfl ?_) rfl) ih;show Aa (V.int (-(k:Int) - 1))=Aa (V.int (-((k+1:Nat):Int)));rw[show -(k:Int) - 1= -((k+1:Nat):Int) by lia]
noncomputable def Ky(n:Nat):List Int:=(Bp n).map λ k=>((2*(k+1):Nat):Int)
def cJ(a b:List Nat)(m:Int):Int:=if m<((b.length:Int) - a.length)*2 then m+1 else oJ a m b 0 (Ky a.length) 0
def lZ(a b:List Nat)(m:Int):Int:=bif a.isEmpty||b.isEmpty then((2*(a.length+b.length):Nat):Int) else bif Fz b.length a.length then cJ b a m else cJ a b m
noncomputable def S3(a:List Nat)(s:Nat):List Nat:=a.take (a.length - s)
def lY(a b:List Nat)(m:Int):Int:=lZ (S3 a (pre a.reverse b.reverse)) (S3 b (pre a.reverse b.reverse)) m
def Xu(a b:List Nat)(m:Int):Int:=bif a==b then 0 else lY (a.drop (pre a b)) (b.drop (pre a b)) m
theorem WV:∀n∈R7,Dc 2 (2*(n+1):Nat) 2=Aa ((Ky n).map .int):=OP (by kernel_rfl) (by kernel_rfl) (by kernel_rfl) (by kernel_rfl) (by kernel_rfl) (by kernel_rfl) (by kernel_rfl)
theorem W7:∀a b:List Nat,pre a b<=a.length
:=λ a=>by
 induction a with
 |nil=>exact λ _=>A1 _
 |cons x a IH=>intro b;induction b using Aq with
  |nil=>exact Bj _
  |cons y b=>
   show(bif AG x y then pre a b+1 else 0)<=a.length+1
   cases AG x y with
   |true=>exact OV (IH b)
   |false=>exact Bj _
theorem QY{a:List Nat}(h:JY a)(n:Nat):JY (a.drop n):=λ x hx=>h x (List.mem_of_mem_drop hx)
theorem QX{a:List Nat}(h:JY a)(n:Nat):JY (a.take n):=λ x hx=>h x (List.mem_of_mem_take hx)
theorem iM{G:EZ}{U:AQ}{a b c:Ex}{m n k:Int}{xs:List V}(ha:ev G a U=Aa (.int m))(hb:ev G b U=Aa (.int n))(hc:ev G c U=Aa (.int k))(h:Dc m n k=Aa xs):EU G (.rng3 a b c) U=Aa xs:=by show(((ev G a U).bind Bb).bind λ m=>((ev G b U).bind Bb).bind λ n=>((ev G c U).bind Bb).bind λ d=>Dc m n d)=_;rw[ha,hb,hc];exact h
theorem rM{G:EZ}{U:AQ}{it:It}{xs:List V}(h:EU G it U=Aa xs)(hz:xs.length<=CN):ev G (.lof it) U=Aa (.list xs):=by show((EU G it U).bind λ xs=>if xs.length<=CN then Aa (V.list xs) else Ae)=_;rw[h];exact if_pos hz
theorem kN{G:EZ}{F i:Nat}{U:AQ}{e:Ex}{xs:List V}(h:ev G e U=Aa (.list xs)):CD G F (.asgO i e) U=Aa (.next,wr U i (.x xs)):=by show((ev G e U).bind BD).map (λ xs=>(Fl.next,wr U i (.x xs)))=_;rw[h];rfl
theorem fR{G:EZ}{U:AQ}{e:Ex}{v:V}{b:Bool}(h:ev G e U=Aa v)(k:truthy v=Aa b):ev G (.not e) U=Aa (.bool (!b)):=by show((ev G e U).bind truthy).map (λ b=>V.bool (!b))=_;rw[h];show(truthy v).map (λ b=>V.bool (!b))=_;rw[k];rfl
section
variable{a b:List Nat}{m:Int}{x3 x4:LV}
abbrev Do(d:Nat)(a b:List Nat)(m:Int)(x3 x4:LV):AQ:=[.w (wd d a),.w (wd d b),.w (.int m),x3,x4,.u,.u,.u,.u,.u,.u,.u,.u,.u]
theorem NZ{G:EZ}:ev G (.o1 .len (.v 0)) (Do d a b m x3 x4)=Aa (I a.length):=H4 rfl (KR d a)
theorem Qc{G:EZ}:ev G (.o1 .len (.v 1)) (Do d a b m x3 x4)=Aa (I b.length):=H4 rfl (KR d b)
theorem ZQ(hd:d<24)(ha:JY a)(hb:JY b)(hza:a.length<=6)(hzb:b.length<=6):∃U',Bw (GL (j+1)) 64 (Gn 13 Az) (Do d a b m x3 x4)=Aa (.ret (.int (oJ a m b 0 (Ky a.length) 0)),U'):=by
 have hrl:(Ky a.length).length=a.length:=by unfold Ky;rw[Ag,C3]
 have s13:CD (GL (j+1)) 64 (C1 13 Az) (Do d a b m x3 x4)=Aa (.next,[.w (wd d a),.w (wd d b),.w (.int m),x3,x4,.x ((Ky a.length).map .int),.u,.u,.u,.u,.u,.u,.u,.u]):=
  kN (rM (iM rfl (AO rfl (AO (z:=I (a.length+1)) NZ rfl rfl) (MK (n:=20) (by decide) (by omega) (by decide))) rfl (WV _ (Uz _ hza))) (by rw[Ag,hrl];exact Ak hza (by decide)))
 have s14:CD (GL (j+1)) 64 (C1 14 Az) [.w (wd d a),.w (wd d b),.w (.int m),x3,x4,.x ((Ky a.length).map .int),.u,.u,.u,.u,.u,.u,.u,.u]=Aa (.next,[.w (wd d a),.w (wd d b),.w (.int m),x3,x4,.x ((Ky a.length).map .int),L 0,.u,.u,.u,.u,.u,.u,.u]):=rfl;refine kZ (j:=j) (m:=m) (x3:=x3) (x4:=x4) hd ha hb hza hzb b [] (Ky a.length) 0 .u .u .u .u .u .u .u rfl hrl λ U' h=>?_;have it:EU (GL (j+1)) (.r (.o1 .len (.v 1))) [.w (wd d a),.w (wd d b),.w (.int m),x3,x4,.x ((Ky a.length).map .int),L 0,.u,.u,.u,.u,.u,.u,.u]=Aa ((BZ 0 b.length).map I):=JU (H4 rfl (KR d b)) (aS _ (Uz _ hzb));rcases h with h|⟨h,h6⟩
 ·have s15:=Jv it h;exact⟨U',Ap s13 (Ap s14 (Dd s15))⟩
 ·have s15:=Jv it h;have s16:CD (GL (j+1)) 64 (C1 16 Az) U'=_:=En (congrArg Bv h6);exact⟨U',Ap s13 (Ap s14 (Ap s15 (Dd s16)))⟩
theorem tD(hd:d<24)(ha:JY a)(hb:JY b)(hza:a.length<=6)(hzb:b.length<=6)(hab:a.length<=b.length):∃U',Bw (GL (j+1)) 64 (Gn 12 Az) (Do d a b m x3 x4)=Aa (.ret (.int (cJ a b m)),U'):=by
 have t:Gr (GL (j+1)) (.o2 .gt (.o2 .mul (.o2 .sub (.o1 .len (.v 1)) (.o1 .len (.v 0))) (.gv 2)) (.v 2)) (Do d a b m x3 x4)=Aa (decide (m<((b.length:Int) - a.length)*2)):=
  (He (AO (AO (AO Qc NZ rfl) rfl (NO (n:=20) (by omega) (by decide) (by decide))) rfl (vK _ m))).trans rfl
 unfold cJ
 by_cases q:m<((b.length:Int) - a.length)*2
 ·rw[if_pos q];have s12:CD (GL (j+1)) 64 (C1 12 Az) (Do d a b m x3 x4)=Aa (.ret (.int (m+1)),Do d a b m x3 x4):=DC (t.trans (by rw[decide_eq_true q])) (r1 (En rfl));exact⟨_,Dd s12⟩
 ·rw[if_neg q];obtain⟨U',h⟩:=ZQ hd ha hb hza hzb;have s12:CD (GL (j+1)) 64 (C1 12 Az) (Do d a b m x3 x4)=Aa (.next,Do d a b m x3 x4):=B0 (t.trans (by rw[decide_eq_false q])) rfl;exact⟨U',Ap s12 h⟩
theorem zQ(hd:d<24)(ha:JY a)(hb:JY b)(hza:a.length<=6)(hzb:b.length<=6):∃U',Bw (GL (j+1)) 64 (Gn 9 Az) (Do d a b m x3 x4)=Aa (.ret (.int (lZ a b m)),U'):=by
 have n0:=fR (G:=GL (j+1)) (U:=Do d a b m x3 x4) (e:=.v 0) rfl (QK d a);have n1:=fR (G:=GL (j+1)) (U:=Do d a b m x3 x4) (e:=.v 1) rfl (QK d b);rw[Bool.not_not] at n0 n1;have t:Gr (GL (j+1)) (.bool Ai (.cons (.not (.v 0)) (.cons (.not (.v 1)) .nil))) (Do d a b m x3 x4)=Aa (a.isEmpty||b.isEmpty):=by
  cases q:a.isEmpty with
  |true=>rw[q] at n0;exact(He (uE n0 rfl)).trans rfl
  |false=>rw[q] at n0;exact(He ((uG n0 rfl).trans (show ev (GL (j+1)) (.bool Ai (.cons (.not (.v 1)) .nil)) (Do d a b m x3 x4)=_ from n1))).trans rfl
 unfold lZ
 cases q:a.isEmpty||b.isEmpty with
 |true=>rw[q] at t;have s9:CD (GL (j+1)) 64 (C1 9 Az) (Do d a b m x3 x4)=Aa (.ret (I (2*(a.length+b.length))),Do d a b m x3 x4):=DC t (r1 (En (AO rfl (AO NZ Qc (Oo _ _)) (MK (n:=20) (by decide) (by omega) (by decide)))));exact⟨_,Dd s9⟩
 |false=>
  rw[q] at t;rw[cond_false];have s9:CD (GL (j+1)) 64 (C1 9 Az) (Do d a b m x3 x4)=Aa (.next,Do d a b m x3 x4):=B0 t rfl;have g:∀(e:Ex) (n:Nat),n<=6->ev (GL (j+1)) e (Do d a b m x3 x4)=Aa (I n)->ev (GL (j+1)) (.o2 .gt e (.gv 1)) (Do d a b m x3 x4)=Aa (.bool Ai):=λ e n hn h=>by refine AO h rfl ?_;show Aa (V.bool (decide ((40:Int)<n)))=_;rw[decide_eq_false (by omega)]
  have s10:CD (GL (j+1)) 64 (C1 10 Az) (Do d a b m x3 x4)=Aa (.next,Do d a b m x3 x4):=B0 ((He (fQ (g _ _ hza NZ) (g _ _ hzb Qc))).trans rfl) rfl;have t11:Gr (GL (j+1)) (.o2 .lt (.o1 .len (.v 1)) (.o1 .len (.v 0))) (Do d a b m x3 x4)=Aa (Fz b.length a.length):=by
   refine(He (AO Qc NZ (PZ _ _))).trans ?_
   by_cases h:b.length<a.length
   ·rw[decide_eq_true (Int.ofNat_lt.mpr h)];exact congrArg Aa (G7 h).symm
   ·rw[decide_eq_false λ h'=>h (Int.ofNat_lt.mp h')]
    cases h2:Fz b.length a.length with
    |false=>rfl
    |true=>exact absurd (AN h2) h
  cases hq:Fz b.length a.length with
  |true=>rw[hq] at t11;have hlt:=AN hq;obtain⟨U',h⟩:=tD hd hb ha hzb hza (B9 hlt);have s11:CD (GL (j+1)) 64 (C1 11 Az) (Do d a b m x3 x4)=Aa (.next,Do d b a m x3 x4):=DC t11 (Ap (QT (AC rfl (AC rfl BW)) rfl) rfl);exact⟨U',Ap s9 (Ap s10 (Ap s11 h))⟩
  |false=>
   rw[hq] at t11;have hle:=Ha λ h=>by rw[show Fz b.length a.length=Ab from G7 h] at hq;cases hq
   obtain⟨U',h⟩:=tD hd ha hb hza hzb hle;have s11:CD (GL (j+1)) 64 (C1 11 Az) (Do d a b m x3 x4)=Aa (.next,Do d a b m x3 x4):=B0 t11 rfl;exact⟨U',Ap s9 (Ap s10 (Ap s11 h))⟩
theorem zI(hd:d<24)(ha:JY a)(hb:JY b)(hza:a.length<=6)(hzb:b.length<=6):∃U',Bw (GL (j+1)) 64 (Gn 5 Az) (Do d a b m x3 .u)=Aa (.ret (.int (lY a b m)),U'):=by unfold lY S3;obtain⟨U',h⟩:=zQ (x4:=.w (PY (pre a.reverse b.reverse))) hd (QX ha (a.length - pre a.reverse b.reverse)) (QX hb (b.length - pre a.reverse b.reverse)) (Ak (List.length_take_le' _ _) hza) (Ak (List.length_take_le' _ _) hzb);have hp:=W7 a.reverse b.reverse;rw[Da] at hp;have s5:CD (GL (j+1)) 64 (C1 5 Az) (Do d a b m x3 .u)=Aa (.next,Do d a b m x3 (.w (PY 0))):=rfl;have hl:=U0 (G:=GL (j+1)) (F:=64) hd ha hb (Ak hza (by decide)) (Ak hzb (by decide)) (x2:=.w (.int m)) (x3:=x3) (ys:=[.u,.u,.u,.u,.u,.u,.u,.u,.u]) a.reverse b.reverse 0 64 rfl rfl (by omega);rw[CW] at hl;have s6:=hl;generalize pre a.reverse b.reverse=s at*;have s7:CD (GL (j+1)) 64 (C1 7 Az) (Do d a b m x3 (.w (PY s)))=Aa (.next,Do d (S3 a s) b m x3 (.w (PY s))):=Cc (KI rfl rfl);have s8:CD (GL (j+1)) 64 (C1 8 Az) (Do d (S3 a s) b m x3 (.w (PY s)))=Aa (.next,Do d (S3 a s) (S3 b s) m x3 (.w (PY s))):=Cc (KI rfl rfl);exact⟨U',Ap s5 (Ap s6 (Ap s7 (Ap s8 h)))⟩
theorem pM(hd:d<24)(ha:JY a)(hb:JY b)(hza:a.length<=6)(hzb:b.length<=6):GL (j+2) 134 [wd d a,wd d b,.int m] Ae=Aa (.int (Xu a b m)):=by
 have t:Gr (GL (j+1)) (.o2 .eq (.v 0) (.v 1)) (Do d a b m .u .u)=Aa (a==b):=(He (AO rfl rfl (Ps hd ha hb))).trans rfl;unfold Xu
 cases q:a==b with
 |true=>rw[q] at t;have s0:CD (GL (j+1)) 64 (C1 0 Az) (Do d a b m .u .u)=Aa (.ret (.int 0),Do d a b m .u .u):=DC t (r1 (En rfl));exact DM rfl rfl rfl (Dd s0) rfl
 |false=>rw[q] at t;have hp:=W7 a b;obtain⟨U',h⟩:=zI (j:=j) (m:=m) (x3:=L (pre a b)) hd (QY ha (pre a b)) (QY hb (pre a b)) (by rw[BS];omega) (by rw[BS];omega);have s0:CD (GL (j+1)) 64 (C1 0 Az) (Do d a b m .u .u)=Aa (.next,Do d a b m .u .u):=B0 t rfl;have s1:CD (GL (j+1)) 64 (C1 1 Az) (Do d a b m .u .u)=Aa (.next,Do d a b m (L 0) .u):=rfl;have hl:=W6 (G:=GL (j+1)) (F:=64) hd ha hb (Ak hza (by decide)) (Ak hzb (by decide)) (x2:=.w (.int m)) (ys:=[.u,.u,.u,.u,.u,.u,.u,.u,.u,.u]) a b 0 64 rfl rfl (by omega);rw[CW] at hl;have s2:=hl;generalize pre a b=p at*;have s3:CD (GL (j+1)) 64 (C1 3 Az) (Do d a b m (L p) .u)=Aa (.next,Do d (a.drop p) b m (L p) .u):=Cc (KJ rfl rfl);have s4:CD (GL (j+1)) 64 (C1 4 Az) (Do d (a.drop p) b m (L p) .u)=Aa (.next,Do d (a.drop p) (b.drop p) m (L p) .u):=Cc (KJ rfl rfl);exact DM rfl rfl rfl (Ap s0 (Ap s1 (Ap s2 (Ap s3 (Ap s4 h))))) rfl
end
noncomputable def qR(w:List Nat):List Nat:=w.map (·+3)
noncomputable def pV(u:Bool)(w p:List Nat):Int:=bif u then((2*w.length:Nat):Int) - p.length else((2*w.length:Nat):Int) - (2*p.length:Nat)
def rC(u v:Bool)(w p:List Nat):Int:=bif v then Xu p (bif u then qR w else w) (pV u w p) else Xu (bif u then qR w else w) p (pV u w p)
def NF(u v:Bool)(w:List Nat)(q:List Nat×Bool):Bool:=!decide (rC u v w q.1<pV u w q.1)&&(rC u v w q.1==pV u w q.1)==q.2
def small(w:List Nat):Prop:=∀x∈w,x<3
theorem Gs{w:List Nat}(h:small w):JY w:=λ x hx=>AY (h x hx) (by decide)
theorem rQ{w:List Nat}(h:small w):JY (qR w):=λ x hx=>by
 obtain⟨y,hy,rfl⟩:=List.mem_map.mp hx;have:=h y hy
 lia
theorem iO:∀d<24,∀x<3,qS (ch d x)=ch d (x+3):=by decide+kernel
theorem rP{d:Nat}(hd:d<24){w:List Nat}(h:small w):QA .upper (wd d w)=Aa (wd d (qR w)):=by show(if Ng (w.map (ch d))=Ab then Aa (V.str ((w.map (ch d)).map qS)) else Ae)=_;rw[if_pos (Om hd (Gs h)),BF];unfold wd qR;rw[BF,HN λ x hx=>?_];exact iO d hd x (h x hx)
theorem Wg{Z O:Type}(f:Z->V)(g:O->V):∀(l:List Z) (m:List O),LS (l.map f) (m.map g)=(l.zip m).map λ x=>.tup [f x.1,g x.2]
:=λ l=>by
 induction l with
 |nil=>exact λ _=>rfl
 |cons x l IH=>intro m;induction m using Aq with
  |nil=>rfl
  |cons y m=>exact congrArg (V.tup [f x,g y]::·) (IH m)
noncomputable abbrev b165:E5:=.cons (.asgT [6,7] (.f (.o2 .eq (.o2 .mod (.v 3) (.c (.int 2))) (.c (.int 0))) (.tup (.cons (.o1 .upper (.v 1)) (.cons (.o2 .sub (.o2 .mul (.c (.int 2)) (.o1 .len (.v 1))) (.o1 .len (.v 4))) .nil))) (.tup (.cons (.v 1) (.cons (.o2 .sub (.o2 .mul (.c (.int 2)) (.o1 .len (.v 1))) (.o2 .mul (.c (.int 2)) (.o1 .len (.v 4)))) .nil))))) (.cons (.asg 8 (.f (.o2 .lt (.o2 .mod (.v 3) (.c (.int 4))) (.c (.int 2))) (.call 134 (.cons (.v 4) (.cons (.v 6) (.cons (.v 7) .nil))) Ae) (.call 134 (.cons (.v 6) (.cons (.v 4) (.cons (.v 7) .nil))) Ae))) (.cons (.f (.bool Ai (.cons (.o1 .isBool (.v 8)) (.cons (.o2 .lt (.v 8) (.v 7)) (.cons (.o2 .isnot (.o2 .eq (.v 8) (.v 7)) (.v 5)) .nil)))) (.cons (.ret (.c (.bool Ab))) .nil) .nil) .nil))
section
variable{turn:Int}{u v:Bool}{w:List Nat}{x0 x2:LV}
theorem vC(hd:d<24)(hw:small w)(hz:w.length<=6)(eu:(turn.fmod 2==0)=u)(ev':decide (turn.fmod 4<2)=v)(l:List (List Nat×Bool))(x4 x5 x6 x7 x8:LV)(h:∀q∈l,small q.1/\q.1.length<=6/\NF u v w q=Ab){gC:Prop}(gk:∀y4 y5 y6 y7 y8,B7 (.m [4,5]) (Bw (GL (j+2)) 64 b165) (l.map λ q=>.tup [wd d q.1,.bool q.2]) [x0,.w (wd d w),x2,.w (.int turn),x4,x5,x6,x7,x8]=Aa (.next,[x0,.w (wd d w),x2,.w (.int turn),y4,y5,y6,y7,y8])->gC):gC:=by
 induction l generalizing x4 x5 x6 x7 x8 with
 |nil=>exact gk x4 x5 x6 x7 x8 rfl
 |cons r l ih=>
  obtain⟨p,b⟩:=r;refine Db (h (p,b) (.head _)) λ hp hpz hok=>?_;have hpz:p.length<=6:=hpz;generalize hoth:(bif u then qR w else w)=oth;have oko:JY oth:=by rw[<-hoth];cases u with
   |true=>exact rQ hw
   |false=>exact Gs hw
  have ozl:oth.length<=6:=by rw[<-hoth];cases u with
   |true=>show(w.map _).length<=6;rw[Ag];exact hz
   |false=>exact hz
  generalize hbd:pV u w p=bd at*;generalize hco:rC u v w p=co at*;refine ih (.w (wd d p)) (.w (.bool b)) (.w (wd d oth)) (.w (.int bd)) (.w (.int co)) (λ q hq=>h q (.tail _ hq)) λ y4 y5 y6 y7 y8 ih=>gk y4 y5 y6 y7 y8 (Eg (U'1:=[x0,.w (wd d w),x2,.w (.int turn),.w (wd d p),.w (.bool b),x6,x7,x8]) rfl (Ap (U':=[x0,.w (wd d w),x2,.w (.int turn),.w (wd d p),.w (.bool b),.w (wd d oth),.w (.int bd),x8]) (Jw (v:=.tup [wd d oth,.int bd]) ?_ rfl) (Ap (Cc ?_) (Ap (B0 ?_ rfl) rfl))) ih)
  ·have c:ev (GL (j+2)) (.o2 .eq (.o2 .mod (.v 3) (.c (.int 2))) (.c (.int 0))) [x0,.w (wd d w),x2,.w (.int turn),.w (wd d p),.w (.bool b),x6,x7,x8]=Aa (.bool u):=by
    rw[<-eu];exact AO (AO rfl rfl rfl) rfl (JI _ _)
   rw[FT c];have l1:ev (GL (j+2)) (.o2 .mul (.c (.int 2)) (.o1 .len (.v 1))) [x0,.w (wd d w),x2,.w (.int turn),.w (wd d p),.w (.bool b),x6,x7,x8]=Aa (I (2*w.length)):=AO rfl (H4 rfl (KR d w)) (MK (n:=20) (by decide) (by lia) (by decide));have l4:ev (GL (j+2)) (.o1 .len (.v 4)) [x0,.w (wd d w),x2,.w (.int turn),.w (wd d p),.w (.bool b),x6,x7,x8]=Aa (I p.length):=H4 rfl (KR d p);rw[<-hoth,<-hbd]
   cases u with
   |true=>exact O4 (AC (H4 rfl (rP hd hw)) (AC (AO l1 l4 rfl) BW))
   |false=>exact O4 (AC rfl (AC (AO l1 (AO rfl l4 (MK (n:=20) (by decide) (by lia) (by decide))) rfl) BW))
  ·have c:ev (GL (j+2)) (.o2 .lt (.o2 .mod (.v 3) (.c (.int 4))) (.c (.int 2))) [x0,.w (wd d w),x2,.w (.int turn),.w (wd d p),.w (.bool b),.w (wd d oth),.w (.int bd),x8]=Aa (.bool v):=by
    rw[<-ev'];exact AO (AO rfl rfl rfl) rfl (PZ _ _)
   rw[FT c,<-hco];unfold rC;rw[hoth,hbd]
   cases v with
   |true=>exact CB (AC rfl (AC rfl (AC rfl BW))) (pM hd (Gs hp) oko hpz ozl)
   |false=>exact CB (AC rfl (AC rfl (AC rfl BW))) (pM hd oko (Gs hp) ozl hpz)
  ·have hok:(!decide (rC u v w p<pV u w p)&&(rC u v w p==pV u w p)==b)=Ab:=hok;rw[hbd,hco] at hok;refine CJ hok λ h1 h2=>?_;have h2:=eq_of_beq h2;have c8:ev (GL (j+2)) (.o1 .isBool (.v 8)) [x0,.w (wd d w),x2,.w (.int turn),.w (wd d p),.w (.bool b),.w (wd d oth),.w (.int bd),.w (.int co)]=Aa (.bool Ai):=rfl;have c1:ev (GL (j+2)) (.o2 .lt (.v 8) (.v 7)) [x0,.w (wd d w),x2,.w (.int turn),.w (wd d p),.w (.bool b),.w (wd d oth),.w (.int bd),.w (.int co)]=Aa (.bool Ai):=by
    refine AO rfl rfl ((PZ co bd).trans ?_);have:decide (co<bd)=Ai:=by simpa using h1
    rw[this]
   have c2:ev (GL (j+2)) (.o2 .isnot (.o2 .eq (.v 8) (.v 7)) (.v 5)) [x0,.w (wd d w),x2,.w (.int turn),.w (wd d p),.w (.bool b),.w (wd d oth),.w (.int bd),.w (.int co)]=Aa (.bool Ai):=by
    refine AO (AO rfl rfl (JI co bd)) rfl ?_;rw[h2]
    cases b<;>rfl
   exact(He (rL c8 c1 c2)).trans rfl
theorem xC(hd:d<24)(hw:small w)(hz:w.length<=6){W:List (List Nat)}{M:List Bool}(h:∀q∈W.zip M,small q.1/\q.1.length<=6/\NF (turn.fmod 2==0) (decide (turn.fmod 4<2)) w q=Ab):GL (j+3) 165 [wl d W,wd d w,.list (M.map .bool),.int turn] Ae=Aa (.bool Ai):=by refine vC (j:=j) (x0:=.w (wl d W)) (x2:=.w (.list (M.map .bool))) hd hw hz rfl rfl (W.zip M) .u .u .u .u .u h λ y4 y5 y6 y7 y8 hl=>?_;have it:EU (GL (j+2)) (.zip (.v 0) (.v 2)) [.w (wl d W),.w (wd d w),.w (.list (M.map .bool)),.w (.int turn),.u,.u,.u,.u,.u]=Aa ((W.zip M).map λ q=>.tup [wd d q.1,.bool q.2]):=(fP rfl rfl).trans (congrArg Aa (Wg _ _ W M));have s0:=Jv it hl;exact DM rfl rfl rfl (Ap s0 (r1 (En rfl))) rfl
end
noncomputable def oS:List (List Nat)->List (List Nat):=λ l=>l.foldr (λ x acc=>bif acc.elem x then acc else x::acc) []
def lH(s:List Nat)(q:List Nat×Bool):Bool:=NF Ab Ab s q&&NF Ab Ai s q&&NF Ai Ab s q&&NF Ai Ai s q
noncomputable def Sj(w:List Nat):Bool:=w.all (λ x=>Fz x 3)&&Ie w.length 6
def offB(g:List Int)(z:Nat)(s:List Nat):Bool:=(D9 g z).all λ p=>lH s (p,p==s)
theorem bO:(G6.all λ t=>bif Fz (Au t) 6 then(oS (Bz (Au t))).all (offB (Bk t) (Au t)) else Ab)=Ab:=by kernel_rfl
theorem Si:(G6.all λ t=>(D9 (Bk t) (Au t)).all Sj)=Ab:=by kernel_rfl
theorem OK:(R7.all λ z=>(Bz z).all Sj)=Ab:=by kernel_rfl
theorem eE:∀{l:List (List Nat)} {x:List Nat},x∈l->x∈oS l
:=@λ l=>by
 induction l with
 |nil=>exact λ h=>absurd h List.not_mem_nil
 |cons y l IH=>
  intro x h;show x∈(bif (oS l).elem y then oS l else y::oS l);rcases AL.mp h with h|h
  ·subst h
   cases q:(oS l).elem x with
   |true=>exact List.elem_iff.mp q
   |false=>exact .head _
  ·have:=IH h
   cases (oS l).elem y with
   |true=>exact this
   |false=>exact .tail _ this
theorem Nu{w:List Nat}(h:Sj w=Ab):small w/\w.length<=6:=CJ h λ h1 h2=>⟨λ x hx=>AN (Al.mp h1 x hx),AN h2⟩
theorem KG{t:Int×Int×Int}(ht:t∈G6){p:List Nat}(hp:p∈D9 (Bk t) (Au t)):small p/\p.length<=6:=Nu (Al.mp (Al.mp Si t ht) p hp)
theorem Kt{z:Nat}(hz:z∈R7){p:List Nat}(hp:p∈Bz z):small p/\p.length<=6:=Nu (Al.mp (Al.mp OK z hz) p hp)
theorem Q0{s:List Nat}{q:List Nat×Bool}(h:lH s q=Ab)(u v:Bool):NF u v s q=Ab:=by
 refine CJ h λ h h1=>CJ h λ h h2=>CJ h λ h4 h3=>?_
 cases u<;>cases v<;>assumption
def FB(X:Lw)(g:List Int)(z:Nat)(m:LV)(ys:List LV):AQ:=fr (X.x0::X.x1::X.x2::.w X.cells::X.x4::X.x5::.w (il g)::L z::X.x8::X.x9::X.x10::X.x11::.w (bn DW)::.w (bn Nw)::.w (Le z)::L 5::.w (KN z)::m::ys)
noncomputable def Zy(P:Nat->Bool):Nat->Nat->Nat
 |lo,0=>lo
 |lo,n+1=>bif P lo then Zy P (lo+1) n else lo
noncomputable def T1(P:Nat->Bool):Nat->Nat->Bool
 |_,0=>Ab
 |lo,n+1=>!P lo&&T1 P (lo+1) n
noncomputable def mono(P:Nat->Bool):Nat->Nat->Bool
 |_,0=>Ab
 |lo,n+1=>bif P lo then mono P (lo+1) n else T1 P (lo+1) n
structure Bd(P:Nat->Bool)(lo hi p:Nat):Prop where
 lp:lo<=p
 ph:p<=hi
 t:∀i,lo<=i->i<p->P i=Ab
 f:∀i,p<=i->i<hi->P i=Ai
theorem Xh{P:Nat->Bool}:∀{n lo:Nat},T1 P lo n=Ab->∀i,lo<=i->i<lo+n->P i=Ai:=@λ I0=>by
 induction I0 with
 |zero=>exact@λ lo _ i h1 h2=>absurd h2 (Nat.not_lt.mpr h1)
 |succ n IH=>
  intro lo h i h1 h2;refine CJ h λ h3 h4=>?_
  by_cases e:i=lo
  ·rw[e];simpa using h3
  ·exact IH h4 i (by omega) (by omega)
theorem Oh{P:Nat->Bool}:∀{n lo:Nat},mono P lo n=Ab->Bd P lo (lo+n) (Zy P lo n):=@λ I0=>by
 induction I0 with
 |zero=>exact@λ lo _=>⟨A1 _,A1 _,λ i h1 h2=>absurd h2 (by show¬i<lo;exact Nat.not_lt.mpr h1),λ i h1 h2=>absurd h2 (by have h1:lo<=i:=h1;omega)⟩
 |succ n IH=>
  intro lo h;have h:(bif P lo then mono P (lo+1) n else T1 P (lo+1) n)=Ab:=h;show Bd P lo (lo+(n+1)) (bif P lo then Zy P (lo+1) n else lo)
  cases q:P lo with
  |true=>
   rw[q] at h;have b:=IH h;rw[cond_true];refine⟨by have:=b.lp;exact Je this,by have:=b.ph;omega,λ i h1 h2=>?_,λ i h1 h2=>b.f i h1 (by omega)⟩
   by_cases e:i=lo
   ·rw[e];exact q
   ·exact b.t i (by omega) h2
  |false=>
   rw[q] at h;rw[cond_false];refine⟨A1 _,Cr lo (n+1),λ i h1 h2=>absurd h2 (Nat.not_lt.mpr h1),λ i h1 h2=>?_⟩
   by_cases e:i=lo
   ·rw[e];exact q
   ·exact Xh h i (by omega) (by omega)
section
variable{z:Nat}{l:List Nat}{w:Int}
theorem xB(n k:Nat):GL (j+1) 184 [.list [I n,I k]] Ae=Aa (I k):=
 DM rfl rfl rfl (r1 (En (AO rfl rfl (by kernel_rfl)))) rfl
noncomputable def lfW(ws:List Nat)(w:Int)(i:Nat):Bool:=decide ((ws.getD i 0:Int)<w)
noncomputable def yB(ws:List Nat)(w:Int)(i:Nat):Bool:=!decide (w<(ws.getD i 0:Int))
def Uv(b:Bool)(ws:List Nat)(w:Int):Nat->Bool:=bif b then lfW ws w else yB ws w
def VN(z:Nat)(b:Bool)(l:List Nat)(w:Int):Nat->Bool:=Uv b (l.map (OF z)) w
def HD(z:Nat)(l:List Nat):V:=.list (l.map (Bs z))
abbrev Gc(z:Nat)(l:List Nat)(w:Int)(x2 x3 x5:LV):AQ:=[.w (HD z l),.w (.int w),x2,x3,.w (.fn 184),x5]
noncomputable abbrev YH:Ex:=.callv 4 (.cons (.o2 .i (.v 0) (.v 5)) .nil)
abbrev bL:E5:=.cons (.asg 5 (.o2 .fdiv (.o2 .a (.v 2) (.v 3)) (.c (.int 2)))) (.cons (.f (.o2 .lt YH (.v 1)) (.cons (.asg 2 (.o2 .a (.v 5) (.c (.int 1)))) .nil) (.cons (.asg 3 (.v 5)) .nil)) .nil)
abbrev bR:E5:=.cons (.asg 5 (.o2 .fdiv (.o2 .a (.v 2) (.v 3)) (.c (.int 2)))) (.cons (.f (.o2 .lt (.v 1) YH) (.cons (.asg 3 (.v 5)) .nil) (.cons (.asg 2 (.o2 .a (.v 5) (.c (.int 1)))) .nil)) .nil)
theorem wG{x2 x3:LV}{m:Nat}(hm:m<l.length)(hz:l.length<=1000):ev (GL (j+1)) YH (Gc z l w x2 x3 (L m))=Aa (I ((l.map (OF z)).getD m 0)):=by
 have ew:(l.map (OF z)).getD m 0=OF z (l.getD m 0):=by rw[AK,Ba,AK,Ar hm];rfl
 rw[ew];have h:IS (GL (j+1)) (.cons (.o2 .i (.v 0) (.v 5)) .nil) (Gc z l w x2 x3 (L m))=Aa [Bs z (l.getD m 0)]:=by refine AC (AO rfl rfl (KB ?_ (by rw[Ag];lia))) BW;rw[Ba,AK,Ar hm];rfl
 show((Bv (LV.w (V.fn 184))).bind fB).bind (λ f=>(IS (GL (j+1)) (.cons (.o2 .i (.v 0) (.v 5)) .nil) (Gc z l w x2 x3 (L m))).bind λ vs=>GL (j+1) f vs Ae)=_;refine h.symm▸?_;exact xB (j:=j) (l.getD m 0) _
theorem fA(b:Bool){p:Nat}(hl:l.length<=1000):∀(n lo hi:Nat) (x5:LV),hi - lo<n->lo<=hi->hi<=l.length->Bd (VN z b l w) lo hi p->∃y5,
  G2 n (Gr (GL (j+1)) (.o2 .lt (.v 2) (.v 3))) (Bw (GL (j+1)) 64 (bif b then bL else bR)) (Gc z l w (L lo) (L hi) x5)=Aa (.next,(Gc z l w (L p) (L p) y5)):=λ I0=>by
 induction I0 with
 |zero=>exact λ _ _ _ h _ _ _=>absurd h (HP _)
 |succ n IH=>
  intro lo hi x5 hn hlh hhl D;have t:Gr (GL (j+1)) (.o2 .lt (.v 2) (.v 3)) (Gc z l w (L lo) (L hi) x5)=Aa (decide ((lo:Int)<hi)):=(He (AO rfl rfl (PZ _ _))).trans rfl
  by_cases e:lo=hi
  ·subst e;have:=D.lp;have:=D.ph;have e:p=lo:=by lia
   subst e;exact⟨x5,Mz (t.trans (by rw[decide_eq_false (Int.lt_irrefl ↑p)]))⟩
  ·have hm1:lo<=(lo+hi)/2:=by omega
   have hm2:(lo+hi)/2<hi:=by lia
   have s5:CD (GL (j+1)) 64 (.asg 5 (.o2 .fdiv (.o2 .a (.v 2) (.v 3)) (.c (.int 2)))) (Gc z l w (L lo) (L hi) x5)=Aa (.next,(Gc z l w (L lo) (L hi) (L ((lo+hi)/2)))):=
    Cc (AO (AO rfl rfl rfl) rfl (Yv (by decide) (Bc (by lia:lo+hi<=2000) (AY (by decide:2000<2^20) (Bu (by decide) (by decide))))))
   generalize (lo+hi)/2=m at*;have ek:=wG (j:=j) (z:=z) (w:=w) (x2:=L lo) (x3:=L hi) (m:=m) (AY hm2 hhl) hl;have up:VN z b l w m=Ab->∃y5,G2 n (Gr (GL (j+1)) (.o2 .lt (.v 2) (.v 3))) (Bw (GL (j+1)) 64 (bif b then bL else bR)) (Gc z l w (L (m+1)) (L hi) (L m))=Aa (.next,(Gc z l w (L p) (L p) y5)):=λ q=>by
    have hp:=Nat.lt_of_not_le λ hc=>by rw[D.f m hc hm2] at q;cases q
    exact IH (m+1) hi (L m) (by omega) (Nat.succ_le_of_lt hm2) hhl ⟨hp,D.ph,λ i h1 h2=>D.t i (by lia) h2,λ i h1 h2=>D.f i h1 h2⟩
   have dn:VN z b l w m=Ai->∃y5,G2 n (Gr (GL (j+1)) (.o2 .lt (.v 2) (.v 3))) (Bw (GL (j+1)) 64 (bif b then bL else bR)) (Gc z l w (L lo) (L m) (L m))=Aa (.next,(Gc z l w (L p) (L p) y5)):=λ q=>by
    have hp:=Ha λ hc=>by rw[D.t m hm1 hc] at q;cases q
    exact IH lo m (L m) (by lia) (String.Pos.Raw.mk_le_mk.mp hm1) (by lia) ⟨D.lp,hp,λ i h1 h2=>D.t i h1 h2,λ i h1 h2=>D.f i h1 (Gz h2 hm2)⟩
   have tt:=t.trans (by rw[decide_eq_true (by lia)])
   cases b with
   |true=>
    have tk:Gr (GL (j+1)) (.o2 .lt YH (.v 1)) (Gc z l w (L lo) (L hi) (L m))=Aa (lfW (l.map (OF z)) w m):=(He (AO ek rfl (PZ _ _))).trans rfl
    cases q:lfW (l.map (OF z)) w m with
    |true=>obtain⟨y5,h⟩:=up q;exact⟨y5,KH tt (Ap s5 (Ap (DC (tk.trans (by rw[q])) (Ap (Cc (AO rfl rfl rfl)) rfl)) rfl)) h⟩
    |false=>obtain⟨y5,h⟩:=dn q;exact⟨y5,KH tt (Ap s5 (Ap (B0 (tk.trans (by rw[q])) (Ap (Cc rfl) rfl)) rfl)) h⟩
   |false=>
    have tk:Gr (GL (j+1)) (.o2 .lt (.v 1) YH) (Gc z l w (L lo) (L hi) (L m))=Aa (!yB (l.map (OF z)) w m):=(He (AO rfl ek (PZ _ _))).trans (by unfold yB;rw[Bool.not_not];rfl)
    cases q:yB (l.map (OF z)) w m with
    |true=>obtain⟨y5,h⟩:=up q;exact⟨y5,KH tt (Ap s5 (Ap (B0 (tk.trans (by rw[q];rfl)) (Ap (Cc (AO rfl rfl rfl)) rfl)) rfl)) h⟩
    |false=>obtain⟨y5,h⟩:=dn q;exact⟨y5,KH tt (Ap s5 (Ap (DC (tk.trans (by rw[q];rfl)) (Ap (Cc rfl) rfl)) rfl)) h⟩
theorem RG(b:Bool){vs:List V}{lo hi p:Nat}{hv:V}(hf:HW (bif b then 120 else 102) vs (Aa 184)=Aa [HD z l,.int w,I lo,hv,.fn 184])(hh:(hv=.none/\hi=l.length)\/hv=I hi)(hl:l.length<=60)(h1:lo<=hi)(h2:hi<=l.length)(D:Bd (VN z b l w) lo hi p):GL (j+2) (bif b then 120 else 102) vs (Aa 184)=Aa (I p):=by
 obtain⟨y5,h⟩:=fA (j:=j) b (by lia) 64 lo hi .u (by lia) h1 h2 D;have e0:∀x3:LV,Gr (GL (j+1)) (.o2 .lt (.v 2) (.c (.int 0))) (Gc z l w (L lo) x3 .u)=Aa Ai:=λ x3=>Nn rfl (decide_eq_false (Int.not_ofNat_neg lo))
 cases b with
 |true=>
  have s0:CD (GL (j+1)) 64 (C1 0 Fg) (Gc z l w (L lo) (.w hv) .u)=Aa (.next,(Gc z l w (L lo) (.w hv) .u)):=B0 (e0 _) rfl;have s1:CD (GL (j+1)) 64 (C1 1 Fg) (Gc z l w (L lo) (.w hv) .u)=Aa (.next,(Gc z l w (L lo) (L hi) .u)):=by
   rcases hh with⟨h,h'⟩|h
   ·subst h;refine DC rfl (Ap (Cc (H4 rfl ?_)) rfl);show Aa (V.int (l.map (Bs z)).length)=_;rw[Ag,h']
   ·subst h;exact B0 rfl rfl
  have s2:CD (GL (j+1)) 64 (C1 2 Fg) (Gc z l w (L lo) (L hi) .u)=Aa (.next,(Gc z l w (L p) (L p) y5)):=B0 (He (v:=.bool Ai) rfl) (Ap h rfl);exact DM rfl hf rfl (Ap s0 (Ap s1 (Ap s2 (r1 (En rfl))))) rfl
 |false=>
  have s0:CD (GL (j+1)) 64 (C1 0 EN) (Gc z l w (L lo) (.w hv) .u)=Aa (.next,(Gc z l w (L lo) (.w hv) .u)):=B0 (e0 _) rfl;have s1:CD (GL (j+1)) 64 (C1 1 EN) (Gc z l w (L lo) (.w hv) .u)=Aa (.next,(Gc z l w (L lo) (L hi) .u)):=by
   rcases hh with⟨h,h'⟩|h
   ·subst h;refine DC rfl (Ap (Cc (H4 rfl ?_)) rfl);show Aa (V.int (l.map (Bs z)).length)=_;rw[Ag,h']
   ·subst h;exact B0 rfl rfl
  have s2:CD (GL (j+1)) 64 (C1 2 EN) (Gc z l w (L lo) (L hi) .u)=Aa (.next,(Gc z l w (L p) (L p) y5)):=B0 (He (v:=.bool Ai) rfl) (Ap h rfl);exact DM rfl hf rfl (Ap s0 (Ap s1 (Ap s2 (r1 (En rfl))))) rfl
end
def QR(z:Nat)(b:Bool)(l:List Nat)(x:Nat):Option (List Nat):=bif mono (VN z b l (OF z x)) 0 l.length then Aa (l.take (Zy (VN z b l (OF z x)) 0 l.length)++x::l.drop (Zy (VN z b l (OF z x)) 0 l.length)) else Ae
noncomputable def yJ{Z:Type}(n:Nat)(k:Nat->Z):Z:=@Nat.rec (λ z=>Z) (k 0) (λ m z=>k (Nat.succ m)) n
theorem Yq{Z:Type}(n:Nat)(k:Nat->Z):yJ n k=k n:=by cases n<;>rfl
def nrm{Z:Type}(l:List Nat):(List Nat->Z)->Z:=@QC Nat (λ z=>(List Nat->Z)->Z) (λ k=>k []) (λ y z ih k=>ih λ r=>k (y::r)) l
theorem lM{Z:Type}:∀(l:List Nat) (k:List Nat->Z),nrm l k=k l:=λ I0=>by
 induction I0 with
 |nil=>exact λ _=>rfl
 |cons y l IH=>exact λ k=>IH λ r=>k (y::r)
noncomputable def aH(z:Nat)(b:Bool):List Nat->List Nat->Option (List Nat)
 |[],l=>Aa l
 |x::xs,l=>yJ x λ x=>(QR z b l x).bind λ l=>nrm l (aH z b xs)
theorem WQ(z:Nat)(b:Bool)(x:Nat)(xs l:List Nat):aH z b (x::xs) l=(QR z b l x).bind (aH z b xs):=by show yJ x (λ x=>(QR z b l x).bind λ l=>nrm l (aH z b xs))=_;rw[Yq];exact congrArg (Option.bind _) (funext λ l=>lM l _)
theorem mS{j z x:Nat}{b:Bool}{l l':List Nat}(h:QR z b l x=Aa l')(hl:l.length<=60):IP (GL (j+2)) (bif b then 111 else 93) (Aa 184) (l.map (Bs z)) (Bs z x)=Aa (l'.map (Bs z))/\l'.length=l.length+1:=by
 unfold QR at h
 cases q:mono (VN z b l (OF z x)) 0 l.length with
 |false=>rw[q] at h;exact nn h
 |true=>
  rw[q] at h;have D:=Oh q;rw[CW] at D;have c:=RG (j:=j) b (vs:=[.list (l.map (Bs z)),I (OF z x),.int 0,.none]) (by cases b<;>rfl) (.inl ⟨rfl,rfl⟩) hl (Bj _) (A1 _) D
  have hp:=D.ph;generalize Zy (VN z b l (OF z x)) 0 l.length=p at*;obtain rfl:=sj h;constructor
  ·show((GL (j+2) 184 [Bs z x] Ae).bind λ kx=>((Ca ((bif b then 111 else 93)==111) (GL (j+2) 120 [.list (l.map (Bs z)),kx,.int 0,.none] (Aa 184)) (Ca ((bif b then 111 else 93)==93) (GL (j+2) 102 [.list (l.map (Bs z)),kx,.int 0,.none] (Aa 184)) Ae)).bind Bb).bind λ p=>if 0<=p/\p.toNat<=(l.map (Bs z)).length/\(l.map (Bs z)).length<CN then Aa (JC (l.map (Bs z)) p.toNat (Bs z x)) else Ae)=_;rw[show GL (j+2) 184 [Bs z x] Ae=Aa (I (OF z x)) from xB x _];have e:Ca ((bif b then 111 else 93)==111) (GL (j+2) 120 [.list (l.map (Bs z)),I (OF z x),.int 0,.none] (Aa 184)) (Ca ((bif b then 111 else 93)==93) (GL (j+2) 102 [.list (l.map (Bs z)),I (OF z x),.int 0,.none] (Aa 184)) Ae)=Aa (I p):=by
    cases b<;>exact c
   refine Nd rfl (Nd (Nd e rfl) ?_);rw[if_pos ⟨AZ p,by rw[Cd,Ag];exact hp,by rw[Ag];exact Bc hl (by decide)⟩,Cd];unfold JC;rw[<-R1,<-R0,C5];rfl
  ·rw[AB,Bl,Dv,BS];lia
theorem tG{G:EZ}{F f i:Nat}{U:AQ}{e:Ex}{key:Option Nat}{xs ys:List V}{v:V}(h:rd U i=.x xs)(he:ev G e U=Aa v)(k:IP G f key xs v=Aa ys):CD G F (.n f i e key) U=Aa (.next,wr U i (.x ys)):=by show((EE (rd U i)).bind λ xs=>(ev G e U).bind λ v=>(IP G f key xs v).map λ ys=>(Fl.next,wr U i (.x ys)))=_;rw[h];rw[he];show((IP G f key xs v).map λ ys=>(Fl.next,wr U i (.x ys)))=_;rw[k];rfl
theorem QE{Z O:Type}(f:Z->O):∀l:List Z,l.zip (l.map f)=l.map λ x=>(x,f x):=λ I0=>by
 induction I0 with
 |nil=>exact rfl
 |cons x l IH=>exact congrArg ((x,f x)::·) (IH)
noncomputable abbrev yP:Ex:=.o2 .i (.v 24) (.v 17)
noncomputable abbrev eC5:Ex:=.o2 .eq (.o2 .mod (.o2 .a (.v 17) (.o2 .i (.v 3) (.c (.int 2)))) (.c (.int 5))) (.c (.int 0))
abbrev oF:Ex:=.call 165 (.cons (.v 23) (.cons yP (.cons (.comp [57] (.one 57) (.ex (.v 23)) .nil (.o2 .eq (.v 57) yP)) (.cons (.o2 .a (.v 17) (.o2 .i (.v 3) (.c (.int 2)))) .nil)))) Ae
abbrev eA:Ex:=.bool Ab (.cons eC5 (.cons (.o2 .lt (.v 7) (.c (.int 6))) (.cons oF .nil)))
section
variable{X:Lw}{z:Nat}{g:List Int}{a b c e f o i:LV}
abbrev FO(X:Lw)(g:List Int)(z:Nat)(m a b c e f:LV)(d:Nat)(o i:LV):AQ:=FB X g z m [a,b,c,e,f,.w (wl d (D9 g z)),.w (wl d (Bz z)),o,i]
theorem Sf{n:Nat}(hn:n<De z):∃s,s∈Bz z/\(Bz z)[n]?=Aa s:=by
 have hl:n<(Bz z).length:=by unfold Bz;rw[Ag];exact hn
 exact⟨_,Jq hl,Ar hl⟩
theorem XU{d n:Nat}{l:List (List Nat)}{s:List Nat}(h:l[n]?=Aa s)(hz:l.length<=1000):Cj .i (wl d l) (I n)=Aa (wd d s):=KB (by rw[Ba,h];rfl) (by rw[Ag];lia)
theorem rU{t:Int×Int×Int}(ht:t∈G6)(hg:g=Bk t)(hz:z=Au t)(hd:d<24){n:Nat}(hn:n<De z):Gr (GL 12) eA (FO X g z (L n) a b c e f d o i)=Aa Ai:=by
 have z7:=hz▸Em t ht;have hl:=FK z z7;have hsl:(Bz z).length<=20:=by unfold Bz;rw[Ag];exact hl
 obtain⟨s,hs,es⟩:=Sf hn;obtain⟨ss,sz⟩:=Kt z7 hs;have c5:ev (GL 12) eC5 (FO X g z (L n) a b c e f d o i)=Aa (.bool (((n:Int)+X.c2).fmod 5==0)):=AO (AO (AO rfl (gQ X rfl) (Oo _ _)) rfl rfl) rfl (JI _ _)
 cases q:((n:Int)+X.c2).fmod 5==0 with
 |false=>rw[q] at c5;exact(He (PD c5 rfl)).trans rfl
 |true=>
  rw[q] at c5;have c6:ev (GL 12) (.o2 .lt (.v 7) (.c (.int 6))) (FO X g z (L n) a b c e f d o i)=Aa (.bool (decide ((z:Int)<6))):=AO rfl rfl (PZ _ _)
  by_cases q6:z<6
  ·rw[decide_eq_true (Int.lt_toNat.mp q6)] at c6;have ix:∀U:AQ,rd U 24=.w (wl d (Bz z))->rd U 17=L n->ev (GL 12) yP U=Aa (wd d s):=λ U h24 h17=>AO (congrArg Bv h24) (congrArg Bv h17) (XU es (by lia));have wz:∀p∈D9 g z,small p/\p.length<=6:=λ p hp=>KG ht (hg▸hz▸hp);have wlen:(D9 g z).length<=1000:=by
    have:(G6.all λ t=>Ie (D9 (Bk t) (Au t)).length 1000)=Ab:=by decide+kernel
    rw[hg,hz];exact AN (Al.mp this t ht)
   have cm:ev (GL 12) (.comp [57] (.one 57) (.ex (.v 23)) .nil (.o2 .eq (.v 57) yP)) (FO X g z (L n) a b c e f d o i)=Aa (.list (((D9 g z).map λ p=>p==s).map .bool)):=by refine DK (QH (v:=wl d (D9 g z)) rfl rfl) rfl ?_ (by rw[Ag,Ag];exact Ak wlen (by decide));rw[BF];exact DV λ p hp=>DD (AO rfl (ix _ rfl rfl) (Ps hd (Gs (wz p hp).1) (Gs ss)))
   have off:=Al.mp bO t ht;rw[<-hz,<-hg,show Fz z 6=Ab from G7 q6] at off;have off:=Al.mp (Al.mp off s (eE hs));have co:=xC (j:=9) (turn:=(n:Int)+X.c2) hd ss sz λ r hr=>by rw[QE] at hr;obtain⟨p,hp,rfl⟩:=List.mem_map.mp hr;exact⟨(wz p hp).1,(wz p hp).2,Q0 (off p hp) _ _⟩
   have ce:ev (GL 12) oF (FO X g z (L n) a b c e f d o i)=Aa (.bool Ai):=CB (AC rfl (AC (ix _ rfl rfl) (AC cm (AC (AO rfl (gQ X rfl) (Oo _ _)) BW)))) co;exact(He ((LD c5 rfl).trans ((LD c6 rfl).trans (show ev (GL 12) (.bool Ab (.cons oF .nil)) (FO X g z (L n) a b c e f d o i)=_ from ce)))).trans rfl
  ·rw[decide_eq_false (by lia)] at c6;exact(He ((LD c5 rfl).trans (PD c6 rfl))).trans rfl
noncomputable abbrev yN:Ex:=.o2 .eq (.o2 .mod (.o2 .i (.v 3) (.c (.int 3))) (.c (.int 2))) (.c (.int 0))
theorem ix3{G:EZ}{U:AQ}(X:Lw)(h:rd U 3=.w X.cells):ev G (.o2 .i (.v 3) (.c (.int 3))) U=Aa (.int X.c3):=AO (congrArg Bv h) rfl rfl
theorem tp3{G:EZ}{U:AQ}(X:Lw)(h:rd U 3=.w X.cells):ev G yN U=Aa (.bool (X.c3.fmod 2==0)):=AO (AO (ix3 X h) rfl rfl) rfl (JI _ _)
abbrev b22:E5:=.cons (.f eA (.cons (.ret (.c (.bool Ai))) .nil) .nil) (.cons (.f yN (.cons (.n 111 25 (.o2 .i (.v 26) (.v 17)) (Aa 184)) .nil) (.cons (.n 93 25 (.o2 .i (.v 26) (.v 17)) (Aa 184)) .nil)) .nil)
theorem in22{t:Int×Int×Int}(ht:t∈G6)(hg:g=Bk t)(hz:z=Au t)(hd:d<24){os:List Nat}(ho:os.length<=20)(hoz:os.length<=De z):∀(xs p l l':List Nat) (m:LV),os=p++xs->l.length=p.length->aH z (X.c3.fmod 2==0) xs l=Aa l'->∃m',B7 (.one 17) (Bw (GL 12) 64 b22) ((BZ p.length xs.length).map I) (FO X g z m a b c e f d (.x (l.map (Bs z))) (.w (.list (os.map (Bs z)))))=Aa (.next,FO X g z m' a b c e f d (.x (l'.map (Bs z))) (.w (.list (os.map (Bs z))))):=λ I0=>by
 induction I0 with
 |nil=>exact λ p l l' m _ _ h=>⟨m,by obtain rfl:=sj h;rfl⟩
 |cons x xs IH=>
  intro p l l' m eo hl h;rw[WQ] at h;obtain⟨l1,h1,h2⟩:=Hi h;have hp:p.length<os.length:=by rw[eo,AB];show _<_+(xs.length+1);lia
  have ex:(os.map (Bs z))[p.length]?=Aa (Bs z x):=by rw[Ba,eo,BY (A1 _),Fy];rfl
  obtain⟨hi,hl1⟩:=mS h1 (by lia);obtain⟨m',ih⟩:=IH (p++[x]) l1 l' (L p.length) (by rw[eo,A0];rfl) (by rw[AB,hl1,hl];rfl) h2;rw[AB] at ih;refine⟨m',?_⟩;rw[Bl,Fm];have ta:=rU (X:=X) (a:=a) (b:=b) (c:=c) (e:=e) (f:=f) (o:=.x (l.map (Bs z))) (i:=.w (.list (os.map (Bs z)))) ht hg hz hd (n:=p.length) (AY hp hoz);have sb:CD (GL 12) 64 (.f yN (.cons (.n 111 25 (.o2 .i (.v 26) (.v 17)) (Aa 184)) .nil) (.cons (.n 93 25 (.o2 .i (.v 26) (.v 17)) (Aa 184)) .nil)) (FO X g z (L p.length) a b c e f d (.x (l.map (Bs z))) (.w (.list (os.map (Bs z)))))=Aa (.next,FO X g z (L p.length) a b c e f d (.x (l1.map (Bs z))) (.w (.list (os.map (Bs z))))):=by
   have ei:ev (GL 12) (.o2 .i (.v 26) (.v 17)) (FO X g z (L p.length) a b c e f d (.x (l.map (Bs z))) (.w (.list (os.map (Bs z)))))=Aa (Bs z x):=AO rfl rfl (KB ex (by rw[Ag];lia));have ins:∀k:Nat,IP (GL 12) k (Aa 184) (l.map (Bs z)) (Bs z x)=Aa (l1.map (Bs z))->CD (GL 12) 64 (.n k 25 (.o2 .i (.v 26) (.v 17)) (Aa 184)) (FO X g z (L p.length) a b c e f d (.x (l.map (Bs z))) (.w (.list (os.map (Bs z)))))=Aa (.next,FO X g z (L p.length) a b c e f d (.x (l1.map (Bs z))) (.w (.list (os.map (Bs z))))):=λ k hk=>by have e25:rd (FO X g z (L p.length) a b c e f d (.x (l.map (Bs z))) (.w (.list (os.map (Bs z))))) 25=.x (l.map (Bs z)):=rfl;exact tG e25 ei hk
   have tp:=(He (tp3 (G:=GL 12) (U:=FO X g z (L p.length) a b c e f d (.x (l.map (Bs z))) (.w (.list (os.map (Bs z))))) X rfl)).trans rfl
   cases q:X.c3.fmod 2==0 with
   |true=>rw[q] at tp hi;exact DC tp (Ap (ins 111 hi) rfl)
   |false=>rw[q] at tp hi;exact B0 tp (Ap (ins 93 hi) rfl)
  exact Eg rfl (Ap (B0 ta rfl) (Ap sb rfl)) ih
end
def Ho(z r:Nat)(b:Bool):List Nat:=(aH z b (Kg z r) []).getD []
def ZRB:List (Nat×Nat×Bool):=R7.flatMap λ z=>(Bp (De z)).flatMap λ r=>[(z,r,Ab),(z,r,Ai)]
theorem bZ{z r:Nat}{b:Bool}(hz:z∈R7)(hr:r<De z):(z,r,b)∈ZRB:=List.mem_flatMap.mpr ⟨z,hz,List.mem_flatMap.mpr ⟨r,List.mem_range.mpr hr,by cases b<;>simp⟩⟩
def sG(q:Nat×Nat×Bool):Bool:=(aH q.1 q.2.2 (Kg q.1 q.2.1) []).isSome&&(AG (Ho q.1 q.2.1 q.2.2).length (De q.1)&&((Ho q.1 q.2.1 q.2.2).all (λ n=>Fz n (De q.1))&&(Bp (De q.1)).all λ n=>(Ho q.1 q.2.1 q.2.2).elem n))
theorem jV:ZRB.all sG=Ab:=by kernel_rfl
def Eh(z r:Nat):V:=HD z (Kg z r)
noncomputable def ZB(z lo n:Nat):List (Nat×Nat×Bool):=(BZ lo n).flatMap λ r=>[(z,r,Ab),(z,r,Ai)]
def Lh(q:Nat×Nat×Bool)(X:Lw)(g:List Int)(a b c e f h i m:LV):Option Bool:=Gr (GL 12) (.o2 .ne (.v 25) (.sort 184 (bif q.2.2 then .sl (.v 26) .a .a (.o1 .neg (.c (.int 1))) else .v 26))) (FB X g q.1 m [a,b,c,e,f,h,i,.w (HD q.1 (Ho q.1 q.2.1 q.2.2)),.w (Eh q.1 q.2.1)])
noncomputable def Lg(_:Nat×Nat×Bool)(_:Lw)(_:List Int)(_ _ _ _ _ _ _ _:LV):Option Bool:=Aa Ai
theorem so0:mA Lh (ZB 0 0 1)=mB Lg (ZB 0 0 1):=by kernel_rfl
theorem so1:mA Lh (ZB 1 0 6)=mB Lg (ZB 1 0 6):=by kernel_rfl
theorem so2:mA Lh (ZB 2 0 8)=mB Lg (ZB 2 0 8):=by kernel_rfl
theorem so3:mA Lh (ZB 2 8 7)=mB Lg (ZB 2 8 7):=by kernel_rfl
theorem so4:mA Lh (ZB 3 0 7)=mB Lg (ZB 3 0 7):=by kernel_rfl
theorem so5:mA Lh (ZB 3 7 7)=mB Lg (ZB 3 7 7):=by kernel_rfl
theorem so6:mA Lh (ZB 3 14 6)=mB Lg (ZB 3 14 6):=by kernel_rfl
theorem so7:mA Lh (ZB 4 0 8)=mB Lg (ZB 4 0 8):=by kernel_rfl
theorem so8:mA Lh (ZB 4 8 7)=mB Lg (ZB 4 8 7):=by kernel_rfl
theorem so9:mA Lh (ZB 5 0 6)=mB Lg (ZB 5 0 6):=by kernel_rfl
theorem zC:mA Lh (ZB 6 0 1)=mB Lg (ZB 6 0 1):=by kernel_rfl
theorem FM{z lo n r:Nat}{b:Bool}(h:mA Lh (ZB z lo n)=mB Lg (ZB z lo n))(h1:lo<=r)(h2:r<lo+n):Lh (z,r,b)=Lg (z,r,b):=
 Zw h (z,r,b) (List.mem_flatMap.mpr ⟨r,List.mem_range'_1.mpr ⟨h1,h2⟩,by cases b<;>simp⟩)
theorem Va:R7.map De=[1,6,15,20,15,6,1]:=by decide+kernel
theorem WN{b:Bool}:∀z∈R7,∀r,r<De z->Lh (z,r,b)=Lg (z,r,b):=by
 have hl:=Va;simp only [D3,UH,List.cons.injEq,and_true] at hl;obtain⟨l0,l1,l2,l3,l4,l5,l6⟩:=hl;refine OP (λ r h=>FM so0 (by omega) (by omega)) (λ r h=>FM so1 (by omega) (by omega)) (λ r h=>?_) (λ r h=>?_) (λ r h=>?_) (λ r h=>FM so9 (by omega) (by omega)) (λ r h=>FM zC (by omega) (by omega))
 ·by_cases q:r<8
  ·exact FM so2 (by omega) (by omega)
  ·exact FM so3 (by omega) (by omega)
 ·by_cases q:r<7
  ·exact FM so4 (by omega) (by omega)
  ·by_cases q':r<14
   ·exact FM so5 (by omega) (by omega)
   ·exact FM so6 (by omega) (by omega)
 ·by_cases q:r<8
  ·exact FM so7 (by omega) (by omega)
  ·exact FM so8 (by omega) (by omega)
structure Sh(z:Nat)(l:List Nat):Prop where
 len:l.length=De z
 lt:∀n∈l,n<De z
 all:∀n,n<De z->n∈l
theorem fY{z r:Nat}(b:Bool)(hz:z∈R7)(hr:r<De z):aH z b (Kg z r) []=Aa (Ho z r b)/\Sh z (Ho z r b):=by have h0:sG (z,r,b)=Ab:=Al.mp jV _ (bZ hz hr);refine CJ h0 λ h1 h=>CJ h λ h2 h=>CJ h λ h3 h4=>?_;refine⟨?_,Av h2,λ n hn=>AN (Al.mp h3 n hn),λ n hn=>List.elem_iff.mp (Al.mp h4 n (List.mem_range.mpr hn))⟩;obtain⟨l,hl⟩:=Option.isSome_iff_exists.mp h1;have hl:aH z b (Kg z r) []=Aa l:=hl;unfold Ho;rw[hl];rfl
def rZ(X:Lw)(z:Nat):Nat:=(X.c2.fmod (De z)).toNat
theorem TR{X:Lw}{z:Nat}(hz:z∈R7):rZ X z<De z:=by
 have h:=P0 z hz;have h1:=BN X.c2 (b:=De z) (by omega);have h2:=Cn X.c2 (b:=De z) (by omega);unfold rZ
 omega
def M3(X:Lw)(z:Nat):List Nat:=Ho z (rZ X z) (X.c3.fmod 2==0)
section
variable{X:Lw}{z:Nat}{g:List Int}{a b c e f:LV}
theorem aB{t:Int×Int×Int}(ht:t∈G6)(hg:g=Bk t)(hz:z=Au t)(hd:d<24):∃m,Bw (GL 12) 64 (Jp 2 (Gn 22 A4)) (FO X g z .u a b c e f d (.x []) (.w (Eh z (rZ X z))))=Aa (.next,FO X g z m a b c e f d (.w (HD z (M3 X z))) (.w (Eh z (rZ X z)))):=by
 have z7:=hz▸Em t ht;have lo:(Kg z (rZ X z)).length=De z:=by unfold Kg;rw[Ag,C3]
 have hl:De z<=20:=FK z z7;obtain⟨m,h⟩:=in22 ht hg hz hd (os:=Kg z (rZ X z)) (by lia) (by lia) (Kg z (rZ X z)) [] [] (M3 X z) .u rfl rfl (fY _ z7 (TR z7)).1;have it:EU (GL 12) (.r (.o1 .len (.v 14))) (FO X g z .u a b c e f d (.x []) (.w (Eh z (rZ X z))))=Aa ((BZ 0 (Kg z (rZ X z)).length).map I):=by
  refine JU (n:=(De z:Nat)) (H4 (x:=Le z) rfl ?_) ?_
  ·show Aa (V.int ((EV z).map bn).length)=_;rw[Ag];rfl
  ·rw[TM z z7,List.range_eq_range',lo]
 have s22:=Jv it h;exact⟨m,Ap s22 (Ap rfl rfl)⟩
theorem aA(hz:z∈R7){m:LV}:Gr (GL 12) N0 (FO X g z m a b c e f d (.w (HD z (M3 X z))) (.w (Eh z (rZ X z))))=Aa Ai:=by
 have h:=congrFun (congrFun (congrFun (congrFun (congrFun (congrFun (congrFun (congrFun (congrFun (congrFun (WN (b:=X.c3.fmod 2==0) z hz (rZ X z) (TR hz)) X) g) a) b) c) e) f) (.w (wl d (D9 g z)))) (.w (wl d (Bz z)))) m;have e:ev (GL 12) (.f yN (.sl (.v 26) .a .a (.o1 .neg (.c (.int 1)))) (.v 26)) (FO X g z m a b c e f d (.w (HD z (M3 X z))) (.w (Eh z (rZ X z))))=ev (GL 12) (bif X.c3.fmod 2==0 then .sl (.v 26) .a .a (.o1 .neg (.c (.int 1))) else .v 26) (FO X g z m a b c e f d (.w (HD z (M3 X z))) (.w (Eh z (rZ X z)))):=FT (tp3 X rfl);have es:∀{U:AQ} {x y:Ex},ev (GL 12) x U=ev (GL 12) y U->Gr (GL 12) (.o2 .ne (.v 25) (.sort 184 x)) U=Gr (GL 12) (.o2 .ne (.v 25) (.sort 184 y)) U:=λ {U x y} h=>by show((ev (GL 12) (.v 25) U).bind λ u=>((((ev (GL 12) x U).bind BD).bind λ xs=>if xs.length<64 then((Lq (GL 12) 184 xs).bind λ ks=>Nr (ks.map (·.1)) xs).map V.list else Ae)).bind (Cj .ne u)).bind truthy=((ev (GL 12) (.v 25) U).bind λ u=>((((ev (GL 12) y U).bind BD).bind λ xs=>if xs.length<64 then((Lq (GL 12) 184 xs).bind λ ks=>Nr (ks.map (·.1)) xs).map V.list else Ae)).bind (Cj .ne u)).bind truthy;rw[h]
 exact(es e).trans h
end
def yI(g:List Int)(z n:Nat):Bool:=rN z n==g
def Qd(g:List Int)(z:Nat)(l:List Nat):List Nat:=l.filter (yI g z)
def yQ(t:Int×Int×Int):List Nat:=Qd (Bk t) (Au t) (Ho (Au t) 0 Ab)
def KF(t:Int×Int×Int):List Nat:=(yQ t).map (OF (Au t))
def rA(t:Int×Int×Int):Nat:=(yQ t).getD 0 0
def qX(t:Int×Int×Int):Nat:=(yQ t).getD ((yQ t).length - 1) 0
def WS(t:Int×Int×Int)(l:List Nat):Bool:=l.map (OF (Au t))==KF t&&(AG (l.getD 0 0) (rA t)&&(AG (l.getD (l.length - 1) 0) (qX t)&&Fz 0 l.length))
theorem oI:(G6.all λ t=>yJ (Au t) λ z=>(Bp (De z)).all λ r=>WS t (Qd (Bk t) z (Ho z r Ab))&&WS t (Qd (Bk t) z (Ho z r Ai)))=Ab:=by kernel_rfl
def qW(g:List Int)(z:Nat)(p:List Nat):Bool:=(Bp (De z)).any λ n=>yI g z n&&(Bz z).getD n []==p
theorem offW:(G6.all λ t=>(D9 (Bk t) (Au t)).all λ p=>lH DW (p,qW (Bk t) (Au t) p))=Ab:=by kernel_rfl
def Hd(t:Int×Int×Int)(k:Nat):Nat:=Zy (Uv Ab (KF t) k) 0 (KF t).length
def Kk(t:Int×Int×Int)(k:Nat):Nat:=Zy (Uv Ai (KF t) k) (Hd t k) ((KF t).length - Hd t k)
def edT(t:Int×Int×Int)(k:Nat):Bool:=mono (Uv Ab (KF t) k) 0 (KF t).length&&(mono (Uv Ai (KF t) k) (Hd t k) ((KF t).length - Hd t k)&&((mono (Uv Ai (KF t) (-1)) (Hd t k) (Kk t k - Hd t k)&&AG (Zy (Uv Ai (KF t) (-1)) (Hd t k) (Kk t k - Hd t k)) (Hd t k))&&(mono (Uv Ab (KF t) 9) (Hd t k) (Kk t k - Hd t k)&&AG (Zy (Uv Ab (KF t) 9) (Hd t k) (Kk t k - Hd t k)) (Kk t k))))
theorem nZ:(G6.all λ t=>[0,1,2,3,4,5].all (edT t))=Ab:=by kernel_rfl
theorem S5{Z:Type}{f:V->Option (List V)}{u:Z->V}{p:Z->Bool}:∀{xs:List Z},(∀x∈xs,f (u x)=Aa (bif p x then[u x] else[]))->Eb f (xs.map u)=Aa ((xs.filter p).map u):=@λ I0=>by
 induction I0 with
 |nil=>exact@λ _=>rfl
 |cons x r IH=>
  intro h;show((f (u x)).bind λ ys=>(Eb f (r.map u)).map λ zs=>ys++zs)=_;rw[h x (.head _),IH λ y hy=>h y (.tail _ hy),List.filter_cons]
  cases p x<;>rfl
theorem VR{Z:Type}{l m:List Z}{p:Z->Bool}(h:∀x,x∈l↔x∈m):l.any p=m.any p:=by
 cases q:m.any p with
 |true=>obtain⟨x,hx,hp⟩:=List.any_eq_true.mp q;exact List.any_eq_true.mpr ⟨x,(h x).mpr hx,hp⟩
 |false=>rw[List.any_eq_false] at q ⊢;exact λ x hx=>q x ((h x).mp hx)
theorem fD{Z:Type}{f g:Z->Bool}:∀{l:List Z},(∀x∈l,f x=g x)->l.any f=l.any g:=@λ I0=>by
 induction I0 with
 |nil=>exact@λ _=>rfl
 |cons x l IH=>intro h;rw[yA,yA,h x (.head _),IH λ y hy=>h y (.tail _ hy)]
theorem lD{d n:Nat}(hd:d<24){l:List (List Nat)}(h:∀s∈l,JY s):(l.map (wd d)).all (V.ok (n+1))=Ab:=by
 rw[Kd];exact Al.mpr λ s hs=>by show(s.map (ch d)).all (·<55296)=Ab;exact NE (Om hd (h s hs))
theorem mV{d:Nat}(hd:d<24){p:List Nat}{l:List (List Nat)}(hp:JY p)(h:∀s∈l,JY s):Cj .in_ (wd d p) (wl d l)=Aa (.bool (l.any λ s=>s==p)):=by show(if(V.ok 8 (wd d p)&&(l.map (wd d)).all (V.ok 8))=Ab then Aa (V.bool ((l.map (wd d)).any λ y=>V.beq y (wd d p))) else Ae)=_;rw[show V.ok 8 (wd d p)=Ab from NE (Om hd hp),lD hd h,List.any_map];refine congrArg (λ b=>Aa (V.bool b)) (fD λ s hs=>?_);show((s.map (ch d))==(p.map (ch d)))=(s==p);exact Za hd (h s hs) hp
abbrev FE(X:Lw)(g:List Int)(z:Nat)(m a b c e f:LV)(d:Nat)(sh it:V)(ys:List LV):AQ:=FB X g z m (a::b::c::e::f::.w (wl d (D9 g z))::.w (wl d (Bz z))::.w sh::.w it::ys)
def EJ(X:Lw)(g:List Int)(z:Nat):List (List Nat):=bif AG z 6 then EA (D9 g z) (Aa (X.c2.fmod 3)) Ae (Aa 3) else D9 g z
theorem O8{X:Lw}{g:List Int}{z:Nat}{p:List Nat}(h:p∈EJ X g z):p∈D9 g z:=by
 unfold EJ at h
 cases q:AG z 6 with
 |false=>rw[q] at h;exact h
 |true=>rw[q] at h;obtain⟨i,_,hi⟩:=List.mem_filterMap.mp h;exact Bi hi
theorem LX{t:Int×Int×Int}(ht:t∈G6):(D9 (Bk t) (Au t)).length<=1000:=by
 have:(G6.all λ t=>Ie (D9 (Bk t) (Au t)).length 1000)=Ab:=by decide+kernel
 exact AN (Al.mp this t ht)
theorem UT{X:Lw}{t:Int×Int×Int}(ht:t∈G6):(EJ X (Bk t) (Au t)).length<=1000:=by
 unfold EJ
 cases AG (Au t) 6 with
 |false=>exact LX ht
 |true=>exact Ak (Im _ _ _ _) (LX ht)
section
variable{X:Lw}{z:Nat}{g:List Int}{m a b c e f:LV}{it:V}
theorem Z9{t:Int×Int×Int}(ht:t∈G6)(hg:g=Bk t)(hz:z=Au t){l:List Nat}(hs:Sh z l):CD (GL 12) 64 (C1 25 A4) (FE (X.let d) g z m a b c e f d (HD z l) it [])=Aa (.next,FE (X.let d) g z m a b c e f d (HD z l) it [.w (HD z (Qd g z l)),.w (wd d DW),.w (wl d (EJ X g z))]):=by
 have z7:z∈R7:=hz▸Em t ht;have hl:De z<=20:=FK z z7;have hlen:=hs.len;refine QT (vs:=[HD z (Qd g z l),wd d DW,wl d (EJ X g z)]) (AC (DK (xs:=l.map (Bs z)) (ys:=(l.filter (yI g z)).map (Bs z)) (QH (v:=HD z l) rfl rfl) rfl (S5 λ n hn=>?_) (by rw[Ag];exact Ak (ET _ _) (by rw[hlen];exact Ak hl (by decide)))) (AC rfl (AC ?_ BW))) rfl
 ·have e1:=AO (G:=GL 12) (U:=wr (Du [59] (FE (X.let d) g z m a b c e f d (HD z l) it [])) 59 (.w (Bs z n))) (o:=.i) (a:=.v 59) (b:=.c (.int 0)) (x:=Bs z n) (y:=.int 0) (z:=I n) rfl rfl rfl;exact Uq (U:=wr (Du [59] (FE (X.let d) g z m a b c e f d (HD z l) it [])) 59 (.w (Bs z n))) (b:=yI g z n) (AO (o:=.eq) (AO (o:=.i) (a:=.v 16) (x:=KN z) rfl e1 (KB (Ss (hs.lt n hn)).2 (by rw[Ag];show((EV z).map _).length<=_;rw[Ag];exact Ak hl (by decide)))) (b:=.v 6) (y:=il g) rfl (Un _ _)) rfl
 ·have cz:ev (GL 12) (.o2 .eq (.v 7) (.c (.int 6))) (FE (X.let d) g z m a b c e f d (HD z l) it [])=Aa (.bool (z==6)):=AO (a:=.v 7) (b:=.c (.int 6)) (x:=I z) (y:=I 6) rfl rfl (nX z 6);rw[FT cz];unfold EJ
  by_cases q:z=6
  ·rw[q,beq_self_eq_true,show AG 6 6=Ab from rfl,cond_true,cond_true,<-q];have k3:ev (GL 12) (.o2 .mod (.o2 .i (.v 3) (.c (.int 2))) (.c (.int 3))) (FE (X.let d) g z m a b c e f d (HD z l) it [])=Aa (.int (X.c2.fmod 3)):=AO (o:=.mod) (gQ (X.let d) rfl) (b:=.c (.int 3)) (y:=.int 3) rfl rfl;refine R5 (a:=.v 23) (k:=.a) (s:=.c (.int 3)) (x:=wl d (D9 g z)) (vk:=.none) (vs:=.int 3) rfl k3 rfl rfl ?_;show(if(Aa (3:Int))=Aa 0 then Ae else Aa (V.list (EA ((D9 g z).map (wd d)) (Aa (X.c2.fmod 3)) Ae (Aa 3))))=_;rw[if_neg (by decide),L4];rfl
  ·rw[beq_false_of_ne q,show AG z 6=Ai from by cases h:AG z 6 with
    |false=>rfl
    |true=>exact absurd (Av h) q]
   exact rfl
noncomputable abbrev e62:Ex:=.comp [62] (.one 62) (.ex (.v 27)) .nil (.o2 .i (.v 24) (.o2 .i (.v 62) (.c (.int 0))))
abbrev e61:Ex:=.comp [61] (.one 61) (.ex (.v 29)) .nil (.o2 .in_ (.v 61) e62)
noncomputable abbrev e60:Ex:=.comp [60] (.one 60) (.ex (.tup (.cons (.c (.int 6)) (.cons (.c (.int 3)) .nil)))) .nil (.call 134 (.cons (.c (.str [45,45,45])) (.cons (.sl (.v 28) .a (.c (.int 3)) .a) (.cons (.v 60) .nil))) Ae)
abbrev FF(X:Lw)(g:List Int)(z:Nat)(m a b c e f:LV)(d:Nat)(l:List Nat)(it:V):AQ:=FE (X.let d) g z m a b c e f d (HD z l) it [.w (HD z (Qd g z l)),.w (wd d DW),.w (wl d (EJ X g z))]
theorem WL{n:Nat}(h:n<De z):(Bz z)[n]?=Aa ((Bz z).getD n []):=by
 have hl:n<(Bz z).length:=by unfold Bz;rw[Ag];exact h
 rw[AK,Ar hl];rfl
theorem Z8{t:Int×Int×Int}(ht:t∈G6)(hg:g=Bk t)(hz:z=Au t){l:List Nat}(hs:Sh z l)(hd:d<24):CD (GL 12) 64 (C1 26 A4) (FF X g z m a b c e f d l it)=Aa (.next,FF X g z m a b c e f d l it):=by
 have z7:z∈R7:=hz▸Em t ht;have hl:De z<=20:=FK z z7;have hdr:∀n∈Qd g z l,n<De z:=λ n hn=>hs.lt n (List.mem_filter.mp hn).1;have hdl:(Qd g z l).length<=20:=Ak (ET _ _) (by rw[hs.len];exact hl);have hsp:∀n,n<De z->JY ((Bz z).getD n []):=λ n hn=>Gs (Kt z7 (Bi (WL hn))).1;have wz:∀p∈EJ X g z,small p/\p.length<=6:=λ p hp=>KG ht (hg▸hz▸O8 hp);have wl':(EJ X g z).length<=1000:=by rw[hg,hz];exact UT ht
 have c62:∀U:AQ,rd U 27=.w (HD z (Qd g z l))->rd U 24=.w (wl d (Bz z))->U.length=74->rd U 62=.u->ev (GL 12) e62 U=Aa (wl d ((Qd g z l).map λ n=>(Bz z).getD n [])):=λ U h27 h24 hlen h62=>by
  show _=Aa (V.list (((Qd g z l).map λ n=>(Bz z).getD n []).map (wd d)));rw[BF];refine DK (xs:=(Qd g z l).map (Bs z)) (QH (congrArg Bv h27) rfl) (by unfold noOwn;rw[RZ,h62];rfl) (DV (v:=λ n=>wd d ((Bz z).getD n [])) λ n hn=>?_) (by rw[Ag];exact Ak hdl (by decide));have r62:rd (wr (Du [62] U) 62 (.w (Bs z n))) 62=.w (Bs z n):=DB (by show 62<(wr U 62 .u).length;rw[GO,hlen];decide);have r24:rd (wr (Du [62] U) 62 (.w (Bs z n))) 24=.w (wl d (Bz z)):=by rw[AU (by decide)];show rd (wr U 62 .u) 24=_;rw[AU (by decide)];exact h24
  exact DD (U:=wr (Du [62] U) 62 (.w (Bs z n))) (AO (a:=.v 24) (congrArg Bv r24) (AO (a:=.v 62) (b:=.c (.int 0)) (y:=.int 0) (z:=I n) (congrArg Bv r62) rfl rfl) (XU (WL (hdr n hn)) (by unfold Bz;rw[Ag];exact Ak hl (by decide))))
 have mk:∀p,((Qd g z l).map λ n=>(Bz z).getD n []).any (λ s=>s==p)=qW g z p:=λ p=>by rw[List.any_map];unfold Qd qW;rw[List.any_filter];exact VR λ n=>⟨λ h=>List.mem_range.mpr (hs.lt n h),λ h=>hs.all n (List.mem_range.mp h)⟩
 have c61:ev (GL 12) e61 (FF X g z m a b c e f d l it)=Aa (.list (((EJ X g z).map (qW g z)).map .bool)):=by refine DK (xs:=(EJ X g z).map (wd d)) (QH (v:=wl d (EJ X g z)) rfl rfl) rfl ?_ (by rw[Ag,Ag];exact Ak wl' (by decide));rw[BF];refine DV (u:=wd d) (v:=λ p=>.bool (qW g z p)) λ p hp=>DD (U:=wr (Du [61] (FF X g z m a b c e f d l it)) 61 (.w (wd d p))) (AO (a:=.v 61) (x:=wd d p) rfl (c62 _ rfl rfl rfl rfl) ?_);rw[mV hd (Gs (wz p hp).1) λ s hs'=>?_,mk];obtain⟨n,hn,rfl⟩:=List.mem_map.mp hs';exact hsp n (hdr n hn)
 have co:=xC (j:=9) (turn:=X.c2.fdiv 3) (w:=DW) (W:=EJ X g z) (M:=(EJ X g z).map (qW g z)) hd (by intro x hx;revert x;decide) (by decide) λ r hr=>by rw[QE] at hr;obtain⟨p,hp,rfl⟩:=List.mem_map.mp hr;have h:=Al.mp (Al.mp offW t ht) p (hg▸hz▸O8 hp);rw[<-hg,<-hz] at h;exact⟨(wz p hp).1,(wz p hp).2,Q0 h _ _⟩
 have ce:ev (GL 12) (.call 165 (.cons (.v 29) (.cons (.v 28) (.cons e61 (.cons (.o2 .fdiv (.o2 .i (.v 3) (.c (.int 2))) (.c (.int 3))) .nil)))) Ae) (FF X g z m a b c e f d l it)=Aa (.bool Ai):=CB (AC (v:=wl d (EJ X g z)) rfl (AC (v:=wd d DW) rfl (AC c61 (AC (AO (o:=.fdiv) (gQ (X.let d) rfl) (b:=.c (.int 3)) (y:=.int 3) rfl rfl) BW)))) co;have c60:ev (GL 12) e60 (FF X g z m a b c e f d l it)=Aa (.list [.int 6,.int 4]):=by
  have one:∀(k r:Int),Xu [6,6,6] [2,1,0] k=r->ED (CC (GL 12) .nil) (ev (GL 12) (.call 134 (.cons (.c (.str [45,45,45])) (.cons (.sl (.v 28) .a (.c (.int 3)) .a) (.cons (.v 60) .nil))) Ae)) (wr (Du [60] (FF X g z m a b c e f d l it)) 60 (.w (.int k)))=Aa [.int r]:=λ k r h=>by rw[<-h];exact DD (CB (vs:=[wd d [6,6,6],wd d [2,1,0],.int k]) (AC rfl (AC rfl (AC rfl BW))) (pM (j:=10) hd (by intro x hx;revert x;decide) (by intro x hx;revert x;decide) (by decide) (by decide)))
  exact DK (xs:=[.int 6,.int 3]) (ys:=[.int 6,.int 4]) rfl rfl (Ej (ys:=[.int 6]) (one 6 6 rfl) (Ej (ys:=[.int 4]) (one 3 4 rfl) rfl)) (IL (by decide))
 have cn:ev (GL 12) (.o2 .ne e60 (.l (.cons (.c (.int 6)) (.cons (.c (.int 4)) .nil)))) (FF X g z m a b c e f d l it)=Aa (.bool Ai):=AO c60 rfl rfl;exact B0 ((He (fQ ce cn)).trans rfl) rfl
end
structure Dr(t:Int×Int×Int)(l:List Nat):Prop where
 ws:l.map (OF (Au t))=KF t
 fi:l.getD 0 0=rA t
 la:l.getD (l.length - 1) 0=qX t
 ne:0<l.length
theorem TJ{t:Int×Int×Int}{l:List Nat}(h:WS t l=Ab):Dr t l:=CJ h λ h1 h=>CJ h λ h2 h=>CJ h λ h3 h4=>⟨eq_of_beq h1,Av h2,Av h3,AN h4⟩
theorem wJ{X:Lw}{t:Int×Int×Int}(ht:t∈G6):Dr t (Qd (Bk t) (Au t) (M3 X (Au t))):=by
 have h:=Al.mp oI t ht;rw[Yq] at h;refine CJ (Al.mp h (rZ X (Au t)) (List.mem_range.mpr (TR (Em t ht)))) λ h1 h2=>?_;unfold M3
 cases X.c3.fmod 2==0 with
 |true=>exact TJ h1
 |false=>exact TJ h2
def nU(t:Int×Int×Int):V:=bn ((EV (Au t)).getD (rA t) [])
def mL(t:Int×Int×Int):V:=bn ((EV (Au t)).getD (qX t) [])
def zS(t:Int×Int×Int):List Nat:=([0,1,2].map λ k=>(((EV (Au t)).getD (qX t) []).filter λ p=>AG (Nw.getD p 0) k).length)++[0,1,2].map λ k=>(((EV (Au t)).getD (rA t) []).filter λ p=>AG (DW.getD p 0 - Nw.getD p 0) k).length
theorem kT:mA (λ (t:Int×Int×Int) (X:Lw) (m a b c e f:LV) (d:Nat) (sh it:V) (o p q:LV)=>Bw (GL 12) 64 (Jp 2 (Gn 28 A4)) (FE X (Bk t) (Au t) m a b c e f d sh it [o,p,q,.w (nU t),.w (mL t)])) G6=mB (λ t X m a b c e f d sh it o p q=>Aa (.next,FE X (Bk t) (Au t) m a b c e f d sh it [o,p,q,.w (nU t),.w (mL t),.w (bn (zS t))])) G6:=by kernel_rfl
section
variable{X:Lw}{t:Int×Int×Int}{m a b c e f:LV}{sh it:V}{l:List Nat}{p q:LV}
theorem bV{xs:List V}{x:V}(h:xs.reverse[0]?=Aa x)(hz:xs.length<=1000000):Cj .i (.list xs) (.int (-1))=Aa x:=Rg (k:=0) h hz
theorem Z7(ht:t∈G6)(hl:l.length<=20)(hlt:∀n∈l,n<De (Au t))(D:Dr t l):CD (GL 12) 64 (C1 27 A4) (FE X (Bk t) (Au t) m a b c e f d sh it [.w (HD (Au t) l),p,q])=Aa (.next,FE X (Bk t) (Au t) m a b c e f d sh it [.w (HD (Au t) l),p,q,.w (nU t),.w (mL t)]):=by
 have z7:=Em t ht;have hz:De (Au t)<=20:=FK _ z7;have sub:∀n,n<De (Au t)->Cj .i (Le (Au t)) (I n)=Aa (bn ((EV (Au t)).getD n [])):=λ n hn=>KB (by rw[Ba,AK,Ar hn];rfl) (by rw[Ag];show De _<=_;omega)
 have ne:=D.ne;have g0:l[0]?=Aa (rA t):=by rw[<-D.fi,AK,Ar ne];rfl
 have g1:l[l.length - 1]?=Aa (qX t):=by rw[<-D.la,AK,Ar (by omega)];rfl
 have f0:Cj .i (HD (Au t) l) (.int 0)=Aa (Bs (Au t) (rA t)):=KB (n:=0) (by rw[Ba,g0];rfl) (by rw[Ag];omega);have f1:Cj .i (HD (Au t) l) (.int (-1))=Aa (Bs (Au t) (qX t)):=bV (by rw[KD (by rw[Ag];exact ne),Ag,Ba,show l.length - 1 - 0=l.length - 1 from rfl,g1];rfl) (by rw[Ag];omega);have i0:∀n,Cj .i (Bs (Au t) n) (.int 0)=Aa (I n):=λ n=>by kernel_rfl
 exact QT (vs:=[nU t,mL t]) (AC (AO (a:=.v 14) (x:=Le (Au t)) rfl (AO (b:=.c (.int 0)) (AO (a:=.v 27) (b:=.c (.int 0)) (x:=HD (Au t) l) rfl rfl f0) rfl (i0 _)) (sub _ (hlt _ (Bi g0)))) (AC (AO (a:=.v 14) (x:=Le (Au t)) rfl (AO (b:=.c (.int 0)) (AO (a:=.v 27) (b:=.o1 .neg (.c (.int 1))) (x:=HD (Au t) l) rfl rfl f1) rfl (i0 _)) (sub _ (hlt _ (Bi g1)))) BW)) rfl
theorem Z6(ht:t∈G6){o:LV}:Bw (GL 12) 64 (Jp 2 (Gn 28 A4)) (FE X (Bk t) (Au t) m a b c e f d sh it [o,p,q,.w (nU t),.w (mL t)])=Aa (.next,FE X (Bk t) (Au t) m a b c e f d sh it [o,p,q,.w (nU t),.w (mL t),.w (bn (zS t))]):=
 congrFun (congrFun (congrFun (congrFun (congrFun (congrFun (congrFun (congrFun (congrFun (congrFun (congrFun (congrFun (congrFun (Zw kT t ht) X) m) a) b) c) e) f) d) sh) it) o) p) q
noncomputable abbrev K6:List Nat:=[0,1,2,3,4,5]
structure Ed(t:Int×Int×Int)(k:Nat):Prop where
 s:Bd (Uv Ab (KF t) k) 0 (KF t).length (Hd t k)
 b:Bd (Uv Ai (KF t) k) (Hd t k) (KF t).length (Kk t k)
 e1:Bd (Uv Ai (KF t) (-1)) (Hd t k) (Kk t k) (Hd t k)
 e2:Bd (Uv Ab (KF t) 9) (Hd t k) (Kk t k) (Kk t k)
theorem Pu(ht:t∈G6){k:Nat}(hk:k∈K6):Ed t k:=by have h:=Al.mp (Al.mp nZ t ht) k hk;refine CJ h λ h1 h=>CJ h λ h2 h=>CJ h λ h3 h4=>CJ h3 λ h5 h6=>CJ h4 λ h7 h8=>?_;have b1:=Oh h1;have b2:=Oh h2;have b3:=Oh h5;have b4:=Oh h7;rw[Av h6] at b3;rw[Av h8] at b4;rw[CW] at b1;have hs:Hd t k<=(KF t).length:=b1.ph;have b2:Bd (Uv Ai (KF t) k) (Hd t k) (Hd t k+((KF t).length - Hd t k)) (Kk t k):=b2;rw[show Hd t k+((KF t).length - Hd t k)=(KF t).length by omega] at b2;have hb:=b2.lp;rw[show Hd t k+(Kk t k - Hd t k)=Kk t k by omega] at b3 b4;exact⟨b1,b2,b3,b4⟩
theorem L7(D:Dr t l):l.length=(KF t).length:=by rw[<-D.ws,Ag]
theorem pP(ht:t∈G6)(hl:l.length<=20)(D:Dr t l){k:Nat}(hk:k∈K6):GL 12 120 [HD (Au t) l,I k] (Aa 184)=Aa (I (Hd t k)):=by have E:=Pu ht hk;exact RG (j:=10) Ab (l:=l) (lo:=0) (hi:=l.length) (hv:=.none) rfl (.inl ⟨rfl,rfl⟩) (by omega) (Bj _) (A1 _) (by unfold VN;rw[D.ws,L7 D];exact E.s)
theorem pS(ht:t∈G6)(hl:l.length<=20)(D:Dr t l){k:Nat}(hk:k∈K6):GL 12 102 [HD (Au t) l,I k,I (Hd t k)] (Aa 184)=Aa (I (Kk t k)):=by have E:=Pu ht hk;exact RG (j:=10) Ai (l:=l) (lo:=Hd t k) (hi:=l.length) (hv:=.none) rfl (.inl ⟨rfl,rfl⟩) (by omega) (by rw[L7 D];exact E.s.ph) (A1 _) (by unfold VN;rw[D.ws,L7 D];exact E.b)
theorem pR(ht:t∈G6)(hl:l.length<=20)(D:Dr t l){k:Nat}(hk:k∈K6):GL 12 102 [HD (Au t) l,.int (-1),I (Hd t k),I (Kk t k)] (Aa 184)=Aa (I (Hd t k)):=by have E:=Pu ht hk;exact RG (j:=10) Ai (l:=l) (lo:=Hd t k) (hi:=Kk t k) (hv:=I (Kk t k)) rfl (.inr rfl) (by omega) E.b.lp (by rw[L7 D];exact E.b.ph) (by unfold VN;rw[D.ws];exact E.e1)
theorem pQ(ht:t∈G6)(hl:l.length<=20)(D:Dr t l){k:Nat}(hk:k∈K6):GL 12 120 [HD (Au t) l,.int 9,I (Hd t k),I (Kk t k)] (Aa 184)=Aa (I (Kk t k)):=by have E:=Pu ht hk;exact RG (j:=10) Ab (l:=l) (lo:=Hd t k) (hi:=Kk t k) (hv:=I (Kk t k)) rfl (.inr rfl) (by omega) E.b.lp (by rw[L7 D];exact E.b.ph) (by unfold VN;rw[D.ws];exact E.e2)
def PO(t:Int×Int×Int):V:=.list (K6.map λ k=>I (Hd t k))
def Tj(t:Int×Int×Int):V:=.list (K6.map λ k=>I (Kk t k))
def YE(t:Int×Int×Int):V:=.list (K6.map λ k=>.list [I (Hd t k),I (Kk t k)])
abbrev FG(X:Lw)(t:Int×Int×Int)(m a b c e f:LV)(d:Nat)(sh it:V)(l:List Nat)(p q:LV)(ys:List LV):AQ:=FE X (Bk t) (Au t) m a b c e f d sh it (.w (HD (Au t) l)::p::q::.w (nU t)::.w (mL t)::.w (bn (zS t))::ys)
theorem pY{f:Nat->V}{k:Nat}(hk:k∈K6):Cj .i (.list (K6.map f)) (I k)=Aa (f k):=by have:∀k∈K6,(K6.map f)[k]?=Aa (f k):=List.forall_mem_cons.mpr ⟨rfl,List.forall_mem_cons.mpr ⟨rfl,List.forall_mem_cons.mpr ⟨rfl,List.forall_mem_cons.mpr ⟨rfl,List.forall_mem_cons.mpr ⟨rfl,List.forall_mem_cons.mpr ⟨rfl,(λ _ h=>absurd h List.not_mem_nil)⟩⟩⟩⟩⟩⟩;exact KB (this k hk) (by rw[Ag];decide)
theorem WW{G:EZ}{U:AQ}:EU G (.r (.c (.int 6))) U=Aa (K6.map I):=rfl
theorem nY{l:List (List V)}(h:∀x∈l,V.ok 7 (.list x)=Ab)(k:∀x∈l,V.beq (.list x) (.list x)=Ab):Cj .ne (.list (l.map .list)) (.list (l.map .list))=Aa (.bool Ai):=by
 have h1:V.ok 8 (.list (l.map .list))=Ab:=by show(l.map V.list).all (V.ok 7)=Ab;rw[Kd];exact Al.mpr h
 have h2:V.beqs (l.map .list) (l.map .list)=Ab:=by
  clear h h1
  induction l with
  |nil=>rfl
  |cons x l ih=>show(V.beq (.list x) (.list x)&&V.beqs (l.map .list) (l.map .list))=Ab;rw[k x (.head _),ih λ y hy=>k y (.tail _ hy)];rfl
 show(if(V.ok 8 (.list (l.map .list))&&V.ok 8 (.list (l.map .list)))=Ab then Aa (V.bool (!V.beqs (l.map .list) (l.map .list))) else Ae)=_;rw[h1,h2];rfl
theorem Z5(ht:t∈G6)(hl:l.length<=20)(D:Dr t l):Bw (GL 12) 64 (Jp 4 (Gn 30 A4)) (FG X t m a b c e f d sh it l p q [])=Aa (.next,FG X t m a b c e f d sh it l p q [.w (PO t),.w (Tj t),.w (YE t)]):=by
 have z:(K6.map λ k=>I (Hd t k)).length<=CN:=IL rfl;have s30:CD (GL 12) 64 (C1 30 A4) (FG X t m a b c e f d sh it l p q [])=Aa (.next,FG X t m a b c e f d sh it l p q [.w (PO t)]):=
  Cc (DK WW rfl (DV (u:=I) (v:=λ k=>I (Hd t k)) λ k hk=>DD (U:=wr (Du [68] (FG X t m a b c e f d sh it l p q [])) 68 (L k)) (CB (AC (v:=HD (Au t) l) rfl (AC (v:=I k) rfl BW)) (pP ht hl D hk))) (IL rfl))
 have s31:CD (GL 12) 64 (C1 31 A4) (FG X t m a b c e f d sh it l p q [.w (PO t)])=Aa (.next,FG X t m a b c e f d sh it l p q [.w (PO t),.w (Tj t)]):=
  Cc (DK WW rfl (DV (u:=I) (v:=λ k=>I (Kk t k)) λ k hk=>DD (U:=wr (Du [69] (FG X t m a b c e f d sh it l p q [.w (PO t)])) 69 (L k)) (CB (AC (v:=HD (Au t) l) rfl (AC (v:=I k) rfl (AC (AO (a:=.v 33) (b:=.v 69) (x:=PO t) (y:=I k) rfl rfl (pY hk)) BW))) (pS ht hl D hk))) (IL rfl))
 have s32:CD (GL 12) 64 (C1 32 A4) (FG X t m a b c e f d sh it l p q [.w (PO t),.w (Tj t)])=Aa (.next,FG X t m a b c e f d sh it l p q [.w (PO t),.w (Tj t),.w (YE t)]):=
  Cc (DK WW rfl (DV (u:=I) (v:=λ k=>.list [I (Hd t k),I (Kk t k)]) λ k hk=>DD (U:=wr (Du [70] (FG X t m a b c e f d sh it l p q [.w (PO t),.w (Tj t)])) 70 (L k)) (by have i3:=AO (G:=GL 12) (U:=wr (Du [70] (FG X t m a b c e f d sh it l p q [.w (PO t),.w (Tj t)])) 70 (L k)) (a:=.v 33) (b:=.v 70) (x:=PO t) (y:=I k) rfl rfl (pY hk);have i4:=AO (G:=GL 12) (U:=wr (Du [70] (FG X t m a b c e f d sh it l p q [.w (PO t),.w (Tj t)])) 70 (L k)) (a:=.v 34) (b:=.v 70) (x:=Tj t) (y:=I k) rfl rfl (pY hk);exact Tz (AC (CB (AC (v:=HD (Au t) l) rfl (AC (v:=.int (-1)) rfl (AC i3 (AC i4 BW)))) (pR ht hl D hk)) (AC (CB (AC (v:=HD (Au t) l) rfl (AC (v:=.int 9) rfl (AC i3 (AC i4 BW)))) (pQ ht hl D hk)) BW)))) (IL rfl))
 have c71:ev (GL 12) (.comp [71] (.one 71) (.r (.c (.int 6))) .nil (.l (.cons (.o2 .i (.v 33) (.v 71)) (.cons (.o2 .i (.v 34) (.v 71)) .nil)))) (FG X t m a b c e f d sh it l p q [.w (PO t),.w (Tj t),.w (YE t)])=Aa (YE t):=
  DK WW rfl (DV (u:=I) (v:=λ k=>.list [I (Hd t k),I (Kk t k)]) λ k hk=>DD (U:=wr (Du [71] (FG X t m a b c e f d sh it l p q [.w (PO t),.w (Tj t),.w (YE t)])) 71 (L k)) (Tz (AC (AO (a:=.v 33) (b:=.v 71) (x:=PO t) (y:=I k) rfl rfl (pY hk)) (AC (AO (a:=.v 34) (b:=.v 71) (x:=Tj t) (y:=I k) rfl rfl (pY hk)) BW)))) (IL rfl)
 have en:Cj .ne (YE t) (YE t)=Aa (.bool Ai):=by
  have:=nY (l:=K6.map λ k=>[I (Hd t k),I (Kk t k)]) (λ x hx=>by obtain⟨k,_,rfl⟩:=List.mem_map.mp hx;rfl) (λ x hx=>by obtain⟨k,_,rfl⟩:=List.mem_map.mp hx;show(((Hd t k:Int)==Hd t k)&&(((Kk t k:Int)==Kk t k)&&Ab))=Ab;rw[beq_self_eq_true,beq_self_eq_true];rfl)
  rw[BF] at this;exact this
 have s33:CD (GL 12) 64 (C1 33 A4) (FG X t m a b c e f d sh it l p q [.w (PO t),.w (Tj t),.w (YE t)])=Aa (.next,FG X t m a b c e f d sh it l p q [.w (PO t),.w (Tj t),.w (YE t)]):=B0 ((He (AO (a:=.v 35) (x:=YE t) rfl c71 en)).trans rfl) rfl;exact Ap s30 (Ap s31 (Ap s32 (Ap s33 rfl)))
end
abbrev Lv(d z:Nat)(w:List Nat)(q c:Int)(x5:LV):AQ:=[.w (wd d w),.w (CL d),.w (II z q),.w (.int q),.w (.int c),x5]
noncomputable abbrev MQ:Nat:=5326
theorem W4{q:Int}{M:Nat}(hM:1<=M)(h:q.natAbs<2^M):∀a:Nat,(qn q a).natAbs<=2^(M*a):=λ I0=>by
 induction I0 with
 |zero=>exact Bj _
 |succ a IH=>
  rw[JV];have h1:=IH;have h2:=HB h a;have h3:=Jf (qn q a) (q^a);have h4:2^(M*a+1)<=2^(M*(a+1)):=CE (by rw[GE];lia);rw[CX] at h4
  lia
theorem Cq{x n m:Nat}(h:x<=2^n)(k:n<m):x<2^m:=Bc h (Nat.pow_lt_pow_right (by decide) k)
theorem Ht{a b:Int}{m n:Nat}(ha:a.natAbs<=2^m)(hb:b.natAbs<=2^n):(a*b).natAbs<=2^(m+n):=by rw[Int.natAbs_mul,CF];exact LL ha hb
theorem gF{q:Int}(h:q.natAbs<2^MQ){k:Nat}(hk:k<=6):Cj .pow (.int q) (I k)=Aa (.int (q^k)):=by
 have bq:=Fj h;have:=M5 (a:=q) (AZ k) (by
  have h1:=LL bq hk;have h2:MQ*6=31956:=rfl;have:((BV q*k:Nat):Int)<=40000:=by omega
  rw[HO] at this;omega)
 rw[this,Cd]
def QQ(q:Int)(x i:Nat):Option Nat->Int
 |none=>qn q (x+1)*1
 |some y=>qn q (x+1)*(if x<y then q^(i+1) else 1)
noncomputable def UK(q:Int):List Nat->Nat->Int->Int
 |[],_,acc=>acc
 |x::r,i,acc=>UK q r (i+1) (acc*QQ q x i r.head?)
theorem lX(a b:Nat):Xs [a] [b]=decide (a<b):=decide_eq_decide.mpr (List.cons_lt_cons_iff.trans (or_iff_left λ h=>List.not_lt_nil _ h.2))
theorem RC:∀d<24,∀x<3,∀y<3,decide (ch d x<ch d y)=decide (x<y):=by decide+kernel
theorem eQ{d x y:Nat}(hd:d<24)(hx:x<3)(hy:y<3):decide (ch d x<ch d y)=decide (x<y):=RC d hd x hx y hy
noncomputable def DX:List (Nat×Nat):=(Bp 24).flatMap λ d=>(Bp 3).map λ x=>(d,x)
theorem Vi:mA (λ p:Nat×Nat=>Cj .index (CL p.1) (wd p.1 [p.2])) DX=mB (λ p=>Aa (I p.2)) DX:=by kernel_rfl
theorem mU{d x:Nat}(hd:d<24)(hx:x<3):Cj .index (CL d) (wd d [x])=Aa (I x):=
 Zw Vi (d,x) (List.mem_flatMap.mpr ⟨d,List.mem_range.mpr hd,List.mem_map.mpr ⟨x,List.mem_range.mpr hx,rfl⟩⟩)
theorem TZ{z x:Nat}{q:Int}(hz:z∈R7)(hx:x<max z 3):Cj .i (II z q) (I x)=Aa (.int (qn q (x+1))):=by have hl:=NG z hz;refine KB ?_ (by rw[Ag];lia);unfold OM;rw[BF,Ba,List.getElem?_range hx];rfl
noncomputable abbrev yO:Ex:=.o2 .lt (.sl (.v 0) (.v 5) (.o2 .a (.v 5) (.c (.int 1))) .a) (.sl (.v 0) (.o2 .a (.v 5) (.c (.int 1))) (.o2 .a (.v 5) (.c (.int 2))) .a)
abbrev oH:Ex:=.o2 .mul (.o2 .i (.v 2) (.o2 .index (.v 1) (.o2 .i (.v 0) (.v 5)))) (.f yO (.o2 .pow (.v 3) (.o2 .a (.v 5) (.c (.int 1)))) (.c (.int 1)))
section
variable{z:Nat}
theorem vB(hz:z∈R7)(hd:d<24)(hq:q.natAbs<2^MQ){w:List Nat}(hw:small w)(hwz:w.length<=6):∀(r p:List Nat) (acc:Int) (x5:LV),w=p++r->acc.natAbs<=2^(MQ*9*p.length)->∃y5,B7 (.one 5) (Bw (GL j) 64 (.cons (.aug 4 .mul oH) .nil)) ((BZ p.length r.length).map I) (Lv d z w q acc x5)=Aa (.next,(Lv d z w q (UK q r p.length acc) y5)):=λ I0=>by
 induction I0 with
 |nil=>exact λ p acc x5 _ _=>⟨x5,rfl⟩
 |cons x r IH=>
  intro p acc x5 e ha;have hpl:p.length+(r.length+1)<=6:=by rw[e,AB] at hwz;exact hwz
  have ex:w[p.length]?=Aa x:=by rw[e,BY (A1 _),Fy];rfl
  have hx:=hw x (Bi ex);have dr:w.drop p.length=x::r:=by rw[e,List.drop_left' rfl]
  have dr1:=(Lk dr).2;have s1:∀a b:Nat,aG (w.map (ch d)) (Aa (a:Int)) (Aa (b:Int)) Ae=Aa (.str (((w.drop a).take (b - a)).map (ch d))):=λ a b=>by rw[fW];unfold qU;rw[<-R0,<-R1]
  have i5:∀k:Nat,ev (GL j) (.o2 .a (.v 5) (.c (.int k))) (Lv d z w q acc (L p.length))=Aa (I (p.length+k)):=λ k=>AO rfl rfl rfl;have sl1:ev (GL j) (.sl (.v 0) (.v 5) (.o2 .a (.v 5) (.c (.int 1))) .a) (Lv d z w q acc (L p.length))=Aa (.str [ch d x]):=by refine R5 rfl rfl (i5 1) rfl ((s1 _ _).trans ?_);rw[dr,show p.length+1 - p.length=1 by lia];rfl
  have sl2:ev (GL j) (.sl (.v 0) (.o2 .a (.v 5) (.c (.int 1))) (.o2 .a (.v 5) (.c (.int 2))) .a) (Lv d z w q acc (L p.length))=Aa (.str ((r.take 1).map (ch d))):=by refine R5 rfl (i5 1) (i5 2) rfl ((s1 _ _).trans ?_);rw[dr1,show p.length+2 - (p.length+1)=1 by lia]
  have lt:ev (GL j) yO (Lv d z w q acc (L p.length))=Aa (.bool (Xs [ch d x] ((r.take 1).map (ch d)))):=AO sl1 sl2 rfl;have fac:∃v:Int,v=QQ q x p.length r.head?/\v.natAbs<=2^(MQ*9)/\ev (GL j) oH (Lv d z w q acc (L p.length))=Aa (.int v):=by
   have en:ev (GL j) (.o2 .i (.v 2) (.o2 .index (.v 1) (.o2 .i (.v 0) (.v 5)))) (Lv d z w q acc (L p.length))=Aa (.int (qn q (x+1))):=AO rfl (AO rfl (AO rfl rfl (Re ex (by lia))) (mU hd hx)) (TZ hz (by lia));have hn:(qn q (x+1)).natAbs<=2^(MQ*3):=Ak (W4 (by decide) hq _) (CE (Bf _ (by lia)));have hp:(q^(p.length+1)).natAbs<=2^(MQ*6):=Ak (HB hq _) (CE (Bf _ (by omega)));have ep:ev (GL j) (.o2 .pow (.v 3) (.o2 .a (.v 5) (.c (.int 1)))) (Lv d z w q acc (L p.length))=Aa (.int (q^(p.length+1))):=AO rfl (i5 1) (gF hq (by omega));have hp1:(1:Int).natAbs<=2^(MQ*6):=M1;have fin:∀v:Int,v.natAbs<=2^(MQ*6)->ev (GL j) (.f yO (.o2 .pow (.v 3) (.o2 .a (.v 5) (.c (.int 1)))) (.c (.int 1))) (Lv d z w q acc (L p.length))=Aa (.int v)->(qn q (x+1)*v).natAbs<=2^(MQ*9)/\ev (GL j) oH (Lv d z w q acc (L p.length))=Aa (.int (qn q (x+1)*v)):=λ v hv he=>⟨Ak (Ht hn hv) (CE (by decide)),AO en he (NO (n:=40000) (Cq hn (by decide)) (Cq hv (by decide)) (by decide))⟩
   rcases r with _|⟨y,r⟩
   ·have c:=fin 1 hp1 (by rw[FT lt];rfl);exact⟨_,rfl,c.1,c.2⟩
   ·have hy:=hw y (by rw[e];exact List.mem_append.mpr (.inr (.tail _ (.head _))));have lt:ev (GL j) yO (Lv d z w q acc (L p.length))=Aa (.bool (decide (x<y))):=by
     rw[lt,<-eQ hd hx hy,<-lX];rfl
    show∃v:Int,v=qn q (x+1)*(if x<y then q^(p.length+1) else 1)/\_
    by_cases h:x<y
    ·rw[decide_eq_true h] at lt;rw[if_pos h];have c:=fin _ hp (by rw[FT lt];exact ep);exact⟨_,rfl,c.1,c.2⟩
    ·rw[decide_eq_false h] at lt;rw[if_neg h];have c:=fin 1 hp1 (by rw[FT lt];rfl);exact⟨_,rfl,c.1,c.2⟩
  obtain⟨v,QA,hv,he⟩:=fac;have hacc:acc.natAbs<=2^(MQ*9*6):=Ak ha (CE (Bf _ (by lia)));obtain⟨y5,ih⟩:=IH (p++[x]) (acc*v) (L p.length) (by rw[e,A0];rfl) (by rw[AB];exact Ak (Ht ha hv) (CE (by rw[show[x].length=1 from rfl,Fh];lia)));rw[AB] at ih;refine⟨y5,?_⟩;rw[Bl,Fm];show _=Aa (Fl.next,(Lv d z w q (UK q r (p.length+1) (acc*QQ q x p.length r.head?)) y5));rw[<-QA];exact Eg rfl (Ap (HT rfl rfl he (NO (n:=300000) (Cq hacc (by decide)) (Cq hv (by decide)) (by decide))) rfl) ih
theorem c198(hz:z∈R7)(hd:d<24)(hq:q.natAbs<2^MQ){w:List Nat}(hw:small w)(hwz:w.length<=6):GL (j+1) 198 [wd d w,CL d,II z q,.int q] Ae=Aa (.int (UK q w 0 1)):=by obtain⟨y5,h⟩:=vB hz hd hq hw hwz w [] 1 .u rfl M1;have it:EU (GL j) (.r (.o1 .len (.v 0))) (Lv d z w q 1 .u)=Aa ((BZ 0 w.length).map I):=JU (H4 rfl (KR d w)) (aS _ (Uz _ hwz));have s1:=Jv it h;exact DM rfl rfl rfl (Ap rfl (Ap s1 (r1 (En rfl)))) rfl
end
noncomputable def pe(q:Int):List Nat->Int
 |[]=>0
 |c::r=>c+q*pe q r
noncomputable def Sw:List Nat->List Nat->List Nat
 |[],b=>b
 |a,[]=>a
 |x::a,y::b=>(x+y)::Sw a b
noncomputable def PU:List Nat->List Nat->List Nat
 |[],_=>[]
 |x::a,b=>Sw (b.map λ y=>x*y) (0::PU a b)
noncomputable def tJ:Nat->List Nat->List Nat
 |0,p=>p
 |i+1,p=>0::tJ i p
noncomputable def zT:List Nat->List Nat->Bool
 |[],b=>b.all λ y=>AG y 0
 |a,[]=>a.all λ y=>AG y 0
 |x::a,y::b=>AG x y&&zT a b
theorem W9:∀a b:List Nat,pe q (Sw a b)=pe q a+pe q b
:=λ a=>by
 induction a with
 |nil=>exact λ b=>Eq.symm (Int.zero_add (pe q b))
 |cons x a IH=>intro b;induction b using Aq with
  |nil=>exact Eq.symm (Int.add_zero (pe q (x::a)))
  |cons y b=>show((x+y:Nat):Int)+q*pe q (Sw a b)=(x+q*pe q a)+(y+q*pe q b);rw[IH b,LM,HQ];lia
theorem W8(x:Nat):∀b:List Nat,pe q (b.map λ y=>x*y)=x*pe q b:=λ I0=>by
 induction I0 with
 |nil=>show(0:Int)=x*0;exact Eq.symm (Int.mul_zero ↑x)
 |cons y b IH=>show((x*y:Nat):Int)+q*pe q (b.map λ y=>x*y)=x*(y+q*pe q b);rw[IH,LM,HO,Int.mul_left_comm]
theorem Sv:∀a b:List Nat,pe q (PU a b)=pe q a*pe q b:=λ I0=>by
 induction I0 with
 |nil=>intro b;show(0:Int)=0*pe q b;exact Eq.symm (Int.zero_mul (pe q b))
 |cons x a IH=>intro b;show pe q (Sw (b.map λ y=>x*y) (0::PU a b))=(x+q*pe q a)*pe q b;rw[W9,W8];show x*pe q b+(((0:Nat):Int)+q*pe q (PU a b))=_;rw[IH b,Int.add_mul,Tw];lia
theorem tN:∀(i:Nat) (p:List Nat),pe q (tJ i p)=q^i*pe q p:=λ I0=>by
 induction I0 with
 |zero=>intro p;rw[Ox,Zu];rfl
 |succ i IH=>intro p;show((0:Nat):Int)+q*pe q (tJ i p)=_;rw[IH p,Oy,Kr (q^i) q,Tw];lia
theorem TT:∀{b:List Nat},(b.all λ y=>AG y 0)=Ab->pe q b=0:=@λ I0=>by
 induction I0 with
 |nil=>exact@λ _=>rfl
 |cons y b IH=>intro h;refine CJ h λ h1 h2=>?_;show(y:Int)+q*pe q b=0;rw[IH h2,Av h1];show(0:Int)+q*0=0;lia
theorem tO:∀{a b:List Nat},zT a b=Ab->pe q a=pe q b
:=@λ a=>by
 induction a with
 |nil=>exact@λ b h=>(TT h).symm
 |cons x a IH=>intro b h;induction b using Aq with
  |nil=>exact TT h
  |cons y b=>refine CJ h λ h1 h2=>?_;show(x:Int)+q*pe q a=y+q*pe q b;rw[IH h2,Av h1]
theorem kM:∀a:Nat,qn q (a+1)=1+q*qn q a:=λ I0=>by
 induction I0 with
 |zero=>rw[JV,Ox];show(0:Int)+1=1+q*0;lia
 |succ a IH=>
  have e:q*qn q (a+1)=q*qn q a+q*q^a:=by rw[JV,LM]
  rw[JV q (a+1),e,IH,Oy,Kr (q^a) q];exact Int.add_assoc 1 (q*qn q a) (q*q^a)
theorem TU:∀a:Nat,pe q (AD a 1)=qn q a:=λ I0=>by
 induction I0 with
 |zero=>exact rfl
 |succ a IH=>show((1:Nat):Int)+q*pe q (AD a 1)=_;rw[IH,kM];rfl
def WC(x i:Nat):Option Nat->List Nat
 |none=>AD (x+1) 1
 |some y=>bif Fz x y then tJ (i+1) (AD (x+1) 1) else AD (x+1) 1
noncomputable def rJ:List Nat->Nat->List Nat->List Nat
 |[],_,acc=>acc
 |x::r,i,acc=>rJ r (i+1) (PU acc (WC x i r.head?))
theorem bA(x i:Nat):∀o,pe q (WC x i o)=QQ q x i o
 |none=>by show pe q (AD (x+1) 1)=qn q (x+1)*1;rw[TU];exact Eq.symm (Int.mul_one (qn q (x+1)))
 |some y=>by
  show pe q (bif Fz x y then tJ (i+1) (AD (x+1) 1) else AD (x+1) 1)=qn q (x+1)*(if x<y then q^(i+1) else 1)
  by_cases h:x<y
  ·rw[if_pos h,show Fz x y=Ab from G7 h,cond_true,tN,TU,Kr]
  ·rw[if_neg h,show Fz x y=Ai from by cases q:Fz x y with
    |false=>rfl
    |true=>exact absurd (AN q) h,cond_false,TU];exact Eq.symm (Int.mul_one (qn q (x+1)))
theorem tM:∀(w:List Nat) (i:Nat) (acc:List Nat),pe q (rJ w i acc)=UK q w i (pe q acc):=λ I0=>by
 induction I0 with
 |nil=>exact λ _ _=>rfl
 |cons x r IH=>intro i acc;show pe q (rJ r (i+1) (PU acc (WC x i r.head?)))=UK q r (i+1) (pe q acc*QQ q x i r.head?);rw[IH,Sv,bA]
def iX(l:List (List Nat)):List Nat:=l.foldr (λ w acc=>Sw (rJ w 0 [1]) acc) []
theorem kU:∀l:List (List Nat),pe q (iX l)=FR (l.map λ w=>UK q w 0 1):=λ I0=>by
 induction I0 with
 |nil=>exact rfl
 |cons w l IH=>show pe q (Sw (rJ w 0 [1]) (iX l))=UK q w 0 1+FR (l.map λ w=>UK q w 0 1);rw[W9,IH,tM];show UK q w 0 (((1:Nat):Int)+q*0)+_=_;rw[Int.mul_zero];rfl
noncomputable def uL(q:Int):Nat->Int
 |0=>1
 |n+1=>uL q n*qn q (n+1)
noncomputable def uP:Nat->List Nat
 |0=>[1]
 |n+1=>PU (uP n) (AD (n+1) 1)
theorem zU:∀n,pe q (uP n)=uL q n:=λ I0=>by
 induction I0 with
 |zero=>show((1:Nat):Int)+q*0=1;lia
 |succ n IH=>show pe q (PU (uP n) (AD (n+1) 1))=uL q n*qn q (n+1);rw[Sv,IH,TU]
def yR(t:Int×Int×Int)(k:Nat):Nat:=Kk t k - Hd t k
def MV(q:Int)(t:Int×Int×Int):Int:=FR (K6.map λ k=>((Kk t k:Int) - Hd t k)*q^k)
theorem bB(c:Nat->Nat):∀n i:Nat,FR ((BZ i n).map λ k=>(c k:Int)*q^k)=q^i*pe q ((BZ i n).map c):=λ I0=>by
 induction I0 with
 |zero=>intro i;show(0:Int)=q^i*0;exact Eq.symm (Int.mul_zero (q^i))
 |succ n IH=>intro i;rw[Fm];show(c i:Int)*q^i+FR ((BZ (i+1) n).map λ k=>(c k:Int)*q^k)=q^i*(c i+q*pe q ((BZ (i+1) n).map c));rw[IH (i+1),LM,Oy,Kr (c i:Int),Tw]
theorem cD:(G6.all λ t=>zT (iX (D9 (Bk t) (Au t))) (PU (uP (Au t)) (K6.map (yR t))))=Ab:=by kernel_rfl
theorem mac{t:Int×Int×Int}(ht:t∈G6):FR ((D9 (Bk t) (Au t)).map λ w=>UK q w 0 1)=uL q (Au t)*MV q t:=by
 have h:=tO (q:=q) (Al.mp cD t ht);rw[kU,Sv,zU] at h;rw[h];have e:=bB (q:=q) (yR t) 6 0;rw[Ox,Zu] at e;have e2:MV q t=FR ((BZ 0 6).map λ k=>(yR t k:Int)*q^k):=by unfold MV;refine congrArg FR (HN λ k hk=>?_);have:=(Pu ht hk).b.lp;unfold yR;rw[Int.ofNat_sub this]
 rw[e2,e];rfl
theorem Yt(c:Int){ρ:Int}(h:ρ≠0):(0<=c.fmod ρ/\c.fmod ρ<ρ)\/(ρ<c.fmod ρ/\c.fmod ρ<=0):=by
 by_cases hp:0<ρ
 ·exact .inl ⟨BN c hp,Cn c hp⟩
 ·have h1:=BN (-c) (b:=-ρ) (by omega);have h2:=Cn (-c) (b:=-ρ) (by omega);rw[Int.neg_fmod_neg] at h1 h2;exact .inr ⟨by omega,by omega⟩
theorem aQ{r ρ:Int}(h:(0<=r/\r<ρ)\/(ρ<r/\r<=0)):r.natAbs<=ρ.natAbs:=by omega
theorem Tn{a b:Int}{n:Nat}(ha:a.natAbs<=2^n)(hb:b.natAbs<=2^n):(a+b).natAbs<=2^(n+1):=by rw[CX,Nat.mul_two];exact Ak (Jf a b) (Nat.add_le_add ha hb)
theorem kQ{q:Int}(h1:q≠1)(h2:q≠-1):∀a:Nat,q^(a+1)≠1:=λ a h=>by
 have e:=congrArg Int.natAbs h;rw[RP] at e;have e:=e;rcases CV q.natAbs 2 with hq|hq
 ·have:q.natAbs=0\/q.natAbs=1:=by lia
  rcases this with q0|q1
  ·rw[q0,Nat.zero_pow (Ow a)] at e;cases e
  ·lia
 ·exact absurd e (Fw (Nat.one_lt_pow (JO a) hq))
theorem tF{q:Int}(h2:q≠-1)(a:Nat):qn q (a+1)≠0:=λ h=>by
 by_cases h1:q=1
 ·rw[h1,W0] at h;omega
 ·have e:=W3 q (a+1);rw[h,Int.mul_zero] at e;exact kQ h1 h2 a (by lia)
theorem rR{q:Int}(h2:q≠-1):∀n,uL q n≠0:=λ I0=>by
 induction I0 with
 |zero=>show(1:Int)≠0;decide
 |succ n IH=>exact Int.mul_ne_zero (IH) (tF h2 n)
noncomputable def tri:Nat->Nat
 |0=>0
 |n+1=>tri n+(n+1)
theorem Ws{q:Int}{M:Nat}(hM:1<=M)(h:q.natAbs<2^M):∀n,(uL q n).natAbs<=2^(M*tri n):=λ I0=>by
 induction I0 with
 |zero=>exact M1
 |succ n IH=>show(uL q n*qn q (n+1)).natAbs<=2^(M*(tri n+(n+1)));rw[Fh];exact Ht (IH) (W4 hM h _)
theorem T9{N:Nat}:∀{l:List Int},(∀x∈l,x.natAbs<=N)->(FR l).natAbs<=l.length*N:=@λ I0=>by
 induction I0 with
 |nil=>exact@λ _=>Bj _
 |cons x l IH=>intro h;have h1:=h x (.head _);have h2:=IH λ y hy=>h y (.tail _ hy);have h3:=Jf x (FR l);show(x+FR l).natAbs<=(l.length+1)*N;rw[GF];lia
theorem iU:∀z∈R7,tri z<=21/\(z<=3->tri z<=6):=OP (by decide) (by decide) (by decide) (by decide) (by decide) (by decide) (by decide)
section
variable{X:Lw}{t:Int×Int×Int}{m a b c e f:LV}{sh it:V}{l:List Nat}{p q:LV}{Q:Int}
theorem YU(ht:t∈G6)(hl:(KF t).length<=20){k:Nat}(hk:k∈K6):((Kk t k:Int) - Hd t k).natAbs<=2^5:=by
 have E:=Pu ht hk;have h1:=E.b.lp;have h2:=E.b.ph
 omega
theorem qB(ht:t∈G6)(hl:(KF t).length<=20)(hq:Q.natAbs<2^MQ):(MV Q t).natAbs<=2^26638:=by
 have h:=T9 λ x hx=>by
  obtain⟨k,hk,rfl⟩:=List.mem_map.mp hx;have h5:k<=5:=by
   have:∀k∈K6,k<=5:=by decide
   exact this k hk
  exact Ht (YU ht hl hk) (Ak (HB hq k) (CE (Bf _ h5)))
 refine Ak h ?_;show 6*2^(5+MQ*5)<=2^26638;rw[show(26638:Nat)=3+(5+MQ*5) from rfl,CF 2 3];exact BK _ (by decide)
noncomputable abbrev Lw.at10(X:Lw)(v:LV):Lw:={X with x10:=v}
abbrev FH(X:Lw)(t:Int×Int×Int)(m a b c e f:LV)(d:Nat)(sh it:V)(l:List Nat)(p q:LV)(ys:List LV):AQ:=FG X t m a b c e f d sh it l p q (.w (PO t)::.w (Tj t)::.w (YE t)::ys)
theorem Z4(ht:t∈G6)(hl:(KF t).length<=20)(hq:Q.natAbs<2^MQ)(h9:X.x9=.w (.int Q)):CD (GL 12) 64 (C1 34 A4) (FH X t m a b c e f d sh it l p q [])=Aa (.next,FH X t m a b c e f d sh it l p q [.w (.int 1),.w (.int (MV Q t))]):=by
 have c72:ev (GL 12) (.comp [72] (.one 72) (.r (.c (.int 6))) .nil (.o2 .mul (.o2 .sub (.o2 .i (.v 34) (.v 72)) (.o2 .i (.v 33) (.v 72))) (.o2 .pow (.v 9) (.v 72)))) (FH X t m a b c e f d sh it l p q [])=Aa (.list ((K6.map λ k=>((Kk t k:Int) - Hd t k)*Q^k).map .int)):=by
  refine DK WW rfl ?_ (IL rfl);rw[BF];refine DV λ k hk=>?_;have k6:k<=6:=by
   have:∀k∈K6,k<=6:=by decide
   exact this k hk
  have e9:rd (wr (Du [72] (FH X t m a b c e f d sh it l p q [])) 72 (L k)) 9=.w (.int Q):=(show _=X.x9 by kernel_rfl).trans h9;refine DD (AO (AO (AO (x:=Tj t) rfl rfl (pY hk)) (AO (x:=PO t) rfl rfl (pY hk)) rfl) (AO (congrArg Bv e9) rfl (gF hq k6)) (NO (n:=40000) (Cq (YU ht hl hk) (by decide)) (Cq (Ak (HB hq k) (CE (Bf _ k6))) (by decide)) (by decide)))
 refine QT (vs:=[.int 1,.int (MV Q t)]) (AC rfl (AC (H4 c72 ?_) BW)) rfl;show(PM ((K6.map λ k=>((Kk t k:Int) - Hd t k)*Q^k).map .int)).map V.int=_;rw[Ld];rfl
theorem in35(ht:t∈G6)(hq:Q.natAbs<2^MQ)(h11:X.x11=.w (II (Au t) Q)){A:LV}:∀(r k:Nat) (x10:LV),k+r<=Au t->∃y10,B7 (.one 10) (Bw (GL 12) 64 (.cons (.aug 36 .mul (.o2 .i (.v 11) (.v 10))) .nil)) ((BZ k r).map I) (FH (X.at10 x10) t m a b c e f d sh it l p q [.w (.int (uL Q k)),A])=Aa (.next,FH (X.at10 y10) t m a b c e f d sh it l p q [.w (.int (uL Q (k+r))),A]):=λ I0=>by
 induction I0 with
 |zero=>exact λ k x10 _=>⟨x10,rfl⟩
 |succ r IH=>
  intro k x10 hk;have z7:=Em t ht;have z6:=Xx z7;obtain⟨y10,ih⟩:=IH (k+1) (L k) (by omega);rw[show k+1+r=k+(r+1) by lia] at ih;refine⟨y10,?_⟩;rw[Fm];have e11:rd (FH (X.at10 (L k)) t m a b c e f d sh it l p q [.w (.int (uL Q k)),A]) 11=.w (II (Au t) Q):=(show _=X.x11 by kernel_rfl).trans h11;have hu:=Ws (by decide) hq k;have ht2:tri k<=21:=by
   have:∀k:Nat,k<=6->tri k<=21:=by decide
   exact this k (by lia)
  have hn:=W4 (by decide) hq (k+1);refine Eg (U'1:=FH (X.at10 (L k)) t m a b c e f d sh it l p q [.w (.int (uL Q k)),A]) rfl (Ap ?_ rfl) ih;have s:=HT (G:=GL 12) (F:=64) (i:=36) rfl rfl (AO (a:=.v 11) (b:=.v 10) (congrArg Bv e11) rfl (TZ z7 (by lia))) (NO (n:=200000) (Cq (Ak hu (CE (Bf _ ht2))) (by decide)) (Cq (Ak hn (CE (Bf _ (by lia:k+1<=6)))) (by decide)) (by decide));rw[s];exact congrArg (λ x=>Aa (Fl.next,x)) rfl
theorem Z3(ht:t∈G6)(hq:Q.natAbs<2^MQ)(h11:X.x11=.w (II (Au t) Q)){A:LV}:∃y10,CD (GL 12) 64 (C1 35 A4) (FH X t m a b c e f d sh it l p q [.w (.int 1),A])=Aa (.next,FH (X.at10 y10) t m a b c e f d sh it l p q [.w (.int (uL Q (Au t))),A]):=by obtain⟨y10,h⟩:=in35 ht hq h11 (Au t) 0 X.x10 (by lia);rw[CW] at h;refine⟨y10,Jv (JU rfl (aS _ (Em t ht))) h⟩
theorem Z2(ht:t∈G6)(hd:d<24)(hq:Q.natAbs<2^MQ)(h8:X.x8=.w (CL d))(h9:X.x9=.w (.int Q))(h11:X.x11=.w (II (Au t) Q)){A ρ:LV}:CD (GL 12) 64 (C1 36 A4) (FH X t m a b c e f d sh it l p q [ρ,A])=Aa (.next,FH X t m a b c e f d sh it l p q [ρ,A,.w (.int (uL Q (Au t)*MV Q t))]):=by
 have z7:=Em t ht;have wlen:=LX ht;have c73:ev (GL 12) (.comp [73] (.one 73) (.ex (.v 23)) .nil (.call 198 (.cons (.v 73) (.cons (.v 8) (.cons (.v 11) (.cons (.v 9) .nil)))) Ae)) (FH X t m a b c e f d sh it l p q [ρ,A])=Aa (.list (((D9 (Bk t) (Au t)).map λ w=>UK Q w 0 1).map .int)):=by refine DK (QH (v:=wl d (D9 (Bk t) (Au t))) rfl rfl) rfl ?_ (by rw[Ag,Ag];exact Ak wlen (by decide));rw[BF];refine DV λ w hw=>?_;have ws:=KG ht hw;have e8:rd (wr (Du [73] (FH X t m a b c e f d sh it l p q [ρ,A])) 73 (.w (wd d w))) 8=.w (CL d):=(show _=X.x8 by kernel_rfl).trans h8;have e9:rd (wr (Du [73] (FH X t m a b c e f d sh it l p q [ρ,A])) 73 (.w (wd d w))) 9=.w (.int Q):=(show _=X.x9 by kernel_rfl).trans h9;have e11:rd (wr (Du [73] (FH X t m a b c e f d sh it l p q [ρ,A])) 73 (.w (wd d w))) 11=.w (II (Au t) Q):=(show _=X.x11 by kernel_rfl).trans h11;exact DD (CB (AC rfl (AC (congrArg Bv e8) (AC (congrArg Bv e11) (AC (congrArg Bv e9) BW)))) (c198 z7 hd hq ws.1 ws.2))
 have s:=Cc (F:=64) (i:=38) (H4 (o:=.sum) c73 (by show(PM (((D9 (Bk t) (Au t)).map λ w=>UK Q w 0 1).map .int)).map V.int=_;rw[Ld,mac ht];rfl))
 exact s.trans (congrArg (λ x=>Aa (Fl.next,x)) rfl)
theorem Z1(ht:t∈G6)(hl:(KF t).length<=20)(hq:Q.natAbs<2^MQ)(hq4:4<=Au t->Q.natAbs<2^600)(hq1:Q≠-1)(h3:X.c3.natAbs<2^4000):∃U',Bw (GL 12) 64 (Gn 37 A4) (FH X t m a b c e f d sh it l p q [.w (.int (uL Q (Au t))),.w (.int (MV Q t)),.w (.int (uL Q (Au t)*MV Q t))])=Aa (.ret (.bool Ab),U'):=by
 have z7:=Em t ht;have hU:=rR hq1 (Au t);have ub:(uL Q (Au t)).natAbs<=2^31956:=by
  have ht:=iU (Au t) z7
  by_cases h4:4<=Au t
  ·exact Ak (Ws (by decide) (hq4 h4) _) (CE (Ak (Bf 600 ht.1) (by decide)))
  ·exact Ak (Ws (by decide) hq _) (CE (Bf MQ (ht.2 (by lia))))
 have ab:=qB ht hl hq;have wb:=Ht ub ab;generalize uL Q (Au t)=ρ at*;generalize MV Q t=A at*;have hr:=Yt X.c3 hU;have ed:Cj .mod (.int X.c3) (.int ρ)=Aa (.int (X.c3.fmod ρ)):=by exact if_pos ⟨hU,NJ (Ak (Fj h3) (DU _ _))⟩
 generalize X.c3.fmod ρ=r at*;have rb:=Ak (aQ hr) ub;have ws:(ρ*A+r).natAbs<2^100000:=Cq (Tn wb (Ak rb (CE (by decide)))) (by decide);have dm:=hI (j:=11) (by decide) ⟨Int.natAbs_pos.mpr hU,Fj (Cq ub (by decide)),Fj ws⟩ ⟨rfl,hr⟩;have em:ev (GL 12) (.o2 .mod (.o2 .i (.v 3) (.c (.int 3))) (.v 36)) (FH X t m a b c e f d sh it l p q [.w (.int ρ),.w (.int A),.w (.int (ρ*A))])=Aa (.int r):=AO (ix3 X rfl) rfl ed;have ec:=CB (AC (AO (a:=.v 38) rfl em (Oo _ _)) (AC (e:=.v 36) rfl BW)) dm;have et:ev (GL 12) (.o2 .eq (.call 84 (.cons (.o2 .a (.v 38) (.o2 .mod (.o2 .i (.v 3) (.c (.int 3))) (.v 36))) (.cons (.v 36) .nil)) Ae) (.tup (.cons (.v 37) (.cons (.o2 .mod (.o2 .i (.v 3) (.c (.int 3))) (.v 36)) .nil)))) (FH X t m a b c e f d sh it l p q [.w (.int ρ),.w (.int A),.w (.int (ρ*A))])=Aa (.bool Ab):=by refine AO ec (O4 (AC (v:=.int A) rfl (AC em BW))) ?_;show Aa (V.bool ((A==A)&&((r==r)&&Ab)))=_;rw[beq_self_eq_true,beq_self_eq_true];rfl
 have s37:CD (GL 12) 64 (C1 37 A4) (FH X t m a b c e f d sh it l p q [.w (.int ρ),.w (.int A),.w (.int (ρ*A))])=Aa (.ret (.bool Ab),FH X t m a b c e f d sh it l p q [.w (.int ρ),.w (.int A),.w (.int (ρ*A))]):=En et;exact⟨_,Dd s37⟩
end
theorem jU:∀t∈G6,TI t=(Au t:Nat):=by decide+kernel
theorem eS{ns:List Int}(h:ns.length<64)(b k:Int)(hb:b.natAbs<=100):(cell ns b k).natAbs<2^4000:=by
 have hd:=Pi h;have h1:=T9 (N:=5040) (l:=EA (Gv ns) (Aa k) Ae (Aa 4)) λ x hx=>by
  obtain⟨i,_,hi⟩:=List.mem_filterMap.mp hx;obtain⟨y,_,rfl⟩:=List.mem_map.mp (Bi hi);have a1:=BN y (b:=5040) (by decide);have a2:=Cn y (b:=5040) (by decide)
  omega
 have h2:=Im (Gv ns) (Aa k) Ae (Aa 4);have h3:=Jf b (FR (EA (Gv ns) (Aa k) Ae (Aa 4)));have h4:(EA (Gv ns) (Aa k) Ae (Aa 4)).length*5040<=64*5040:=BK _ (by omega);have h5:(cell ns b k).natAbs<=2^20:=by
  show(b+FR (EA (Gv ns) (Aa k) Ae (Aa 4))).natAbs<=_;have:64*5040+100<=2^20:=by decide
  omega
 exact Cq h5 (by decide)
theorem lr{ns:List Int}(hl:ns.length<64){c0 c1 c2 c3:Int}(hc0:cell ns 9 0=c0)(hc1:cell ns 23 1=c1)(hc2:cell ns 0 2=c2)(hc3:cell ns 5 3=c3)(b3:c3.natAbs<2^4000){t:Int×Int×Int}(et:zB c0=t)(ht:t∈G6){d:Nat}(hd:d<24)(ed:c3.fmod 24=d){Q:Int}(hQ:qF c1 (Au t:Nat)=Q){x0 x1 x4 x5:LV}(hx0:LV.w (.list (ns.map .int))=x0)(hx1:LV.w (.list ((Gv ns).map .int))=x1)(hx4:LV.w (il (code t))=x4)(hx5:LV.w (il (U2 (code t) [1,2,3,4]).2)=x5)
  {X:Lw} (hX:X=⟨x0,x1,.w E4,x4,x5,.w (CL d),.w (.int Q),.u,.w (II (Au t) Q),c0,c1,c2,c3⟩) {l:List Nat} (el:Qd (Bk t) (Au t) (M3 X (Au t))=l):Oq ns:=by
 have s0:=jO (G:=GL 12) (F:=64) hl;have s1:=jN (G:=GL 12) (F:=64) (ns:=ns);have hq:=tH c1 (TI t);have eA:ρA ns=[x0,x1,.w E4,.w (EL c0 c1 c2 c3)]++AD 70 .u:=by rw[<-hx0,<-hx1,<-hc0,<-hc1,<-hc2,<-hc3];kernel_rfl
 have s2:=jM (G:=GL 12) (F:=64) x0 x1 (.w E4) c0 c1 c2 c3;rw[et] at s2;have s3:=jL (G:=GL 12) (F:=64) x0 x1 (.w E4) (.w (EL c0 c1 c2 c3)) t ht;have ez:=jU _ ht;have z7:=Em t ht;rw[ez,hQ] at hq;have s6:=jK (G:=GL 12) (F:=64) x0 x1 (.w E4) c0 c1 c2 c3 d x4 x5 (.w (il (Bk t))) (L (Au t)) hd ed;have eB:ρB x0 x1 (.w E4) (.w (EL c0 c1 c2 c3)) t=ρD x0 x1 (.w E4) (.w (EL c0 c1 c2 c3)) x4 x5 (.w (il (Bk t))) (L (Au t)):=by unfold ρB;rw[ez,hx4,hx5];kernel_rfl
 rw[eB] at s3;rw[eA] at s1;rw[hx4] at s2 s3;have e1:Bw (GL 12) 64 (Jp 9 A4) (ρ0 ns)=Aa (.next,ρ9 x0 x1 (.w E4) (.w (EL c0 c1 c2 c3)) x4 x5 (.w (il (Bk t))) (Au t) (.w (CL d)) Q .u):=by have e9:Jp 9 A4=.cons (C1 0 A4) (.cons (C1 1 A4) (.cons (C1 2 A4) (Jp 6 (Gn 3 A4)))):=rfl;have e3:Jp 3 (Jp 6 (Gn 3 A4))=Jp 3 (Gn 3 A4):=rfl;have e6:Gn 3 (Jp 6 (Gn 3 A4))=.cons (C1 6 A4) (.cons (C1 7 A4) (.cons (C1 8 A4) .nil)):=rfl;rw[e9];refine Ap s0 (Ap s1 (Ap s2 (Gu (n:=3) (by rw[e3];exact s3) ?_)));rw[e6];refine Ap s6 (Ap (jJ (c1:=c1) rfl) (Ap (jI (c1:=c1) (size:=(Au t:Nat)) rfl rfl rfl) ?_));rw[hQ];kernel_rfl
 obtain⟨ρi,hρi,h2⟩:=jH (x0:=x0) (x1:=x1) (x2:=.w E4) (x3:=.w (EL c0 c1 c2 c3)) (x4:=x4) (x5:=x5) (x6:=.w (il (Bk t))) (x8:=.w (CL d)) z7 hq.big;rw[<-hρi] at e1;have h8:X.x8=.w (CL d):=by rw[hX]
 have h9:X.x9=.w (.int Q):=by rw[hX]
 have h11:X.x11=.w (II (Au t) Q):=by rw[hX]
 have hc:X.c3=c3:=by rw[hX]
 have hlet:X.let d=X:=by rw[hX]
 have eX:ρ9 x0 x1 (.w E4) (.w (EL c0 c1 c2 c3)) x4 x5 (.w (il (Bk t))) (Au t) (.w (CL d)) Q (.w (II (Au t) Q))=fr [x0,x1,.w E4,.w (EL c0 c1 c2 c3),x4,x5,.w (il (Bk t)),L (Au t),.w (CL d),.w (.int Q),.u,.w (II (Au t) Q)]:=rfl;have sA:=jG (x0:=x0) (x1:=x1) (x2:=.w E4) (x3:=.w (EL c0 c1 c2 c3)) (x4:=x4) (x5:=x5) (x6:=.w (il (Bk t))) (x8:=.w (CL d)) (x9:=.w (.int Q)) (x10:=.u) (q:=Q) (Au t) z7;rw[<-eX] at sA;have eF:fr [x0,x1,.w E4,.w (EL c0 c1 c2 c3),x4,x5,.w (il (Bk t)),L (Au t),.w (CL d),.w (.int Q),.u,.w (II (Au t) Q),.w (bn DW),.w (bn Nw),.w (Le (Au t)),L 5,.w (KN (Au t))]=FA X (Bk t) (Au t) []:=by rw[hX];kernel_rfl
 rw[eF] at sA;have s15:=aD (G:=GL 12) (F:=64) (X:=X) (g:=Bk t) z7;refine jF (X:=X) ht rfl rfl λ a b c e f sB=>?_;have s20:=congrFun (congrFun (congrFun (congrFun (congrFun (congrFun (congrFun (Zw aL t ht) X) d) a) b) c) e) f;rw[hlet] at s20;have s21:=aC (X:=X) (g:=Bk t) z7 (a:=a) (b:=b) (c:=c) (e:=e) (f:=f) (h:=.w (wl d (D9 (Bk t) (Au t)))) (i:=.w (wl d (Bz (Au t)))) (j:=.x []);obtain⟨m,s22⟩:=aB (X:=X) (a:=a) (b:=b) (c:=c) (e:=e) (f:=f) ht rfl rfl hd;have h3:Bw (GL 12) 64 (Jp 14 (Gn 10 A4)) (ρ9 x0 x1 (.w E4) (.w (EL c0 c1 c2 c3)) x4 x5 (.w (il (Bk t))) (Au t) (.w (CL d)) Q (.w (II (Au t) Q)))=Aa (.next,FO X (Bk t) (Au t) m a b c e f d (.w (HD (Au t) (M3 X (Au t)))) (.w (Eh (Au t) (rZ X (Au t))))):=by have k1:Jp 5 (Jp 14 (Gn 10 A4))=Jp 5 (Gn 10 A4):=rfl;have k2:Gn 5 (Jp 14 (Gn 10 A4))=.cons (C1 15 A4) (Jp 8 (Gn 16 A4)):=rfl;have k3:Jp 4 (Jp 8 (Gn 16 A4))=Jp 4 (Gn 16 A4):=rfl;have k4:Gn 4 (Jp 8 (Gn 16 A4))=.cons (C1 20 A4) (.cons (C1 21 A4) (Jp 2 (Gn 22 A4))):=rfl;refine Gu (n:=5) (by rw[k1];exact sA) ?_;rw[k2];refine Ap s15 (Gu (n:=4) (by rw[k3];exact sB) ?_);rw[k4];exact Ap s20 (Ap s21 s22)
 have hS:=(fY (X.c3.fmod 2==0) z7 (TR (X:=X) z7)).2;have hS:Sh (Au t) (M3 X (Au t)):=hS;have hln:=P0 (Au t) z7;have h6:=aA (X:=X) (d:=d) (g:=Bk t) (a:=a) (b:=b) (c:=c) (e:=e) (f:=f) z7 (m:=m);have D:Dr t (Qd (Bk t) (Au t) (M3 X (Au t))):=wJ (X:=X) ht;have l20:(Qd (Bk t) (Au t) (M3 X (Au t))).length<=20:=Ak (ET _ _) (by rw[hS.len];exact FK (Au t) z7);have w20:(KF t).length<=20:=by rw[<-L7 D];exact l20
 have hlt:∀n∈Qd (Bk t) (Au t) (M3 X (Au t)),n<De (Au t):=λ n hn=>hS.lt n (List.mem_filter.mp hn).1;have s25:=Z9 (X:=X) (d:=d) (m:=m) (a:=a) (b:=b) (c:=c) (e:=e) (f:=f) (it:=Eh (Au t) (rZ X (Au t))) ht rfl rfl hS;have s26:=Z8 (X:=X) (d:=d) (m:=m) (a:=a) (b:=b) (c:=c) (e:=e) (f:=f) (it:=Eh (Au t) (rZ X (Au t))) ht rfl rfl hS hd;rw[hlet,el] at s25;delta FF at s26;rw[hlet,el] at s26;rw[el] at l20 hlt D;have s27:=Z7 (X:=X) (d:=d) (m:=m) (a:=a) (b:=b) (c:=c) (e:=e) (f:=f) (sh:=HD (Au t) (M3 X (Au t))) (it:=Eh (Au t) (rZ X (Au t))) (p:=.w (wd d DW)) (q:=.w (wl d (EJ X (Bk t) (Au t)))) ht l20 hlt D;have s28:=Z6 (X:=X) (d:=d) (m:=m) (a:=a) (b:=b) (c:=c) (e:=e) (f:=f) (sh:=HD (Au t) (M3 X (Au t))) (it:=Eh (Au t) (rZ X (Au t))) (p:=.w (wd d DW)) (q:=.w (wl d (EJ X (Bk t) (Au t)))) ht (o:=.w (HD (Au t) l));have s30:=Z5 (X:=X) (d:=d) (m:=m) (a:=a) (b:=b) (c:=c) (e:=e) (f:=f) (sh:=HD (Au t) (M3 X (Au t))) (it:=Eh (Au t) (rZ X (Au t))) (p:=.w (wd d DW)) (q:=.w (wl d (EJ X (Bk t) (Au t)))) ht l20 D;have s34:=Z4 (X:=X) (d:=d) (m:=m) (a:=a) (b:=b) (c:=c) (e:=e) (f:=f) (sh:=HD (Au t) (M3 X (Au t))) (it:=Eh (Au t) (rZ X (Au t))) (p:=.w (wd d DW)) (q:=.w (wl d (EJ X (Bk t) (Au t)))) (l:=l) ht w20 hq.big h9;obtain⟨y10,s35⟩:=Z3 (X:=X) (d:=d) (m:=m) (a:=a) (b:=b) (c:=c) (e:=e) (f:=f) (sh:=HD (Au t) (M3 X (Au t))) (it:=Eh (Au t) (rZ X (Au t))) (p:=.w (wd d DW)) (q:=.w (wl d (EJ X (Bk t) (Au t)))) (l:=l) ht hq.big h11 (A:=.w (.int (MV Q t)));have s36:=Z2 (X:=X.at10 y10) (d:=d) (m:=m) (a:=a) (b:=b) (c:=c) (e:=e) (f:=f) (sh:=HD (Au t) (M3 X (Au t))) (it:=Eh (Au t) (rZ X (Au t))) (p:=.w (wd d DW)) (q:=.w (wl d (EJ X (Bk t) (Au t)))) (l:=l) ht hd hq.big h8 h9 h11 (A:=.w (.int (MV Q t))) (ρ:=.w (.int (uL Q (Au t))));obtain⟨ρe,s37⟩:=Z1 (X:=X.at10 y10) (d:=d) (m:=m) (a:=a) (b:=b) (c:=c) (e:=e) (f:=f) (sh:=HD (Au t) (M3 X (Au t))) (it:=Eh (Au t) (rZ X (Au t))) (p:=.w (wd d DW)) (q:=.w (wl d (EJ X (Bk t) (Au t)))) (l:=l) ht w20 hq.big (λ h=>hq.small (by omega)) hq.ne (by show X.c3.natAbs<_;rw[hc];exact b3);have h7:Bw (GL 12) 64 (Gn 25 A4) (FO X (Bk t) (Au t) m a b c e f d (.w (HD (Au t) (M3 X (Au t)))) (.w (Eh (Au t) (rZ X (Au t)))))=Aa (.ret (.bool Ab),ρe):=by have k1:Gn 25 A4=.cons (C1 25 A4) (.cons (C1 26 A4) (.cons (C1 27 A4) (Gn 28 A4))):=rfl;have k2:Gn 2 (Gn 28 A4)=Gn 30 A4:=rfl;have k3:Gn 4 (Gn 30 A4)=.cons (C1 34 A4) (.cons (C1 35 A4) (.cons (C1 36 A4) (Gn 37 A4))):=rfl;rw[k1];refine Ap s25 (Ap s26 (Ap s27 (Gu (n:=2) s28 ?_)));rw[k2];refine Gu (n:=4) s30 ?_;rw[k3];exact Ap s34 (Ap s35 (Ap s36 s37))
 have h25:rd (FO X (Bk t) (Au t) m a b c e f d (.w (HD (Au t) (M3 X (Au t)))) (.w (Eh (Au t) (rZ X (Au t))))) 25=.w (.list ((M3 X (Au t)).map (Bs (Au t)))):=rfl;have hne:0<((M3 X (Au t)).map (Bs (Au t))).length:=by rw[Ag,hS.len];exact hln
 exact .mk ρi _ _ ρe _ _ e1 h2 h3 h25 (Ar hne) h6 h7
theorem cO{ns:List Int}(hl:ns.length<64):Oq ns:=
 have a1:=BN (cell ns 5 3) (b:=24) (by decide)
 lr hl rfl rfl rfl rfl (eS hl 5 3 (by decide)) rfl (ZT _) (d:=((cell ns 5 3).fmod 24).toNat) ((Int.toNat_lt a1).mpr (Cn _ (by decide))) (H1 a1).symm rfl rfl rfl rfl rfl rfl rfl
theorem row_holds:M4.Holds:=XX λ z h=>cO h
end
end Internal
theorem PySem.Challenge.cw_ta0089_01_holds : PySem.Challenge.rw_ta0089_01.Holds := by
  exact Internal.row_holds
