import PyProof.Rows.All
import Wide.All
import OpenK.AllK
import Wide.FinOn
import Open.Tops
import PyProof.ListIndex
import PyProof.Draws
import PyProof.EnumMake
import PyProof.P3Eq
import PyProof.NeData
import PyProof.ExcFactsAll.ValueError
import PyProof.ExcStrAll.ValueError
import PyProof.GenCompT
import PyProof.InstStoreFacts
import PyProof.IsiH_list
import PyProof.ListRange
import PyProof.NsDelKeeps
import PyProof.Rows.Tup
import PyProof.Rows.TupSub
import PyProof.Rows.GenFrame
import PyProof.ZipIter
import PyProof.WalksPairs
import PyProof.Rows.DictMethods
import PyProof.Rows.CatchStr
import PyProof.Rows.Chain
import PyProof.Rows.ListMul
import PyProof.Rows.ListMulCarried
import PyProof.Rows.RuleIs
import PyProof.Rows.TupMore
import PyProof.Rows.SumGenD
import PyProof.SumAny
import PyProof.Rows.SeqItemCall
import PyProof.Rows.SortStr
import KE.KFromBytes
import KE.KSortTup
import KE.KSuper
import Lean
import PySem.Challenge.RW_wc0021_03
set_option Elab.async false
set_option linter.all false
set_option maxRecDepth 100000
set_option genInjectivity false
set_option genSizeOf false
set_option bootstrap.genMatcherCode false
open PySem renaming wpAny_bind→aa, Params→ae, Value→af, wpAny_pure→ag, Shared→aq, wpAny→ay, wpAny_holding→aX, model→aZ, strIterType→bw, DictEntry→bz, sizeLine→bC, compareOp→bO, BindsTo→bW, recursionLimit→b9, Around→b_, Comprehension→cg, FuncData→cm, OsState→cN, wpAny_call_entry→cP, wpAny_of_eq→cT, wpAny_field→cU, Builtin→de, wpAny_mono→df, World→dj, runN→dF, wpAny_standAt→dQ, wpAny_newObj_type→dR, isInstance→dU, Program→dW, rawInt→d5, wpAny_callSpecial?_slot→eX, wpAny_rule→eZ, letOwnedTupleGo→fc, starEach→fq, binaryOp→ft, mainGlobals→fG, wpAny_loadPart→fM, pyIter→fN, checkBoundCall→fO, standAt→fR, Model→fX, wpAny_truthy_bool→gb, foldedSetIterable→gd, wpAny_execs_cons→gD, table→gJ, sizeLine_eq→gK, typeIs_str→gN, call_meets→gT, codeAmong→h_, assign→ik, getItem→iq, wpAny_seqItems→iF, wpAny_loadName_local→iG, wpAny_call→iH, subscripted→iI, Scope→iK, strKind→iL, wpAny_isInstance→iX, holding→iY, getMethod→iZ, execs→jr, wpAny_setField_rec→jF, typeLookup→jG, pyNext→jJ, seqIndex?→jQ, mainNs→kf, denote→kh, compTurn→ki, backTo→kj, PyData→km, wpAny_attempt→k7, plainId_quiet→k9, callSpecialIfBoundUnlessNone?→lb, builtinKind→lh, slot_listiter_next→mu, ks_wpAt_execs_cons→mD
open List renaming length_map→aj, range→az, getD_eq_getElem?_getD→aB, length_append→aC, getElem?_eq_getElem→aD, replicate→aI, lookup_cons→aR, map_append→aY, append_assoc→a7, map_cons→ba, map_map→bq, getElem?_map→br, length_range→bU, append_nil→bV, length_cons→cq, getElem?_toArray→cH, forIn_cons→c8, range_succ→dm, size_toArray→dJ, map_congr_left→dN, getElem_mem→fm, cons_append→fo, take_append_drop→fE, filterMap_cons_some→fY, filterMap_cons_none→fZ, eraseIdx_eq_take_drop_succ→f7, getElem?_range→gh, take_of_length_le→gC, reverse_cons→gU, foldl_append→gV, flatten_cons→gW, drop_drop→ib, reverse_append→iD, length_reverse→iE, length_nil→i4, drop→jk, toArray→jA, push_toArray→jB, length_drop→j8, map_take→kq, lookup→kA, append_toArray→kZ, foldlM_append→lB, filter_append→lC, getElem?_eq_none_iff→lW, filter_cons_of_pos→mV, filter_cons_of_neg→mW
open Nat renaming le_trans→ak, lt_of_lt_of_le→aA, le_refl→aG, eq_of_beq_eq_true→aO, beq→aU, zero_le→aW, blt→a9, le_of_ble_eq_true→a_, lt_of_le_of_lt→bc, lt_succ_self→bg, le_add_right→bj, add_right_comm→bG, le_of_eq→bK, beq_refl→bL, le_of_lt→bY, le_of_succ_le→cw, succ→cQ, ne_of_lt→cR, ble→dv, succ_le_succ→d8, lt_irrefl→ew, lt_succ_of_lt→eI, zero_add→fh, add_le_add_left→gk, add_le_add→gu, le_of_succ_le_succ→gF, not_succ_le_zero→il, le_succ→ip, lt_trans→iA, lt_or_ge→iB, le_of_not_lt→iC, lt_of_succ_lt_succ→jN, zero_lt_succ→kn, add_assoc→kz, sub_lt_left_of_lt_add→mj, add_sub_cancel_left→m5
open PySem.Heap renaming get?_push_of_some→aw, get?_push_size→aM, lt_size→bJ, get?_update_self→fF, size_push→ie
open PySem.Str renaming ofString→aE, empty→gL
open Bool renaming false_ne_true→aJ, and_eq_true→aK, false_eq_true→d4, eq_false_iff→gX, not_eq_true'→jD
open Int renaming natCast_nonneg→aP, le_trans→aQ, le_refl→bD, fmod_nonneg_of_pos→bS, eq_ofNat_of_zero_le→cu, fmod_lt_of_pos→c9, toNat_natCast→eK, toNat_of_nonneg→eV, lt_trans→fj, le_of_lt→fW, natCast_add→i8, lt_of_lt_of_le→jl, ofNat→kr, fdiv_eq_ediv_of_nonneg→lT
open Option.some renaming inj→a8
open Pure renaming pure→bA
open Option renaming none→bB, bind_some→ia
open PySem.F renaming plainAttrs_list→bI, plainAttrs_str→dB, slot_str_join→fk, plain_extend_loop→fC, slot_list_insert→fP, slot_list_append→fQ, slot_str_split→ji, slot_zip_next→jz, slot_list_extend→lO, args_str_split_2→lR, entry_str_split→mi
open PySem.Builtin.Range renaming rangeSize→bT, small→d_
open PySem.Value renaming type→bX, ref→bZ, isInt→eY, none→i3
open PySem.W renaming kp_binds→cj, looks_findIn→eF, Looks→eO, findIn→fx, topFrame→gY, emptyDict→hZ, SharedT→ir, looks_mroIn→jR
open PySem.Obj renaming mapSeq→cA, putName→kH
open PySem.Builtin.List renaming listFitsIndex→cK
open ForInStep renaming yield→dD
open Array renaming length_toList→dM, getD_eq_getD_getElem?→k6
open PySem.Builtin.SmallTypes renaming ownedTupleIsFree→d2, nextOf→jC, ownedTupleHandOut→lD
open PySem.Builtin.Str renaming occurrences→d3, strKind→fK, tooLong→jW, strSliceIndices→j6
open PySem.Manifest renaming signature?→eB
open PySem.Heap.SameBut renaming update→fI
open PyProof.Rows renaming isTrue_and→fJ, seqObj→gP, subscriptTail→jq, MethodCall_→kI, listUpdate_at→k_
open PySem.PyData renaming keyHash→f_, strOk→gv, eqv→iU
open PySem.Heap.Ns renaming of_isNs→gA
open PySem.Calls renaming callWith_builtin→gB, loadGlobal_builtin→iM, spliced_cons→i5, callWith_function→i_, spliced_nil→ju, loadGlobal_global→mJ
open PySem.Sem renaming wp_mono→jo
open PySem.Bind renaming checkArgs→jE
open PySem.Around renaming under_plainId→j9
open PySem.W.WShape renaming hasItems→ky
open PySem PySem.W PyProof.Rows
namespace Mine
section
set_option linter.all false
theorem oa{i j:Int}(h0:0<=i)(h:i<=j):i.toNat+(j-i).toNat=j.toNat:=by
 rw[←Int.toNat_add h0 (Int.sub_nonneg.mpr h)];congr 1;exact(Int.add_comm _ _).trans (Int.sub_add_cancel j i)
theorem qz{i:Int}{n:Nat}(h0:0<=i)(h:i<n):i.toNat<n:=(Int.toNat_lt h0).mpr h
theorem w_(a n:Nat):min a n+1+(n-a)<=n+1+n:=gu (d8 (Nat.min_le_right _ _)) (Nat.sub_le _ _)
theorem c_{P:Prop}(h:∀X:Prop,(P->X)->X):P:=h P id
variable{X:Prop}{A:Sort _}{B:Sort _}{C:Sort _}{D:Sort _}{E:Sort _}{F:Sort _}{G:Sort _}{H:Sort _}{I:Sort _}{J:Sort _}{P p q r:Prop}
theorem gM(h:p/\q)(k:p->q->X):X:=by obtain⟨m,n⟩:=h;exact k m n
theorem ri(h:p/\q/\r)(k:p->q->r->X):X:=by obtain⟨m,n,o⟩:=h;exact k m n o
theorem Aa(h:p/\q/\r/\P)(k:p->q->r->P->X):X:=by obtain⟨m,n,o,s⟩:=h;exact k m n o s
theorem K_{Q R S T: Prop}(h:p/\q/\r/\P/\Q/\R/\S/\T)(k:p->q->r->P->Q->R->S->T->X):X:=by obtain⟨m,n,o,s,t,u,v,w⟩:=h;exact k m n o s t u v w
theorem dX{p:A->Prop}(h:∃a,p a)(k:∀a,p a->X):X:=by obtain⟨a,m⟩:=h;exact k a m
theorem aH{p q:A->Prop}(h:∃a,p a/\q a)(k:∀a,p a->q a->X):X:=by obtain⟨a,m,n⟩:=h;exact k a m n
theorem kK{p q r:A->Prop}(h:∃a,p a/\q a/\r a)(k:∀a,p a->q a->r a->X):X:=by obtain⟨a,m,n,o⟩:=h;exact k a m n o
theorem K9{p q r P:A->Prop}(h:∃a,p a/\q a/\r a/\P a)(k:∀a,p a->q a->r a->P a->X):X:=by obtain⟨a,m,n,o,s⟩:=h;exact k a m n o s
theorem Du{p:A->B->Prop}(h:∃a b,p a b)(k:∀a b,p a b->X):X:=by obtain⟨a,b,m⟩:=h;exact k a b m
theorem kJ{p q:A->B->Prop}(h:∃a b,p a b/\q a b)(k:∀a b,p a b->q a b->X):X:=by obtain⟨a,b,m,n⟩:=h;exact k a b m n
theorem fu{p q r:A->B->Prop}(h:∃a b,p a b/\q a b/\r a b)(k:∀a b,p a b->q a b->r a b->X):X:=by obtain⟨a,b,m,n,o⟩:=h;exact k a b m n o
theorem tm{p q r P:A->B->Prop}(h:∃a b,p a b/\q a b/\r a b/\P a b)(k:∀a b,p a b->q a b->r a b->P a b->X):X:=by obtain⟨a,b,m,n,o,s⟩:=h;exact k a b m n o s
theorem Dt{p q r P Q R:A->B->Prop}(h:∃a b,p a b/\q a b/\r a b/\P a b/\Q a b/\R a b)(k:∀a b,p a b->q a b->r a b->P a b->Q a b->R a b->X):X:=by obtain⟨a,b,m,n,o,s,t,u⟩:=h;exact k a b m n o s t u
theorem Sq{p:A->B->C->Prop}(h:∃a b c,p a b c)(k:∀a b c,p a b c->X):X:=by obtain⟨a,b,c,m⟩:=h;exact k a b c m
theorem z_{p q:A->B->C->Prop}(h:∃a b c,p a b c/\q a b c)(k:∀a b c,p a b c->q a b c->X):X:=by obtain⟨a,b,c,m,n⟩:=h;exact k a b c m n
theorem Ds{p q r P:A->B->C->Prop}(h:∃a b c,p a b c/\q a b c/\r a b c/\P a b c)(k:∀a b c,p a b c->q a b c->r a b c->P a b c->X):X:=by obtain⟨a,b,c,m,n,o,s⟩:=h;exact k a b c m n o s
theorem z9{p q r P Q:A->B->C->Prop}(h:∃a b c,p a b c/\q a b c/\r a b c/\P a b c/\Q a b c)(k:∀a b c,p a b c->q a b c->r a b c->P a b c->Q a b c->X):X:=by obtain⟨a,b,c,m,n,o,s,t⟩:=h;exact k a b c m n o s t
theorem Sp{p q r P Q R:A->B->C->Prop}(h:∃a b c,p a b c/\q a b c/\r a b c/\P a b c/\Q a b c/\R a b c)(k:∀a b c,p a b c->q a b c->r a b c->P a b c->Q a b c->R a b c->X):X:=by obtain⟨a,b,c,m,n,o,s,t,u⟩:=h;exact k a b c m n o s t u
theorem z8{p q:A->B->C->D->Prop}(h:∃a b c d,p a b c d/\q a b c d)(k:∀a b c d,p a b c d->q a b c d->X):X:=by obtain⟨a,b,c,d,m,n⟩:=h;exact k a b c d m n
theorem vN{p q r:A->B->C->D->Prop}(h:∃a b c d,p a b c d/\q a b c d/\r a b c d)(k:∀a b c d,p a b c d->q a b c d->r a b c d->X):X:=by obtain⟨a,b,c,d,m,n,o⟩:=h;exact k a b c d m n o
theorem Sn{p q r P:A->B->C->D->Prop}(h:∃a b c d,p a b c d/\q a b c d/\r a b c d/\P a b c d)(k:∀a b c d,p a b c d->q a b c d->r a b c d->P a b c d->X):X:=by obtain⟨a,b,c,d,m,n,o,s⟩:=h;exact k a b c d m n o s
theorem Sm{p q r P Q:A->B->C->D->Prop}(h:∃a b c d,p a b c d/\q a b c d/\r a b c d/\P a b c d/\Q a b c d)(k:∀a b c d,p a b c d->q a b c d->r a b c d->P a b c d->Q a b c d->X):X:=by obtain⟨a,b,c,d,m,n,o,s,t⟩:=h;exact k a b c d m n o s t
theorem z7{p q r:A->B->C->D->E->Prop}(h:∃a b c d e,p a b c d e/\q a b c d e/\r a b c d e)(k:∀a b c d e,p a b c d e->q a b c d e->r a b c d e->X):X:=by obtain⟨a,b,c,d,e,m,n,o⟩:=h;exact k a b c d e m n o
theorem Sl{p q r P Q:A->B->C->D->E->Prop}(h:∃a b c d e,p a b c d e/\q a b c d e/\r a b c d e/\P a b c d e/\Q a b c d e)(k:∀a b c d e,p a b c d e->q a b c d e->r a b c d e->P a b c d e->Q a b c d e->X):X:=by obtain⟨a,b,c,d,e,m,n,o,s,t⟩:=h;exact k a b c d e m n o s t
theorem Sj{p q r P Q R:A->B->C->D->E->F->G->H->Prop}(h:∃a b c d e f g i,p a b c d e f g i/\q a b c d e f g i/\r a b c d e f g i/\P a b c d e f g i/\Q a b c d e f g i/\R a b c d e f g i)(k:∀a b c d e f g i,p a b c d e f g i->q a b c d e f g i->r a b c d e f g i->P a b c d e f g i->Q a b c d e f g i->R a b c d e f g i->X):X:=by obtain⟨a,b,c,d,e,f,g,i,m,n,o,s,t,u⟩:=h;exact k a b c d e f g i m n o s t u
theorem Dv{p q r P Q:A->B->C->D->E->F->G->H->I->J->Prop}(h:∃a b c d e f g i j l,p a b c d e f g i j l/\q a b c d e f g i j l/\r a b c d e f g i j l/\P a b c d e f g i j l/\Q a b c d e f g i j l)(k:∀a b c d e f g i j l,p a b c d e f g i j l->q a b c d e f g i j l->r a b c d e f g i j l->P a b c d e f g i j l->Q a b c d e f g i j l->X):X:=by obtain⟨a,b,c,d,e,f,g,i,j,l,m,n,o,s,t⟩:=h;exact k a b c d e f g i j l m n o s t
theorem qw{p:A->B->Prop}(a:A)(b:B)(h:p a b):∃a b,p a b:=⟨a,b,h⟩
theorem XD{p:A->B->C->Prop}(a:A)(b:B)(c:C)(h:p a b c):∃a b c,p a b c:=⟨a,b,c,h⟩
theorem Si{p:A->B->C->D->Prop}(a:A)(b:B)(c:C)(d:D)(h:p a b c d):∃a b c d,p a b c d:=⟨a,b,c,d,h⟩
theorem xi5{p:A->B->C->D->E->Prop}(a:A)(b:B)(c:C)(d:D)(e:E)(h:p a b c d e):∃a b c d e,p a b c d e:=⟨a,b,c,d,e,h⟩
theorem xi8{p:A->B->C->D->E->F->G->H->Prop}(a:A)(b:B)(c:C)(d:D)(e:E)(f:F)(g:G)(i:H)(h:p a b c d e f g i):∃a b c d e f g i,p a b c d e f g i:=⟨a,b,c,d,e,f,g,i,h⟩
theorem Yo{p:A->B->C->D->E->F->G->H->I->J->Prop}(a:A)(b:B)(c:C)(d:D)(e:E)(f:F)(g:G)(i:H)(j:I)(l:J)(h:p a b c d e f g i j l):∃a b c d e f g i j l,p a b c d e f g i j l:=⟨a,b,c,d,e,f,g,i,j,l,h⟩
end
section
variable{o:Obj}{done:List (Int×Str)}{i j:Nat}{b:Heap}{l:List Obj}
noncomputable abbrev dO(es:Array bz)(ep:Nat):Obj:={cls:=.type "dict",data:=.dict es ep}
noncomputable def HB(b:Heap)(l:List Obj):Heap:=⟨b.objs++l.toArray,b.life⟩
theorem Bq(b:Heap)(l:List Obj):(HB b l).objs.size=b.objs.size+l.length:=by simp[HB]
theorem Rn(b:Heap):HB b []=b:=by simp[HB]
theorem Br(b:Heap)(l:List Obj)(o:Obj):(HB b l).push o=HB b (l++[o]):=by
 simp[HB,Heap.push]
theorem oQ(hj:l[j]?=some o)(hf:o.isFreed=false):(HB b l).get? (b.objs.size+j)=some o:=by
 have e:(HB b l).objs[b.objs.size+j]?=some o:=by
  show(b.objs++l.toArray)[b.objs.size+j]?=some o;rw[Array.getElem?_append_right (by lia)];simpa using hj
 unfold Heap.get?;rw[e];obtain⟨c,d,dt,sl⟩:=o;cases dt<;>first|rfl|cases hf
theorem Rl(f:Obj->Obj):(HB b l).update (b.objs.size+j) f=HB b (l.modify j f):=by
 simp only[HB,Heap.update,Heap.mk.injEq,and_true];apply Array.ext_getElem?;intro i;rw[Array.getElem?_modify];by_cases h:i<b.objs.size
 ·have:¬(b.objs.size+j=i):=by lia
  simp[h,this,Array.getElem?_append]
 ·simp only[Array.getElem?_append,h,if_false,cH,List.getElem?_modify]
  by_cases e:b.objs.size+j=i
  ·subst e
   simp
  ·have:¬(j=i-b.objs.size):=by lia
   simp[e,this]
inductive EA:List bz->List (Int×Str)->Prop
 |nil:EA [] []
 |cons {e es q qs}:(∃t u,e=⟨hashInt q.1,.int q.1 t,.str q.2 u⟩)->EA es qs->EA (e::es) (q::qs)
theorem EA.append{es qs rf qs'}(a:EA es qs)(h:EA rf qs'):EA (es++rf) (qs++qs'):=by
 induction a with
 |nil=>exact h
 |cons a _ ih=>exact .cons a ih
theorem EA.length{es qs}(a:EA es qs):es.length=qs.length:=by
 induction a with
 |nil=>rfl
 |cons _ _ ih=>exact congrArg cQ ih
theorem EA.mem{es: List bz}{qs: List (Int×Str)}{e: bz}(a:EA es qs)(h:e∈es):∃q∈qs,∃t u,e=⟨hashInt q.1,.int q.1 t,.str q.2 u⟩:=by
 induction a with
 |nil=>exact absurd h List.not_mem_nil
 |cons a _ ih =>
  rcases List.mem_cons.mp h with rfl|h
  ·exact⟨_,.head _,a⟩
  ·refine aH (ih h) λq hq r=>?_
   exact⟨q,.tail _ hq,r⟩
theorem EA.keys{es: Array bz}{qs}(h:EA es.toList qs):IntKeys es:=by
 intro e he;obtain⟨q,_,t,u,rfl⟩:=h.mem (Array.mem_toList_iff.mpr he);exact qw _ _ ⟨rfl,rfl⟩
theorem EA.get{es: List bz}{qs: List (Int×Str)}{e: bz}(a:EA es qs)(h:es[i]?=some e):∃q,qs[i]?=some q/\∃t u,e=⟨hashInt q.1,.int q.1 t,.str q.2 u⟩:=by
 induction a generalizing i with
 |nil=>cases h
 |cons a _ ih =>
  cases i with
  |zero=>cases h;exact⟨_,rfl,a⟩
  |succ i=>exact ih h
section
variable{prog:dW}{w:dj}{A:b_}{E:af->aq->Prop}{s:aq}
theorem find_none{d: Addr}{es: Array bz}{ep: Nat}{qs: List (Int×Str)}{k: Int}{t:Tok}{Q:Option Nat->aq->Prop}
  (ho:s.heap.get? d=some (dO es ep)) (h:EA es.toList qs) (hk:∀q∈qs,q.1≠k) (hQ:Q none s):
  ay (aZ prog w) A (dictFind d (.int k t) (hashInt k)) Q E s:=by
 refine wpAny_dictFind_int ho rfl h.keys ?_;have:es.findIdx? (λe=>eY k e.key)=none:=by
  rw[Array.findIdx?_eq_none_iff];intro e he;obtain⟨q,hq,t,u,rfl⟩:=h.mem (Array.mem_toList_iff.mpr he);show(q.1==k)=false;exact beq_eq_false_iff_ne.mpr (hk q hq)
 rw[this];exact hQ
theorem Au{part: Option af}{b: Heap}{l: List Obj}{j: Nat}{es: Array bz}{ep: Nat}{qs: List (Int×Str)}{k: Int}{t u:Tok}{v: Str}{Q:Unit->aq->Prop}
  (hs:s.heap=HB b l) (hj:l[j]?=some (dO es ep)) (h:EA es.toList qs) (hk:∀q∈qs,q.1≠k) (hz:es.size<=bC)
  (hQ:Q () {s with heap:=HB b (l.set j (dO (es.push ⟨hashInt k,.int k t,.str v u⟩) (ep+1)))}):
  ay (aZ prog w) A (updateDictKeys (b.objs.size+j) (·.push ⟨hashInt k,.int k t,.str v u⟩) part) Q E s:=by
 have hg:s.heap.get? (b.objs.size+j)=some (dO es ep):=by rw[hs];exact oQ hj rfl
 refine wpAny_updateDictKeys hg rfl ?_ hz;rw[hs,Rl];have:l.modify j (Obj.mapDictKeys λx=>x.push ⟨hashInt k,.int k t,.str v u⟩)=l.set j (dO (es.push ⟨hashInt k,.int k t,.str v u⟩) (ep+1)):=by
  rw[@List.modify_eq_set Obj ⟨dO es ep⟩ _ j l,hj];rfl
 rw[this];exact hQ
structure Mk2(p:Sem af×Sem af)(q:Int×Str):Prop where
 k:∀{M:fX}{A:b_}{E:af->aq->Prop}{s:aq}{Q:af->aq->Prop},Q (.int q.1 s.toks) {s with toks:=s.toks+1}->ay M A p.1 Q E s
 v:∀{M:fX}{A:b_}{E:af->aq->Prop}{s:aq}{Q:af->aq->Prop},Q (.str q.2 s.toks) {s with toks:=s.toks+1}->ay M A p.2 Q E s
inductive jj:List (Sem af×Sem af)->List (Int×Str)->Prop
 |nil:jj [] []
 |cons {p ps q qs}:Mk2 p q->jj ps qs->jj (p::ps) (q::qs)
theorem jj.length{ps qs}(a:jj ps qs):ps.length=qs.length:=by
 induction a with
 |nil=>rfl
 |cons _ _ ih=>exact congrArg cQ ih
theorem jj.snoc{ps qs p q}(a:jj ps qs)(h:Mk2 p q):jj (ps++[p]) (qs++[q]):=by
 induction a with
 |nil=>exact .cons h .nil
 |cons a _ ih=>exact .cons a ih
theorem set_same(hj:l[j]?=some o):l.set j o=l:=by
 obtain⟨ij,hv⟩:=List.getElem?_eq_some_iff.mp hj;rw[←hv];exact List.set_getElem_self ij
theorem get_set{p: Obj}(hj:l[j]?=some o):(l.set j p)[j]?=some p:=by
 obtain⟨ij,_⟩:=List.getElem?_eq_some_iff.mp hj;simp[ij]
theorem AH{qs: List (Int×Str)}{q: Int×Str}(hn:((done++q::qs).map (·.1)).Nodup):∀x∈done,x.1≠q.1:=by
 intro x hx e;rw[aY,List.nodup_append]at hn;exact hn.2.2 _ (List.mem_map.mpr ⟨x,hx,rfl⟩) _ (List.mem_map.mpr ⟨q,.head _,rfl⟩) e
theorem v_{es: Array bz}{qs: List (Int×Str)}{q: Int×Str}(h:EA es.toList done)(hz:done.length+(q::qs).length<=1000):es.size<=bC:=by
 have:=h.length;rw[dM]at this;rw[gK];rw[cq]at hz;lia
theorem Av{es: Array bz}{q: Int×Str}{t u:Tok}(h:EA es.toList done):EA (es.push ⟨hashInt q.1,.int q.1 t,.str q.2 u⟩).toList (done++[q]):=by
 rw[Array.toList_push];exact h.append (.cons ⟨_,_,rfl⟩ .nil)
theorem E0{qs: List (Int×Str)}{q: Int×Str}(hz:done.length+(q::qs).length<=1000):(done++[q]).length+qs.length<=1000:=by
 rw[aC];rw[cq]at hz;show done.length+1+_<=_;lia
theorem uG(done qs:List (Int×Str))(q:Int×Str):done++[q]++qs=done++q::qs:=by rw[a7];rfl
theorem qL{b: Heap}{l: List Obj}{j: Nat}{es: Array bz}{ep: Nat}{qs: List (Int×Str)}{k: Int}{t u:Tok}{v: Str}{Q:Unit->aq->Prop}
  (hs:s.heap=HB b l) (hj:l[j]?=some (dO es ep)) (h:EA es.toList qs) (hk:∀q∈qs,q.1≠k) (hz:es.size<=bC)
  (hQ:Q () {s with heap:=HB b (l.set j (dO (es.push ⟨hashInt k,.int k t,.str v u⟩) (ep+1))),toks:=s.toks+1}):
  ay (aZ prog w) A (dictSet (b.objs.size+j) (.int k t) (.str v u)) Q E s:=by
 unfold dictSet;refine aX (aa (wpAny_pyHash_int ?_));unfold dictSetHashed;refine aX (aa ?_);refine find_none (s:={s with toks:=s.toks+1}) (by show s.heap.get? _=_;rw[hs];exact oQ hj rfl) h hk ?_;exact aa (eZ (Au (s:={s with toks:=s.toks+1}) hs hj h hk hz hQ))
theorem fill{b: Heap}{j: Nat}{ps: List (Sem af×Sem af)}{qs: List (Int×Str)}(V:jj ps qs):∀(done:List (Int×Str)) (l:List Obj) (es:Array bz) (ep:Nat) (s:aq) {Q:PUnit->aq->Prop},
  s.heap=HB b l->l[j]?=some (dO es ep)->EA es.toList done->((done++qs).map (·.1)).Nodup->done.length+qs.length<=1000 ->
  (∀rf xH tk,EA rf.toList (done++qs)->Q ⟨⟩ {s with heap:=HB b (l.set j (dO rf xH)),toks:=tk}) ->
  ay (aZ prog w) A (forIn ps PUnit.unit λ(x:Sem af×Sem af)(_:PUnit)=>do
   let kv ←x.1
   let vv ←iY [kv] x.2
   iY [kv,vv] (dictSet (b.objs.size+j) kv vv)
   pure (dD PUnit.unit)) Q E s:=by
 induction V with
 |nil =>
  intro done l es ep s Q hs hj h hn hz hQ;have:=hQ es ep s.toks (by rwa [bV]);rw[set_same hj,←hs]at this;exact ag this
 |@cons p ps q qs hp hps ih =>
  intro done l es ep s Q hs hj h hn hz hQ;rw[c8];refine aa (aa (hp.k (aa (aX (hp.v (aa (aX ?_)))))));refine qL (s:={s with toks:=s.toks+1+1}) hs hj h (AH hn) (v_ h hz) (ag ?_);refine ih (done++[q]) _ _ _ {s with heap:=_,toks:=s.toks+1+1+1} rfl (get_set hj) (Av h) (by rwa [uG]) (E0 hz) λrf xH tk he=>?_;rw[uG]at he;rw[List.set_set];exact hQ rf xH tk he
theorem uY{M:fX}{n: Nat}{f:Nat->PUnit->Sem (ForInStep PUnit)}{Q:PUnit->aq->Prop}(I:Nat->aq->Prop)
  (step:∀i s,i<n->I i s->ay M A (f i ⟨⟩) (λr s'=>r=.yield ⟨⟩/\I (i+1) s') E s):
  ∀m i s,i+m=n->I i s->(∀s',I n s'->Q ⟨⟩ s')->ay M A (forIn (List.range' i m) PUnit.unit f) Q E s:=by
 intro m
 induction m with
 |zero =>
  intro i s h hi hQ;cases h;exact ag (hQ _ hi)
 |succ m ih =>
  intro i s h hi hQ;rw[List.range'_succ,c8];refine aa (df (step i s (by lia) hi) (λr s' hr=>?_) λzz zz x=>x);rw[hr.1];exact ih (i+1) s' (by lia) hr.2 hQ
theorem Cg{b: Heap}{l: List Obj}{j: Nat}{es fs: Array bz}{ep fp: Nat}{done qs: List (Int×Str)}{Q:Unit->aq->Prop}
  (hb:2<=b.objs.size) (hs:s.heap=HB b l) (h0:l[0]?=some (dO es ep)) (hj:l[j]?=some (dO fs fp)) (XZ:j≠0) (he:EA es.toList done) (hf:EA fs.toList qs) (mQ:done≠[])
  (hn:((done++qs).map (·.1)).Nodup) (hz:done.length+qs.length<=1000)
  (hQ:∀rf xH tk,EA rf.toList (done++qs)->Q () {s with heap:=HB b (l.set 0 (dO rf xH)),toks:=tk}):
  ay (aZ prog w) A (mergeMapping (b.objs.size+0) (.ref (b.objs.size+j)) false) Q E s:=by
 have g0:s.heap.get? (b.objs.size+0)=some (dO es ep):=by rw[hs];exact oQ h0 rfl
 have gj:s.heap.get? (b.objs.size+j)=some (dO fs fp):=by rw[hs];exact oQ hj rfl
 have hT:s.TypeIs (.ref (b.objs.size+j)) "dict":=⟨_,gj,rfl⟩;unfold mergeMapping;refine aa (iX hT isSubtype_dict_dict ?_);rw[if_pos rfl];refine aa (wpAny_specialOf hT F.slot_dict_iter.lookup ?_);refine aa (ag ?_);rw[beq_self_eq_true];dsimp only;have aad:(b.objs.size+j==sysModules)=false:=beq_eq_false_iff_ne.mpr (by show b.objs.size+j≠1;lia);rw[aad,if_neg aJ];refine aa (wpAny_dictEntries g0 rfl ?_);have aat:es.isEmpty=false:=by
  have:=he.length;rw[dM]at this;cases done with
  |nil=>exact absurd rfl mQ
  |cons=>simp only[Array.isEmpty,decide_eq_false_iff_not];rw[this];simp
 rw[aat,if_neg aJ];refine aa (wpAny_dictEntries gj rfl ?_);refine aa (wpAny_dictEpoch gj rfl ?_);rw[List.range_eq_range'];have Vv:∀o:Obj,(l.set 0 o)[j]?=some (dO fs fp):=λo=>by rw[List.getElem?_set_ne (Ne.symm XZ)];exact hj
 have h0':∀o:Obj,(l.set 0 o)[0]?=some o:=λo=>by
  refine dX (List.getElem?_eq_some_iff.mp h0) λij zz=>?_;simp[ij]
 refine aa (uY (n:=fs.size) (λi s'=>∃rf xH tk,EA rf.toList (done++qs.take i)/\s'={s with heap:=HB b (l.set 0 (dO rf xH)),toks:=tk}) ?_ _ 0 s (by lia) ⟨es,ep,s.toks,by rw[List.take_zero,bV];exact he,?_⟩ ?_)
 ·intro i s' hi Vg
  refine c_ λj7 ef=>?_;obtain⟨rf,xH,tk,Kj,rfl⟩:=Vg;have VH:fs[i]?=some fs[i]:=Array.getElem?_eq_getElem hi;obtain⟨q,hq,t,u,hqe⟩:=hf.get (i:=i) (e:=fs[i]) (by simpa using hi);refine ef ?_;refine aa (wpAny_dictEntries (o:=dO fs fp) (oQ (Vv _) rfl) rfl ?_);rw[VH,hqe];dsimp only;refine aa (aX ?_);unfold dictPut;have hnd:∀x∈done++qs.take i,x.1≠q.1:=by
   intro x hx e;have zr:done++qs=(done++qs.take i)++q::qs.drop (i+1):=by
    rw[a7]
    congr 1
    have:=fE i qs;rw[←this]
    congr 1
    ·simp
    ·simp
     rw[←List.getElem?_eq_some_iff.mp hq |>.2];exact List.drop_eq_getElem_cons _
   rw[zr,aY,List.nodup_append]at hn;exact hn.2.2 _ (List.mem_map.mpr ⟨x,hx,rfl⟩) _ (List.mem_map.mpr ⟨q,.head _,rfl⟩) e
  refine aa (find_none (d:=b.objs.size+0) (oQ (h0' _) rfl) Kj hnd ?_);refine Au (j:=0) rfl (h0' _) Kj hnd ?_ ?_
  ·have:=Kj.length
   rw[dM]at this;rw[gK,this];simp only[aC,List.length_take];lia
  ·dsimp only
   refine aa (wpAny_dictEpoch (o:=dO fs fp) (oQ ?_ rfl) rfl ?_)
   ·rw[List.set_set];exact Vv _
   ·rw[bne_self_eq_false,if_neg aJ]
    refine ag ⟨rfl,_,_,tk,?_,by rw[List.set_set]⟩;rw[Array.toList_push];have:qs.take (i+1)=qs.take i++[q]:=by rw[List.take_add_one,hq];rfl
    rw[this,←a7];exact Kj.append (.cons ⟨_,_,rfl⟩ .nil)
 ·have e:l.set 0 (dO es ep)=l:=by
   refine dX (List.getElem?_eq_some_iff.mp h0) λij hv=>?_;rw[←hv];exact List.set_getElem_self ij
  rw[e,←hs]
 ·intro s' M'
  refine z_ (M') λrf xH tk Kj MB=>?_;obtain rfl:=MB;refine ag (hQ rf xH tk ?_);have:fs.size=qs.length:=by have:=hf.length;rwa [dM]at this
  rwa [this,List.take_length]at Kj
theorem Eb{b: Heap}{l: List Obj}{ps: List (Sem af×Sem af)}{qs: List (Int×Str)}{Q:Addr->aq->Prop}
  (hs:s.heap=HB b l) (hp:jj ps qs) (hl:15<ps.length) (hn:(qs.map (·.1)).Nodup) (hz:qs.length<=1000)
  (hQ:∀es ep tk,EA es.toList qs->Q (b.objs.size+l.length) {s with heap:=HB b (l++[dO es ep]),toks:=tk}):
  ay (aZ prog w) A (subDict ps) Q E s:=by
 unfold subDict;refine aa (wpAny_alloc ?_);rw[hs,Br,Bq];refine aa (aX ?_);rw[if_neg (by lia)];refine aa (eZ ?_);have:=fill (prog:=prog) (w:=w) (A:=A) (E:=E) (b:=b) (j:=l.length) hp [] (l++[dO #[] 0]) #[] 0 {s with heap:=HB b (l++[dO #[] 0])}
  (Q:=λr s'=>Q (b.objs.size+l.length) s') rfl (by simp) .nil (by simpa using hn) (by simpa using hz) (λes ep tk he=>by
   have:=hQ es ep tk (by simpa using he);simpa using this)
 exact aa (df this (λzz zz h=>ag (ag h)) λzz zz h=>h)
inductive VA:List (af×af)->List (Int×Str)->Prop
 |nil:VA [] []
 |cons {v vs q qs}:(∃t u,v=(.int q.1 t,.str q.2 u))->VA vs qs->VA (v::vs) (q::qs)
theorem Hl{ps: List (Sem af×Sem af)}{qs: List (Int×Str)}(V:jj ps qs):∀(s:aq) {Q:List (af×af)->aq->Prop},
  (∀vs tk,VA vs qs->Q vs {s with toks:=tk})->ay (aZ prog w) A (evalPairs ps) Q E s:=by
 induction V with
 |nil=>intro s Q hQ;exact evalPairs_nil (hQ [] s.toks .nil)
 |cons hp hps ih=>intro s Q hQ;exact evalPairs_cons (hp.k (hp.v (ih _ λvs tk hv=>hQ _ tk (.cons ⟨_,_,rfl⟩ hv))))
theorem Wc{b: Heap}{j: Nat}{vs: List (af×af)}{qs: List (Int×Str)}(V:VA vs qs):∀(done:List (Int×Str)) (l:List Obj) (es:Array bz) (ep:Nat) (s:aq) {Q:PUnit->aq->Prop},
  s.heap=HB b l->l[j]?=some (dO es ep)->EA es.toList done->((done++qs).map (·.1)).Nodup->done.length+qs.length<=1000 ->
  (∀rf xH tk,EA rf.toList (done++qs)->Q ⟨⟩ {s with heap:=HB b (l.set j (dO rf xH)),toks:=tk}) ->
  ay (aZ prog w) A (forIn vs PUnit.unit λ(x:af×af)(_:PUnit)=>do
   dictSet (b.objs.size+j) x.1 x.2
   pure (dD PUnit.unit)) Q E s:=by
 induction V with
 |nil =>
  intro done l es ep s Q hs hj h hn hz hQ;have:=hQ es ep s.toks (by rwa [bV]);rw[set_same hj,←hs]at this;exact ag this
 |@cons v vs q qs hv hvs ih =>
  intro done l es ep s Q hs hj h hn hz hQ;obtain⟨t,u,rfl⟩:=hv;rw[c8];refine aa (aa (qL hs hj h (AH hn) (v_ h hz) (ag ?_)));refine ih (done++[q]) _ _ _ {s with heap:=_,toks:=s.toks+1} rfl (get_set hj) (Av h) (by rwa [uG]) (E0 hz) λrf xH tk he=>?_;rw[uG]at he;rw[List.set_set];exact hQ rf xH tk he
theorem sub_short{b: Heap}{l: List Obj}{ps: List (Sem af×Sem af)}{qs: List (Int×Str)}{Q:Addr->aq->Prop}
  (hs:s.heap=HB b l) (hp:jj ps qs) (hl:ps.length<=15) (hn:(qs.map (·.1)).Nodup) (hz:qs.length<=1000)
  (hQ:∀es ep tk,EA es.toList qs->Q (b.objs.size+l.length) {s with heap:=HB b (l++[dO es ep]),toks:=tk}):
  ay (aZ prog w) A (subDict ps) Q E s:=by
 unfold subDict;refine aa (wpAny_alloc ?_);rw[hs,Br,Bq];refine aa (aX ?_);rw[if_pos hl];refine aa (Hl hp _ λvs tk hv=>?_);refine aX ?_;have:=Wc (prog:=prog) (w:=w) (A:=A) (E:=E) (b:=b) (j:=l.length) hv [] (l++[dO #[] 0]) #[] 0 {s with heap:=HB b (l++[dO #[] 0]),toks:=tk}
  (Q:=λr s'=>Q (b.objs.size+l.length) s') rfl (by simp) .nil (by simpa using hn) (by simpa using hz) (λes ep tk he=>by
   have:=hQ es ep tk (by simpa using he);simpa using this)
 exact aa (df this (λzz zz h=>ag (ag h)) λzz zz h=>h)
theorem Al{b: Heap}{l: List Obj}{ps: List (Sem af×Sem af)}{qs: List (Int×Str)}{Q:Addr->aq->Prop}
  (hs:s.heap=HB b l) (hp:jj ps qs) (hn:(qs.map (·.1)).Nodup) (hz:qs.length<=1000)
  (hQ:∀es ep tk,EA es.toList qs->Q (b.objs.size+l.length) {s with heap:=HB b (l++[dO es ep]),toks:=tk}):
  ay (aZ prog w) A (subDict ps) Q E s:=by
 by_cases h:ps.length<=15
 ·exact sub_short hs hp h hn hz hQ
 ·exact Eb hs hp (by lia) hn hz hQ
theorem forIn_list{M:fX}{α β:Type}{f:α->β->Sem (ForInStep β)}{Q:β->aq->Prop}(all:List α)(I:List α->β->aq->Prop)
  (step:∀pre x T6 b s,all=pre++x::T6->I pre b s->ay M A (f x b) (λr s'=>∃b',r=.yield b'/\I (pre++[x]) b' s') E s):
  ∀xs pre b s,all=pre++xs->I pre b s->(∀b s',I all b s'->Q b s')->ay M A (forIn xs b f) Q E s:=by
 intro xs
 induction xs with
 |nil =>
  intro pre b s ha hi hQ;rw[bV]at ha;exact ag (hQ _ _ (ha▸hi))
 |cons x xs ih =>
  intro pre b s ha hi hQ;rw[c8];refine aa (df (step pre x xs b s ha hi) (λr s' hr=>?_) λzz zz x=>x);obtain⟨b',rfl,hr⟩:=hr;exact ih (pre++[x]) b' s' (by rw[ha,a7];rfl) hr hQ
structure XB(b:Heap)(s:aq)(done cur:List (Int×Str))(main:Option Addr)(run:List (Sem af×Sem af))(l:List Obj)(s':aq):Prop where
 run:jj run cur
 heap:∃tk,s'={s with heap:=HB b l,toks:=tk}
 main:(main=none/\done=[]/\l=[])∨(main=some (b.objs.size+0)/\done≠[]/\∃es ep,l[0]?=some (dO es ep)/\EA es.toList done)
 count:done.length=17*l.length
theorem xE{b: Heap}{s s': aq}{done cur: List (Int×Str)}{main: Option Addr}{run: List (Sem af×Sem af)}{l: List Obj}{H:Addr->Addr->af->Sem Unit}{Q:Option Addr->aq->Prop}
  (hb:2<=b.objs.size) (I:XB b s done cur main run l s') (hc:cur≠[]) (hn:((done++cur).map (·.1)).Nodup) (hz:done.length+cur.length<=1000)
  (hQ:∀es ep l' tk,EA es.toList (done++cur)->l'[0]?=some (dO es ep)->l'.length=l.length+1->Q (some (b.objs.size+0)) {s with heap:=HB b l',toks:=tk}):
  ay (aZ prog w) A (if run.isEmpty=true then pure main else match main with
   |none=>do
    let a ←subDict run
    pure (some a)
   |some d=>do
    let sub ←iY [bZ d] (subDict run)
    (iY [bZ d,bZ sub] (mergeMapping d (bZ sub) false)).onRaise (H d sub)
    pure (some d)) Q E s':=by
 have cx:=I.run.length;have hre:run.isEmpty=false:=by
  cases run with
  |nil=>cases cur with
   |nil=>exact absurd rfl hc
   |cons=>cases cx
  |cons=>rfl
 rw[hre];rw[if_neg aJ];refine dX (I.heap) λtk MK=>?_;obtain rfl:=MK;have hnc:(cur.map (·.1)).Nodup:=by
  rw[aY,List.nodup_append]at hn;exact hn.2.1
 rcases I.main with⟨rfl,rfl,rfl⟩|⟨rfl,hd,es,ep,h0,he⟩
 ·dsimp only
  refine aa (Al (s:={s with heap:=HB b [],toks:=tk}) rfl I.run hnc (by simpa using hz) λes ep Ic he=>?_);refine ag ?_;exact hQ es ep [dO es ep] Ic he rfl rfl
 ·dsimp only
  refine aa (aX (Al (s:={s with heap:=HB b l,toks:=tk}) rfl I.run hnc (by lia) λfs fp Ic hf=>?_));refine dX (List.getElem?_eq_some_iff.mp h0) λij hv=>?_;refine aa (wpAny_onRaise (aX ?_));refine Cg (s:={s with heap:=HB b (l++[dO fs fp]),toks:=Ic}) (j:=l.length) (fs:=fs) (fp:=fp) hb rfl (by rw[List.getElem?_append_left ij];exact h0) (by simp) (by lia) he hf hd hn hz λrf xH YL he'=>?_;refine ag ?_;refine hQ rf xH ((l++[dO fs fp]).set 0 (dO rf xH)) YL he' ?_ (by simp);have:0<(l++[dO fs fp]).length:=by simp
  simp
theorem jj.get{ps: List (Sem af×Sem af)}{qs: List (Int×Str)}{p: Sem af×Sem af}(a:jj ps qs)(h:ps[i]?=some p):∃q,qs[i]?=some q/\Mk2 p q:=by
 induction a generalizing i with
 |nil=>cases h
 |cons a _ ih =>
  cases i with
  |zero=>cases h;exact⟨_,rfl,a⟩
  |succ i=>exact ih h
theorem display{ps: List (Sem af×Sem af)}{qs: List (Int×Str)}{Q:af->aq->Prop}(hb:2<=s.heap.objs.size)
  (hp:jj ps qs) (h0:qs≠[]) (hn:(qs.map (·.1)).Nodup) (hz:qs.length<=1000) (hm:qs.length % 17≠0)
  (hQ:∀es ep l tk,EA es.toList qs->l[0]?=some (dO es ep)->l.length=qs.length/17+1->Q (.ref (s.heap.objs.size+0)) {s with heap:=HB s.heap l,toks:=tk}):
  ay (aZ prog w) A (dictDisplay (ps.map λp=>(some p.1,p.2))) Q E s:=by
 unfold dictDisplay;dsimp only;refine aa (forIn_list (ps.map λp=>(some p.1,p.2)) (λpre st s'=>∃done cur l,XB s.heap s done cur st.1 st.2 l s'/\cur.length<17/\pre.length=done.length+cur.length/\∃bM,qs=done++cur++bM) ?_ _ [] _ s rfl ?_ ?_)
 ·rintro pre x T6 ⟨main,run⟩ s' aaB ⟨done,cur,l,I,ij,td,bM,GX⟩
  have hx:(ps.map λp=>((some p.1:Option (Sem af)),p.2))[pre.length]?=some x:=by rw[aaB];simp
  rw[br]at hx;refine aH (Option.map_eq_some_iff.mp hx) λp hpp M4=>?_;obtain rfl:=M4;refine aH (hp.get hpp) λq hq hmk=>?_;have hqr:∃qB,bM=q::qB:=by
   rw[GX,td,a7,←a7,←aC,List.getElem?_append_right (aG _),Nat.sub_self]at hq;cases bM with
   |nil=>cases hq
   |cons a r=>simp at hq;subst hq;exact⟨r,rfl⟩
  refine dX (hqr) λqB yu=>?_;obtain rfl:=yu;dsimp only;have cx:run.length=cur.length:=I.run.length;have s_:jj (run++[(p.1,p.2)]) (cur++[q]):=I.run.snoc hmk;by_cases h17:run.length+1=17
  ·have e17:((run++[(p.1,p.2)]).length==17)=true:=by simp[h17]
   rw[e17];rw[if_pos rfl];have Qe:((done++(cur++[q])).map (·.1)).Nodup:=by
    rw[GX,show done++cur++q::qB=(done++(cur++[q]))++qB by simp,aY,List.nodup_append]at hn;exact hn.1
   have hz':done.length+(cur++[q]).length<=1000:=by
    rw[GX]at hz;simp only[aC,cq,i4]at hz ⊢;lia
   refine aa (xE hb ⟨s_,I.heap,I.main,I.count⟩ (by simp) Qe hz' λes ep l' tk he h0 hl=>?_);refine ag ⟨_,rfl,done++(cur++[q]),[],l',⟨.nil,⟨tk,rfl⟩,.inr ⟨rfl,by simp,es,ep,h0,he⟩,?_⟩,by simp,?_,qB,by rw[GX];simp⟩
   ·have:=I.count
    simp only[aC,cq,i4];lia
   ·simp only[aC,cq,i4];lia
  ·have abi:cur.length+1≠17:=by lia
   have e17:((run++[(p.1,p.2)]).length==17)=false:=beq_eq_false_iff_ne.mpr (by simpa using h17);rw[e17];rw[if_neg aJ];refine ag ⟨_,rfl,done,cur++[q],l,⟨s_,I.heap,I.main,I.count⟩,?_,?_,qB,by rw[GX];simp⟩
   ·simp only[aC,cq,i4];lia
   ·simp only[aC,cq,i4];lia
 ·refine XD [] [] [] ⟨⟨.nil,⟨s.toks,by rw[Rn]⟩,.inl ⟨rfl,rfl,rfl⟩,rfl⟩,by simp,rfl,qs,rfl⟩
 ·intro Vf s' Ve
  refine c_ λDd up1=>?_;obtain⟨main,run⟩:=Vf;obtain⟨done,cur,l,I,ij,td,bM,GX⟩:=Ve;have hr:bM=[]:=by
   have h1:=hp.length;rw[aj]at td;rw[h1,GX]at td;simp only[aC]at td;exact List.length_eq_zero_iff.mp (by lia)
  subst hr;refine up1 ?_;rw[bV]at GX;have hl:=congrArg List.length GX;rw[aC]at hl;have Kk:cur≠[]:=by
   rintro rfl;have:=I.count;simp only[i4]at hl;lia
  dsimp only;refine aa (xE hb I Kk (GX▸hn) (by lia) λes ep l' tk he h0 hl'=>?_);dsimp only;refine ag (hQ es ep l' tk (GX▸he) h0 ?_);have:=I.count;have:cur.length≠0:=λe=>Kk (List.length_eq_zero_iff.mp e);lia
end
end
section
variable{s s':aq}{n:Nat}{q:Pos}{f g:Flow}
section
variable{p:dW}{w:dj}{n₀:Nat}{ann:Option af}
theorem vX{t:Thread}(h:through t=true):∃f c q,t=⟨.pure (.done f),c,q,[]⟩:=by
 obtain⟨cur,code,pos,stack⟩:=t;cases stack with
 |cons F r=>cases h
 |nil =>
  cases cur with
  |pure x =>
   cases x with
   |done f=>exact⟨_,_,_,rfl⟩
   |again c=>exact Bool.noConfusion h
  |_=>exact Bool.noConfusion h
theorem oU{c:Code}(hg:s.gens=#[]):step (kh gJ) p w s ⟨.pure (.done f),c,q,[]⟩=.halt (.done f) s:=by
 obtain⟨heap,gens,drawn,toks,os⟩:=s;simp only at hg;subst hg;simp[step,finish,leftWithCleanup]
theorem uq{c:Code}:(⟨.pure (.done f),c,q,[]⟩:Thread).calm=true:=by
 simp[Thread.calm,Thread.atCollectorCode,Thread.atExit,Thread.yieldsInsideHandler]
theorem vW:∀{s:aq}{t:Thread}{r:aq},topRun gJ p w n₀ ann n s t=some r->r.gens=#[] ->
  ∃m f,dF (kh gJ) p w m s t=.halted (.done f) r/\∀k cG lE,dF (kh gJ) p w k s t=.running cG lE->lE.calm=true:=by
 induction n with
 |zero=>intro s t r h _;cases h
 |succ n ih =>
  intro s t r h hg;unfold topRun at h;cases ht:through t with
  |true =>
   rw[ht]at h;obtain rfl:s=r:=a8 h;refine Sq (vX ht) λf c q M0=>?_;obtain rfl:=M0;refine qw 1 f ⟨?_,λk cG lE hk=>?_⟩
   ·simp only[dF,oU hg]
   ·cases k with
    |zero=>simp only[dF]at hk;injection hk with _ e;exact e▸uq
    |succ k=>simp only[dF,oU hg]at hk;cases hk
  |false =>
   rw[ht]at h;cases hk:stepOk n₀ ann t with
   |false=>rw[hk]at h;cases h
   |true =>
    rw[hk]at h;cases hs:step (kh gJ) p w s t with
    |halt o s'=>rw[hs]at h;cases h
    |go s' t' =>
     rw[hs]at h;refine kJ (ih h hg) λm f h1 h2=>?_;refine qw (m+1) f ⟨by simp only[dF,hs];exact h1,λk cG lE xv=>?_⟩;cases k with
     |zero=>simp only[dF]at xv;injection xv with _ e;exact e▸(Bool.and_eq_true_iff.mp hk).1
     |succ k=>simp only[dF,hs]at xv;exact h2 k cG lE xv
theorem um{r: aq}{t:Sem Fin}{c:Code}{st: List Frame}(h:topRun gJ p w n₀ ann n s ⟨t,c,q,st⟩=some r)(hg:r.gens=#[]):
  ∃f,Runs (aZ p w) (Ctx.of c []) q t st s (.ret (.ok f)) r:=by
 refine kJ (vW h hg) λm f h1 h2=>?_;refine aH (runN_calm_runNI _ _ _ h1 h2) λs' h3 h4=>?_;have e:s'=r:=by
  refine(Shared.eq_of_forget_eq h4 ?_).symm;have:=(Shared.forget_eq h4).2.2.2.2;rw[hg]at this;simpa using this.symm
 subst e;have h5:(aZ p w).runN m s ⟨t,c,q,st⟩=.halted (outcomeOf (.ok f)) s':=h3;exact⟨f,reach_runs (halted_reach m s t c q st h5).1⟩
theorem yM{α:Type}{x:Sem α}{B: List Frame}{n N: Nat}{s s': aq}{res:α->Flow}{f: Flow}{c c':Code}{pos p': Pos}
  (hB:splitAtGen B=none) (hg:s'.gens=#[])
  (aas:∀(c:Code)(q:Pos),topRun gJ p w n₀ ann N s' ⟨.pure (.done .next),c,q,B⟩=some s')
  (VQ:∀{Γ:Ctx}{q:Pos}{t:Sem Fin}{s:aq}{g:Flow},Runs (aZ p w) (Ctx.of c []) q t B s (.ret (.ok g)) s'->∃g',Runs (aZ p w) (Ctx.of c B) q t [] s (.ret (.ok g')) s')
  (h:segRun gJ p w n₀ ann B.length n s ⟨x.wrap (λa=>.pure (.done (res a))) deadEnd id id,c,pos,B⟩=some (f,s',c',p')):
  Sem.wp (aZ p w) (Ctx.of c B) x (λa zz cG=>res a=f/\cG=s') (λzz zz zz=>False) pos s:=by
 classical
 let K':α->Sem Fin:=λa=>if res a=f then .pure (.done .next)else .unsupported "another way"
 refine aH (seg_top (res:=res) (K':=K') (H':=Sem.raise) (B:=B) hB n s ⟨x.wrap (λa=>.pure (.done (res a))) deadEnd id id,c,pos,B⟩
  ⟨x.wrap K' Sem.raise id id,c,pos,B⟩ _ _ _ _ ⟨rfl,rfl,.inl ⟨rfl,rfl,_,rfl,rfl⟩⟩ h) λa ha hN=>?_
 have h1:=hN N s' (by
  show topRun gJ p w n₀ ann N s' ⟨if res a=f then .pure (.done .next)else .unsupported "another way",c',p',B⟩=some s';rw[if_pos ha];exact aas _ _)
 obtain⟨g,h2⟩:=um h1 hg;obtain⟨g',h3⟩:=VQ (Γ:=Ctx.of c B) h2;have h4:=(Sem.wp_iff_runs (aZ p w) (Ctx.of c B) (x.wrap K' Sem.raise id id) (λr cG=>r=.ok g'/\cG=s') pos s).mpr ⟨_,_,h3,rfl,rfl⟩;rw[←Sem.bind_eq_wrap,Sem.wp_bind]at h4;refine jo (aZ p w) (Ctx.of c B) x (λa q cG h5=>?_) (λe q cG h5=>?_) pos s h4
 ·by_cases hr:res a=f
  ·simp only[K',if_pos hr]at h5
   exact⟨hr,h5.2⟩
  ·simp only[K',if_neg hr]at h5
   simp at h5
 ·obtain⟨h6,_⟩:=h5;cases h6
theorem Kv(s':aq)(c:Code)(q:Pos):topRun gJ p w n₀ ann 1 s' ⟨.pure (.done .next),c,q,[]⟩=some s':=rfl
theorem Bd(s':aq)(c:Code)(q q':Pos):topRun gJ p w n₀ ann 3 s' ⟨.pure (.done .next),c,q,[gY q']⟩=some s':=by
 obtain⟨heap,gens,drawn,toks,os⟩:=s';rfl
theorem HY{c:Code}{t:Sem Fin}(h:Runs (aZ p w) (Ctx.of c []) q t [] s (.ret (.ok g)) s'):
  ∃g',Runs (aZ p w) (Ctx.of c []) q t [] s (.ret (.ok g')) s':=⟨g,h⟩
def Md(M:fX)(Γ:Ctx)(p:Pos)(t:Sem Fin)(s s':aq)(fs:List Frame)(e:End):Prop:=
 match fs with
 |[.ret k h g l Hy EL kp]=>∀R,e=.ret R->∃r cG,Runs M (Γ.over [.ret k h g l Hy EL kp]) p t [] s (.ret r) cG/\Runs M (Γ.goto Hy) EL (k r) [] cG (.ret R) s'
 |_=>True
theorem Oa{M:fX}{Γ:Ctx}{p: Pos}{t:Sem Fin}{fs: List Frame}{e:End}(H:Runs M Γ p t fs s e s'):Md M Γ p t s s' fs e:=by
 induction H with
 |@segRet Γ p t k h g l Hy EL kp fs s r cG e s' a b _ _ =>
  cases fs with
  |cons F' fs=>trivial
  |nil=>exact λR q=>⟨_,_,a,q▸b⟩
 |@segGen Γ p t g k l Hy EL fs s r cG e s' a b _ _=>cases fs<;>trivial
 |@segSuspOut Γ p t F fs s v aaE l₀ Z2 aaL Ze V' s' h a _ =>
  cases fs with
  |cons F' fs=>cases F<;>trivial
  |nil =>
   cases F with
   |gen=>trivial
   |ret=>exact λR q=>by cases q
 |@segSuspGen Γ p t F fs pre g k Hy EL bM s v aaE l₀ Z2 aaL Ze V' cG e s' h a q b _ _ =>
  cases fs with
  |cons F' fs=>cases F<;>trivial
  |nil =>
   cases F with
   |gen=>trivial
   |ret=>cases h
 |_=>trivial
theorem Kw{M:fX}{Γ:Ctx}{p: Pos}{R:Result}(H:Runs M Γ p (.pure (.done f)) [] s (.ret R) s'):R=.ok f/\s'=s:=
 have h:Except.ok f=R/\s=s':=(Sem.wp_iff_runs M Γ (.pure (.done f)) (λr cG=>r=R/\cG=s') p s).mpr ⟨R,s',H,rfl,rfl⟩
 ⟨h.1.symm,h.2.symm⟩
theorem EJ{M:fX}{Γ:Ctx}{p: Pos}{x: af}{R:Result}(H:Runs M Γ p (.raise x) [] s (.ret R) s'):Except.error x=R:=
 have h:Except.error x=R/\s=s':=(Sem.wp_iff_runs M Γ (.raise x) (λr cG=>r=R/\cG=s') p s).mpr ⟨R,s',H,rfl,rfl⟩
 h.1
theorem xZ{c:Code}{q': Pos}{t:Sem Fin}(h:Runs (aZ p w) (Ctx.of c []) q t [gY q'] s (.ret (.ok g)) s'):
  ∃g',Runs (aZ p w) (Ctx.of c [gY q']) q t [] s (.ret (.ok g')) s':=by
 have e:(Ctx.of c []).over [gY q']=Ctx.of c [gY q']:=(Ctx.of_append c [gY q'] []).symm;refine kJ ((Oa h:Md _ _ _ _ _ _ [gY q'] _) _ rfl) λr cG h1 h2=>?_;cases r with
 |ok f=>exact⟨f,(Kw h2).2▸e▸h1⟩
 |error x=>cases EJ h2
theorem uU{t:Thread}(hc:∀k cG lE,dF (kh gJ) p w k s t=.running cG lE->lE.calm=true)(hs:step (kh gJ) p w s t=.halt (.done f) s'):through t=true:=by
 have h1:dF (kh gJ) p w 1 s t=.halted (.done f) s':=by simp only[dF,hs]
 refine aH (runN_calm_runNI _ _ _ h1 hc) λlG h2 zz=>?_;obtain⟨cur,code,pos,stack⟩:=t;have h3:(match(aZ p w).step s ⟨cur,code,pos,stack⟩with | .go s' t'=>Run.running s' t' | .halt o s'=>.halted o s')=.halted (.done f) lG:=h2;cases hq:(aZ p w).step s ⟨cur,code,pos,stack⟩with
 |go s' t'=>rw[hq]at h3;cases h3
 |halt o s' =>
  rw[hq]at h3;cases h3;refine ri (step_halt_result (r:=.ok f) hq) λM6 M5 zz=>?_;obtain rfl:=M6;obtain rfl:=M5;rfl
theorem yN:∀{s r:aq}{t:Thread}{f:Flow},s.asleep->dF (kh gJ) p w n s t=.halted (.done f) r ->
  (∀k cG lE,dF (kh gJ) p w k s t=.running cG lE->lE.calm=true) ->
  (∃k lE,schedN (kh gJ) p w k (.single s t)=.running (.single r lE)/\through lE=true)/\r.heap.life=s.heap.life:=by
 induction n with
 |zero=>intro s r t f _ h _;cases h
 |succ n ih =>
  intro s r t f hz h hc;have VP:t.calm=true:=hc 0 s t rfl;cases hs:step (kh gJ) p w s t with
  |halt o s' =>
   simp only[dF,hs]at h;injection h with h1 h2
   subst h1 h2;cases step_halt_same _ _ _ _ _ _ _ hs;exact⟨⟨0,t,rfl,uU hc hs⟩,rfl⟩
  |go s' t' =>
   simp only[dF,hs]at h;have hl:=step_life (kh gJ) p w s s' t t' hs;refine gM (ih (Shared.asleep_of_life hl hz) h λk cG lE hk=>hc (k+1) cG lE (by simp only[dF,hs];exact hk)) λMN h3=>?_;obtain⟨k,lE,h1,h2⟩:=MN;have e:sstep (kh gJ) p w (.single s t)=.go (.single s' t'):=by
    rcases sstep_single (kh gJ) p w s t VP hz with e|e
    ·rw[e,hs];rfl
    ·rw[hs]at e;cases e
   exact⟨⟨k+1,lE,by simp only[schedN,e];exact h1,h2⟩,h3.trans hl⟩
noncomputable abbrev QJ:Ctx:=Ctx.of (.builtin "claim.caller" {}) []
theorem IZ{lY: aq}{t:Sem Fin}{P:aq->Prop}(hz:lY.asleep)
  (h:Sem.wp (aZ p w) QJ t (Sem.finPost (aZ p w) QJ λr s'=>(∃f,r=.ok f)/\P s'/\s'.gens=#[]) (λzz zz zz=>False) default lY):
  ∃cG,P cG/\cG.gens=#[]/\(∃k lE,schedN (kh gJ) p w k (.single lY ⟨t,.builtin "claim.caller" {},default,[]⟩)=.running (.single cG lE)/\through lE=true)/\cG.heap.life=lY.heap.life:=by
 have h':Sem.wp (aZ p w) ⟨.builtin "claim.caller" {},none,none,[],none⟩ t
   (Sem.finPost (aZ p w) ⟨.builtin "claim.caller" {},none,none,[],none⟩ λr s'=>((∃f,r=.ok f)/\P s'/\s'.gens=#[])/\leftWithCleanup s'.gens=false)
   (λe zz s'=>((∃f,Except.error e=(.ok f:Result))/\P s'/\s'.gens=#[])/\leftWithCleanup s'.gens=false) default lY:=by
  refine jo _ _ _ (λfin q s' hf=>?_) (λzz zz zz h=>h.elim) _ _ h;exact finPost_mono (λr s hr=>⟨hr,by rw[hr.2.2];simp[leftWithCleanup]⟩) hf
 refine Ds ((wp_iff_halts t (λr s'=>(∃f,r=.ok f)/\P s'/\s'.gens=#[]) default lY).mp h') λn r s' hn Ss hP hg=>?_;obtain⟨f,rfl⟩:=Ss;refine kK (runNI_real _ _ _ hn (outcomeOf_ends _)) λBR h1 h2 h3=>?_;have e:BR=s':=Shared.eq_of_forget_eq h2 hg;subst e;obtain⟨h4,h5⟩:=yN hz h1 h3;exact⟨BR,hP,hg,h4,h5⟩
end
end
end Mine
section
set_option backward.match.sparseCases false
namespace Mine
noncomputable abbrev N:af:=.none
noncomputable abbrev R(a:Nat):af:=.ref a
noncomputable abbrev Sx(l:List Nat):Str:=⟨l.toArray⟩
noncomputable abbrev jX:Str:=Sx [47,99,108,97,105,109,47,99,117,116,46,112,121]
noncomputable abbrev C8:Str:=Sx [99,112,121,51,49,51,46,101,109,97,105,108,46,104,101,97,100,101,114]
noncomputable abbrev H_:Str:=Sx [95,65,99,99,117,109,117,108,97,116,111,114]
noncomputable abbrev IC:Str:=Sx [105,110,115,111,114,116,95,114,105,103,104,116]
noncomputable abbrev IB:Str:=Sx [98,105,115,101,99,116,95,114,105,103,104,116]
noncomputable abbrev Iz:Str:=Sx [105,110,115,111,114,116,95,108,101,102,116]
noncomputable abbrev Iy:Str:=Sx [98,105,115,101,99,116,95,108,101,102,116]
noncomputable abbrev Iu:Str:=Sx [105,110,95,116,97,98,108,101,95,98,49]
noncomputable abbrev K8:Str:=Sx [108,97,119,95,119,99,48,48,50,49,95,48,51]
noncomputable abbrev Mf:Str:=Sx [95,108,97,119,95,99,97,114,114,105,101,100]
noncomputable abbrev yt:Str:=Sx [109,97,112,95,116,97,98,108,101,95,98,51]
noncomputable abbrev yr:Str:=Sx [95,108,97,119,95,116,121,112,101,100]
noncomputable abbrev yq:Str:=Sx [95,108,97,119,95,109,111,118,101,100]
noncomputable abbrev yo:Str:=Sx [95,108,97,119,95,100,114,97,119,110]
noncomputable abbrev yn:Str:=Sx [95,108,97,119,95,119,97,118,101,115]
noncomputable abbrev IE:Str:=Sx [99,112,121,51,49,51,46,115,116,114,105,110,103,112,114,101,112]
noncomputable abbrev MA:Str:=Sx [95,65,99,99,117,109,117,108,97,116,111,114,46,112,97,114,116,95,99,111,117,110,116]
noncomputable abbrev ym:Str:=Sx [95,108,97,119,95,104,101,108,100]
noncomputable abbrev Mz:Str:=Sx [95,65,99,99,117,109,117,108,97,116,111,114,46,105,115,95,111,110,108,121,119,115]
noncomputable abbrev My:Str:=Sx [95,65,99,99,117,109,117,108,97,116,111,114,46,112,111,112,95,102,114,111,109]
noncomputable abbrev Mx:Str:=Sx [95,65,99,99,117,109,117,108,97,116,111,114,46,95,95,105,110,105,116,95,95]
noncomputable abbrev Mw:Str:=Sx [95,65,99,99,117,109,117,108,97,116,111,114,46,95,95,108,101,110,95,95]
noncomputable abbrev Mv:Str:=Sx [95,65,99,99,117,109,117,108,97,116,111,114,46,95,95,115,116,114,95,95]
noncomputable abbrev Mu:Str:=Sx [95,65,99,99,117,109,117,108,97,116,111,114,46,114,101,115,101,116]
noncomputable abbrev Bu:Str:=Sx [95,95,99,108,97,115,115,95,95]
noncomputable abbrev Dp:Str:=Sx [112,97,114,116,95,99,111,117,110,116]
noncomputable abbrev uh:Str:=Sx [95,119,97,108,108]
noncomputable abbrev ID:Str:=Sx [99,112,121,51,49,51,46,98,105,115,101,99,116]
noncomputable abbrev Mt:Str:=Sx [95,65,99,99,117,109,117,108,97,116,111,114,46,112,117,115,104]
noncomputable abbrev Dn:Str:=Sx [105,115,95,111,110,108,121,119,115]
noncomputable abbrev Ms:Str:=Sx [95,65,99,99,117,109,117,108,97,116,111,114,46,112,111,112]
noncomputable abbrev ug:Str:=Sx [115,101,108,102]
noncomputable abbrev Mr:Str:=Sx [95,95,97,110,110,111,116,97,116,105,111,110,115,95,95]
noncomputable abbrev Dm:Str:=Sx [112,111,112,95,102,114,111,109]
noncomputable abbrev Dl:Str:=Sx [95,95,105,110,105,116,95,95]
noncomputable abbrev Sh:Str:=Sx [95,95,115,116,97,116,105,99,95,97,116,116,114,105,98,117,116,101,115,95,95]
noncomputable abbrev Mq:Str:=Sx [95,95,98,117,105,108,116,105,110,115,95,95]
noncomputable abbrev Dk:Str:=Sx [95,95,108,101,110,95,95]
noncomputable abbrev Dj:Str:=Sx [95,95,115,116,114,95,95]
noncomputable abbrev vM:Str:=Sx [107,101,121]
noncomputable abbrev Mp:Str:=Sx [95,95,112,97,99,107,97,103,101,95,95]
noncomputable abbrev Sg:Str:=Sx [95,95,102,105,114,115,116,108,105,110,101,110,111,95,95]
noncomputable abbrev Mo:Str:=Sx [95,95,108,111,97,100,101,114,95,95]
noncomputable abbrev Di:Str:=Sx [114,101,115,101,116]
noncomputable abbrev Mn:Str:=Sx [69,77,80,84,89,83,84,82,73,78,71]
noncomputable abbrev Mm:Str:=Sx [95,95,99,97,99,104,101,100,95,95]
noncomputable abbrev IA:Str:=Sx [95,95,100,111,99,95,95]
noncomputable abbrev yl:Str:=Sx [108,97,119]
noncomputable abbrev Sf:Str:=Sx [98,51,95,101,120,99,101,112,116,105,111,110,115]
noncomputable abbrev Dh:Str:=Sx [112,117,115,104]
noncomputable abbrev Ml:Str:=Sx [95,95,102,105,108,101,95,95]
noncomputable abbrev Mk:Str:=Sx [95,95,110,97,109,101,95,95]
noncomputable abbrev Mj:Str:=Sx [95,95,115,112,101,99,95,95]
noncomputable abbrev Sa:Str:=Sx [95,95,119,101,97,107,114,101,102,95,95]
noncomputable abbrev R':Str:=Sx [95,95,109,111,100,117,108,101,95,95]
noncomputable abbrev Dg:Str:=Sx [112,111,112]
noncomputable abbrev Mi:Str:=Sx [98,49,95,115,101,116]
noncomputable abbrev R_:Str:=Sx [60,109,111,100,117,108,101,62]
noncomputable abbrev R9:Str:=Sx [95,95,109,97,105,110,95,95]
noncomputable abbrev R8:Str:=Sx [95,95,100,105,99,116,95,95]
noncomputable abbrev Mh:Str:=Sx [99,111,100,101]
noncomputable abbrev Iw:Str:=Sx [108,111]
noncomputable abbrev Iv:Str:=Sx [104,105]
noncomputable abbrev Mg:Str:=Sx [114,111,119]
noncomputable abbrev R7:Str:=Sx [112,108,97,99,101]
noncomputable abbrev It:Str:=Sx [120]
noncomputable abbrev R6:Str:=Sx [109,105,100]
noncomputable abbrev R5:Str:=Sx [98,111,120]
noncomputable abbrev Ik(i:Int):af:=.int i 0
noncomputable abbrev Sk(x:Str)(t:Nat):af:=.str x t
noncomputable abbrev Co(l:Array af):Obj:=⟨.type "code",none,.fields l,#[]⟩
noncomputable abbrev To(l:Array af):Obj:=⟨.type "tuple",none,.seq l 0,#[]⟩
noncomputable abbrev Fo(d:Data):Obj:=⟨.type "function",none,d,#[]⟩
noncomputable abbrev Eo:Obj:=⟨.none,none,.fields #[],#[]⟩
noncomputable abbrev De(P:ae)(x:Str)(t:Nat)(v:af):bz:=⟨f_ P x,.str x t,v⟩
noncomputable abbrev Rx:Arguments×iK:=(⟨[],[],none,[],[],none,[]⟩,⟨.module,[],false,false,[]⟩)
noncomputable abbrev Rw:List Expr×Expr×Pos:=([],.Constant .none 0 ⟨0,0,0,0⟩,⟨0,0,0,0⟩)
noncomputable def v5:Stmt->(Arguments×iK)×List Stmt×List Expr×Expr×Pos
 |.FunctionDef _ a b _ _ _ s _ _ _=>((a,s),b,Rw)
 |.ClassDef _ _ _ b _ _ _ _ _ _ _=>(Rx,b,Rw)
 |.For _ _ b _ _=>(Rx,b,Rw)
 |.While _ b _ _=>(Rx,b,Rw)
 |.If _ b _ _=>(Rx,b,Rw)
 |.Assign ts v p=>(Rx,[],ts,v,p)
 |_=>(Rx,[],Rw)
noncomputable def fA(s:Stmt):Arguments:=(v5 s).1.1
noncomputable def fB(s:Stmt):List Stmt:=(v5 s).2.1
noncomputable def fS(s:Stmt):iK:=(v5 s).1.2
noncomputable abbrev Fn(name qual:Str)(s:Stmt)(g:Addr)(cl:List (Str×Addr))(d k doc m c ct:af)(b:Addr):Data:=
 .func {name:=name,qualname:=qual,params:=fA s,body:=.stmts (fB s),scope:=fS s,globals:=g,closure:=cl,defaults:=d,kwdefaults:=k,doc:=doc,pyModule:=m,annotations:=none,code:=c,closureTuple:=ct,builtins:=b}
noncomputable abbrev pw:dW:=PySem.Challenge.pw_wc0021_03
noncomputable def ai(l:List Stmt)(k:Nat):Stmt:=(l[k]?).getD (.Pass ⟨0,0,0,0⟩)
@[irreducible] noncomputable def st(k:Nat):Stmt:=ai pw.main.body k
@[irreducible] noncomputable def cst(k:Nat):Stmt:=ai (fB (st 8)) k
def FS(_:Stmt):Type:=Stmt
noncomputable def oR(x:Stmt):FS x:=x
def FC(_:iK):Type:=iK
noncomputable def mkC(x:iK):FC x:=x
def FL(_:List bz):Type:=List bz
noncomputable def Ig(x:List bz):FL x:=x
noncomputable def YW:Stmt:=(oR (.FunctionDef _ _ _ _ _ _ _ _ _ _):FS (ai pw.main.body 0))
noncomputable def sv1:Stmt:=(oR (.Assign _ _ _):FS (ai pw.main.body 1))
noncomputable def YT:Stmt:=(oR (.FunctionDef _ _ _ _ _ _ _ _ _ _):FS (ai pw.main.body 2))
noncomputable def YS:Stmt:=(oR (.FunctionDef _ _ _ _ _ _ _ _ _ _):FS (ai pw.main.body 3))
noncomputable def YR:Stmt:=(oR (.FunctionDef _ _ _ _ _ _ _ _ _ _):FS (ai pw.main.body 4))
noncomputable def YQ:Stmt:=(oR (.FunctionDef _ _ _ _ _ _ _ _ _ _):FS (ai pw.main.body 5))
noncomputable def sv6:Stmt:=(oR (.Assign _ _ _):FS (ai pw.main.body 6))
noncomputable def sv7:Stmt:=(oR (.Assign _ _ _):FS (ai pw.main.body 7))
noncomputable def cv0:Stmt:=(oR (.FunctionDef _ _ _ _ _ _ _ _ _ _):FS (ai (fB (ai pw.main.body 8)) 0))
noncomputable def cv1:Stmt:=(oR (.FunctionDef _ _ _ _ _ _ _ _ _ _):FS (ai (fB (ai pw.main.body 8)) 1))
noncomputable def cv2:Stmt:=(oR (.FunctionDef _ _ _ _ _ _ _ _ _ _):FS (ai (fB (ai pw.main.body 8)) 2))
noncomputable def cv3:Stmt:=(oR (.FunctionDef _ _ _ _ _ _ _ _ _ _):FS (ai (fB (ai pw.main.body 8)) 3))
noncomputable def cv4:Stmt:=(oR (.FunctionDef _ _ _ _ _ _ _ _ _ _):FS (ai (fB (ai pw.main.body 8)) 4))
noncomputable def cv5:Stmt:=(oR (.FunctionDef _ _ _ _ _ _ _ _ _ _):FS (ai (fB (ai pw.main.body 8)) 5))
noncomputable def cv6:Stmt:=(oR (.FunctionDef _ _ _ _ _ _ _ _ _ _):FS (ai (fB (ai pw.main.body 8)) 6))
noncomputable def cv7:Stmt:=(oR (.FunctionDef _ _ _ _ _ _ _ _ _ _):FS (ai (fB (ai pw.main.body 8)) 7))
noncomputable def cv8:Stmt:=(oR (.FunctionDef _ _ _ _ _ _ _ _ _ _):FS (ai (fB (ai pw.main.body 8)) 8))
noncomputable def sv8:Stmt:=(oR (.ClassDef _ _ _ [cv0,cv1,cv2,cv3,cv4,cv5,cv6,cv7,cv8] _ _ _ _ _ _ _):FS (ai pw.main.body 8))
noncomputable def sv9:Stmt:=(oR (.Assign _ _ _):FS (ai pw.main.body 9))
noncomputable def YV:Stmt:=(oR (.Assign _ _ _):FS (ai pw.main.body 10))
noncomputable def NR:Stmt:=(oR (.FunctionDef _ _ _ _ _ _ _ _ _ _):FS (ai pw.main.body 11))
noncomputable def NQ:Stmt:=(oR (.FunctionDef _ _ _ _ _ _ _ _ _ _):FS (ai pw.main.body 13))
noncomputable def YU:Stmt:=(oR (.Assign _ _ _):FS (ai pw.main.body 14))
noncomputable def NP:Stmt:=(oR (.FunctionDef _ _ _ _ _ _ _ _ _ _):FS (ai pw.main.body 15))
noncomputable def NO:Stmt:=(oR (.FunctionDef _ _ _ _ _ _ _ _ _ _):FS (ai pw.main.body 16))
noncomputable def NN:Stmt:=(oR (.FunctionDef _ _ _ _ _ _ _ _ _ _):FS (ai pw.main.body 17))
noncomputable def NM:Stmt:=(oR (.FunctionDef _ _ _ _ _ _ _ _ _ _):FS (ai pw.main.body 18))
noncomputable def NL:Stmt:=(oR (.FunctionDef _ _ _ _ _ _ _ _ _ _):FS (ai pw.main.body 19))
noncomputable def NK:Stmt:=(oR (.FunctionDef _ _ _ _ _ _ _ _ _ _):FS (ai pw.main.body 20))
noncomputable def NJ:Stmt:=(oR (.FunctionDef _ _ _ _ _ _ _ _ _ _):FS (ai pw.main.body 21))
noncomputable def msc:iK:=(mkC ⟨_,_,_,_,_⟩:FC pw.main.scope)
noncomputable def mm(b:List Stmt):Module:=⟨b,msc,false,aE "/claim/cut.py",[]⟩
noncomputable def ent(P:ae):List bz:=match(boot_o_0 P).data with | .dict a _=>a.toList|_=>[]
noncomputable def W9(P:ae):List bz:=(Ig (⟨_,_,_⟩::⟨_,_,_⟩::⟨_,_,_⟩::⟨_,_,_⟩::⟨_,_,_⟩::⟨_,_,_⟩::⟨_,_,_⟩::⟨_,_,_⟩::⟨_,_,_⟩::⟨_,_,_⟩::⟨_,_,_⟩::⟨_,_,_⟩::⟨_,_,_⟩::⟨_,_,_⟩::⟨_,_,_⟩::[]):FL (jk 144 (ent P)))
noncomputable def W_(P:ae):List bz:=(Ig (⟨_,_,_⟩::⟨_,_,_⟩::⟨_,_,_⟩::⟨_,_,_⟩::⟨_,_,_⟩::⟨_,_,_⟩::⟨_,_,_⟩::⟨_,_,_⟩::⟨_,_,_⟩::⟨_,_,_⟩::⟨_,_,_⟩::⟨_,_,_⟩::⟨_,_,_⟩::⟨_,_,_⟩::⟨_,_,_⟩::⟨_,_,_⟩::W9 P):FL (jk 128 (ent P)))
noncomputable def Xa(P:ae):List bz:=(Ig (⟨_,_,_⟩::⟨_,_,_⟩::⟨_,_,_⟩::⟨_,_,_⟩::⟨_,_,_⟩::⟨_,_,_⟩::⟨_,_,_⟩::⟨_,_,_⟩::⟨_,_,_⟩::⟨_,_,_⟩::⟨_,_,_⟩::⟨_,_,_⟩::⟨_,_,_⟩::⟨_,_,_⟩::⟨_,_,_⟩::⟨_,_,_⟩::W_ P):FL (jk 112 (ent P)))
noncomputable def aa0(P:ae):List bz:=(Ig (⟨_,_,_⟩::⟨_,_,_⟩::⟨_,_,_⟩::⟨_,_,_⟩::⟨_,_,_⟩::⟨_,_,_⟩::⟨_,_,_⟩::⟨_,_,_⟩::⟨_,_,_⟩::⟨_,_,_⟩::⟨_,_,_⟩::⟨_,_,_⟩::⟨_,_,_⟩::⟨_,_,_⟩::⟨_,_,_⟩::⟨_,_,_⟩::Xa P):FL (jk 96 (ent P)))
noncomputable def aa1(P:ae):List bz:=(Ig (⟨_,_,_⟩::⟨_,_,_⟩::⟨_,_,_⟩::⟨_,_,_⟩::⟨_,_,_⟩::⟨_,_,_⟩::⟨_,_,_⟩::⟨_,_,_⟩::⟨_,_,_⟩::⟨_,_,_⟩::⟨_,_,_⟩::⟨_,_,_⟩::⟨_,_,_⟩::⟨_,_,_⟩::⟨_,_,_⟩::⟨_,_,_⟩::aa0 P):FL (jk 80 (ent P)))
noncomputable def aa2(P:ae):List bz:=(Ig (⟨_,_,_⟩::⟨_,_,_⟩::⟨_,_,_⟩::⟨_,_,_⟩::⟨_,_,_⟩::⟨_,_,_⟩::⟨_,_,_⟩::⟨_,_,_⟩::⟨_,_,_⟩::⟨_,_,_⟩::⟨_,_,_⟩::⟨_,_,_⟩::⟨_,_,_⟩::⟨_,_,_⟩::⟨_,_,_⟩::⟨_,_,_⟩::aa1 P):FL (jk 64 (ent P)))
noncomputable def aa3(P:ae):List bz:=(Ig (⟨_,_,_⟩::⟨_,_,_⟩::⟨_,_,_⟩::⟨_,_,_⟩::⟨_,_,_⟩::⟨_,_,_⟩::⟨_,_,_⟩::⟨_,_,_⟩::⟨_,_,_⟩::⟨_,_,_⟩::⟨_,_,_⟩::⟨_,_,_⟩::⟨_,_,_⟩::⟨_,_,_⟩::⟨_,_,_⟩::⟨_,_,_⟩::aa2 P):FL (jk 48 (ent P)))
noncomputable def aa4(P:ae):List bz:=(Ig (⟨_,_,_⟩::⟨_,_,_⟩::⟨_,_,_⟩::⟨_,_,_⟩::⟨_,_,_⟩::⟨_,_,_⟩::⟨_,_,_⟩::⟨_,_,_⟩::⟨_,_,_⟩::⟨_,_,_⟩::⟨_,_,_⟩::⟨_,_,_⟩::⟨_,_,_⟩::⟨_,_,_⟩::⟨_,_,_⟩::⟨_,_,_⟩::aa3 P):FL (jk 32 (ent P)))
noncomputable def aa5(P:ae):List bz:=(Ig (⟨_,_,_⟩::⟨_,_,_⟩::⟨_,_,_⟩::⟨_,_,_⟩::⟨_,_,_⟩::⟨_,_,_⟩::⟨_,_,_⟩::⟨_,_,_⟩::⟨_,_,_⟩::⟨_,_,_⟩::⟨_,_,_⟩::⟨_,_,_⟩::⟨_,_,_⟩::⟨_,_,_⟩::⟨_,_,_⟩::⟨_,_,_⟩::aa4 P):FL (jk 16 (ent P)))
noncomputable def bq0(P:ae):List bz:=(Ig (⟨_,_,_⟩::⟨_,_,_⟩::⟨_,_,_⟩::⟨_,_,_⟩::⟨_,_,_⟩::⟨_,_,_⟩::⟨_,_,_⟩::⟨_,_,_⟩::⟨_,_,_⟩::⟨_,_,_⟩::⟨_,_,_⟩::⟨_,_,_⟩::⟨_,_,_⟩::⟨_,_,_⟩::⟨_,_,_⟩::⟨_,_,_⟩::aa5 P):FL (jk 0 (ent P)))
noncomputable def Xb(P:ae):Obj:=⟨.type "dict",none,.dict (bq0 P).toArray 159,#[]⟩
noncomputable def JN(P:ae):Obj:=To #[]
noncomputable def ZD(P:ae):Obj:=Eo
noncomputable def JM(P:ae):Obj:=Co #[(Sk R_ 182),(Sk R_ 183),(Sk jX 184),(Ik 1),(Ik 0),(Ik 0),(Ik 0),(Ik 0),(R 11),(.bool false),(Ik 181),(R 12),N,N,N,N,(Ik 185),(Ik 1),(Sk jX 186)]
noncomputable def JL(P:ae):Obj:=⟨(.type "frame"),none,.plain,#[some (R 13),some (R 3),some (R 3),none,some (Sk R9 164),none,some (R 0)]⟩
noncomputable def w0(P:ae):BT:=(.node (boot_o_1 P) (.node (boot_o_3 P) (.node (boot_o_7 P) .nil .nil) (.node (JN P) .nil .nil)) (.node (boot_o_5 P) (.node (boot_o_9 P) .nil .nil) (.node (JM P) .nil .nil)))
noncomputable def w1(P:ae):BT:=(.node (boot_o_2 P) (.node (boot_o_4 P) (.node (boot_o_8 P) .nil .nil) (.node (ZD P) .nil .nil)) (.node (boot_o_6 P) (.node (boot_o_10 P) .nil .nil) (.node (JL P) .nil .nil)))
noncomputable def Tb(P:ae):BT:=(.node (Xb P) (w0 P) (w1 P))
noncomputable def nb:Nat:=15
noncomputable def kb:Nat:=187
noncomputable def C9(P:ae):Obj:=⟨(.type "dict"),none,.dict #[De P Mk 165 (Sk IE 349),De P IA 166 N,De P Mp 167 N,De P Mo 168 (.builtin "__main__.__loader__#opaque"),De P Mj 169 N,De P Mr 170 (R 6),De P Mq 171 (R 4),De P Ml 173 (Sk jX 172),De P Mm 174 N,De P uh 193 (R 21),De P IC 208 (R 30),De P IB 222 (R 39),De P Iz 235 (R 48),De P Iy 249 (R 57),De P Mn 253 (Sk (Sx []) 252),De P H_ 348 (R 137),De P Mi 410 (R 149),De P Iu 417 (R 159)] 18,#[]⟩
noncomputable def UQ(P:ae):Obj:=⟨N,none,.fields #[(Ik 1),(Ik 0),(R 20),(Ik 5),(Ik 0),(R 29),(Ik 11),(Ik 0),(R 38),(Ik 31),(Ik 0),(R 47),(Ik 37),(Ik 0),(R 56),(Ik 59),(Ik 0),(R 64),(Ik 92),(Ik 0),(R 158)],#[]⟩
noncomputable def PL(P:ae):Obj:=To #[]
noncomputable def PK(P:ae):Obj:=Eo
noncomputable def PJ(P:ae):Obj:=To #[(Sk (Sx [107]) 190)]
noncomputable def PI(P:ae):Obj:=To #[]
noncomputable def PH(P:ae):Obj:=⟨N,none,Fn uh uh YW 0 [] N N N N N N 0,#[]⟩
noncomputable def PG(P:ae):Obj:=Co #[(Sk uh 187),(Sk uh 188),(Sk jX 189),(Ik 1),(Ik 1),(Ik 0),(Ik 0),(Ik 3),(R 15),(.bool true),(Ik 181),(R 16),N,(R 17),(R 18),(R 19),(Ik 191),(Ik 1),(Sk jX 192)]
noncomputable def PF(P:ae):Obj:=Fo (Fn uh uh YW 3 [] N N N (Sk R9 164) (R 20) N 0)
noncomputable def JK(P:ae):Obj:=To #[(.int 0 196),N]
noncomputable def JJ(P:ae):Obj:=⟨(.type "dict"),none,.dict #[De P vM 197 N] 1,#[]⟩
noncomputable def PE(P:ae):Obj:=To #[]
noncomputable def PD(P:ae):Obj:=Eo
noncomputable def PC(P:ae):Obj:=To #[(Sk (Sx [97]) 201),(Sk It 202),(Sk Iw 203),(Sk Iv 204),(Sk vM 205)]
noncomputable def PB(P:ae):Obj:=To #[]
noncomputable def PA(P:ae):Obj:=⟨N,none,Fn IC IC YT 0 [] N N N N N N 0,#[]⟩
noncomputable def JI(P:ae):Obj:=Co #[(Sk IC 198),(Sk IC 199),(Sk jX 200),(Ik 5),(Ik 4),(Ik 0),(Ik 1),(Ik 3),(R 24),(.bool true),(Ik 181),(R 25),N,(R 26),(R 27),(R 28),(Ik 206),(Ik 5),(Sk jX 207)]
noncomputable def Fd(P:ae):Obj:=Fo (Fn IC IC YT 3 [] (R 22) (R 23) N (Sk ID 194) (R 29) N 0)
noncomputable def JH(P:ae):Obj:=To #[(.int 0 209),N]
noncomputable def JG(P:ae):Obj:=⟨(.type "dict"),none,.dict #[De P vM 210 N] 1,#[]⟩
noncomputable def Pz(P:ae):Obj:=To #[]
noncomputable def Py(P:ae):Obj:=Eo
noncomputable def Px(P:ae):Obj:=To #[(Sk (Sx [97]) 214),(Sk It 215),(Sk Iw 216),(Sk Iv 217),(Sk vM 218),(Sk R6 219)]
noncomputable def Pw(P:ae):Obj:=To #[]
noncomputable def Pu(P:ae):Obj:=⟨N,none,Fn IB IB YS 0 [] N N N N N N 0,#[]⟩
noncomputable def JF(P:ae):Obj:=Co #[(Sk IB 211),(Sk IB 212),(Sk jX 213),(Ik 11),(Ik 4),(Ik 0),(Ik 1),(Ik 3),(R 33),(.bool true),(Ik 181),(R 34),N,(R 35),(R 36),(R 37),(Ik 220),(Ik 11),(Sk jX 221)]
noncomputable def Fc(P:ae):Obj:=Fo (Fn IB IB YS 3 [] (R 31) (R 32) N (Sk ID 194) (R 38) N 0)
noncomputable def JE(P:ae):Obj:=To #[(.int 0 223),N]
noncomputable def JD(P:ae):Obj:=⟨(.type "dict"),none,.dict #[De P vM 224 N] 1,#[]⟩
noncomputable def Pt(P:ae):Obj:=To #[]
noncomputable def Pr(P:ae):Obj:=Eo
noncomputable def Pq(P:ae):Obj:=To #[(Sk (Sx [97]) 228),(Sk It 229),(Sk Iw 230),(Sk Iv 231),(Sk vM 232)]
noncomputable def Pp(P:ae):Obj:=To #[]
noncomputable def Po(P:ae):Obj:=⟨N,none,Fn Iz Iz YR 0 [] N N N N N N 0,#[]⟩
noncomputable def JC(P:ae):Obj:=Co #[(Sk Iz 225),(Sk Iz 226),(Sk jX 227),(Ik 31),(Ik 4),(Ik 0),(Ik 1),(Ik 3),(R 42),(.bool true),(Ik 181),(R 43),N,(R 44),(R 45),(R 46),(Ik 233),(Ik 31),(Sk jX 234)]
noncomputable def Fb(P:ae):Obj:=Fo (Fn Iz Iz YR 3 [] (R 40) (R 41) N (Sk ID 194) (R 47) N 0)
noncomputable def JB(P:ae):Obj:=To #[(.int 0 236),N]
noncomputable def JA(P:ae):Obj:=⟨(.type "dict"),none,.dict #[De P vM 237 N] 1,#[]⟩
noncomputable def Pn(P:ae):Obj:=To #[]
noncomputable def Pm(P:ae):Obj:=Eo
noncomputable def Pl(P:ae):Obj:=To #[(Sk (Sx [97]) 241),(Sk It 242),(Sk Iw 243),(Sk Iv 244),(Sk vM 245),(Sk R6 246)]
noncomputable def Pk(P:ae):Obj:=To #[]
noncomputable def Pj(P:ae):Obj:=⟨N,none,Fn Iy Iy YQ 0 [] N N N N N N 0,#[]⟩
noncomputable def Jz(P:ae):Obj:=Co #[(Sk Iy 238),(Sk Iy 239),(Sk jX 240),(Ik 37),(Ik 4),(Ik 0),(Ik 1),(Ik 3),(R 51),(.bool true),(Ik 181),(R 52),N,(R 53),(R 54),(R 55),(Ik 247),(Ik 37),(Sk jX 248)]
noncomputable def E_(P:ae):Obj:=Fo (Fn Iy Iy YQ 3 [] (R 49) (R 50) N (Sk ID 194) (R 56) N 0)
noncomputable def Ph(P:ae):Obj:=To #[(.type "list")]
noncomputable def Pg(P:ae):Obj:=⟨(.type "builtin_function_or_method"),none,.fields #[(.builtin "type.__prepare__"),(.type "type")],#[]⟩
noncomputable def Pf(P:ae):Obj:=⟨(.type "dict"),none,.dict #[De P R' 261 (Sk C8 250),De P (Sx [95,95,113,117,97,108,110,97,109,101,95,95]) 263 (Sk H_ 262),De P Sg 265 (.int 59 264),De P Dl 275 (R 74),De P Dh 284 (R 81),De P Dm 293 (R 89),De P Dg 301 (R 97),De P Dk 308 (R 104),De P Dj 315 (R 111),De P Di 323 (R 119),De P Dn 330 (R 126),De P Dp 338 (R 134),De P Sh 340 (R 135),De P (Sx [95,95,99,108,97,115,115,99,101,108,108,95,95]) 341 (R 61)] 14,#[]⟩
noncomputable def E9(P:ae):Obj:=⟨(.type "cell"),none,.cell (some (R 137)),#[]⟩
noncomputable def Pe(P:ae):Obj:=To #[]
noncomputable def Pd(P:ae):Obj:=⟨N,none,.fields #[(Ik 61),(Ik 4),(R 73),(Ik 65),(Ik 4),(R 80),(Ik 68),(Ik 4),(R 88),(Ik 71),(Ik 4),(R 96),(Ik 76),(Ik 4),(R 103),(Ik 79),(Ik 4),(R 110),(Ik 82),(Ik 4),(R 118),(Ik 85),(Ik 4),(R 125),(Ik 88),(Ik 4),(R 133)],#[]⟩
noncomputable def Pb(P:ae):Obj:=Co #[(Sk H_ 256),(Sk H_ 257),(Sk jX 258),(Ik 59),(Ik 0),(Ik 0),(Ik 0),(Ik 0),(R 62),(.bool false),(Ik 181),(R 63),N,N,N,N,(Ik 259),(Ik 59),(Sk jX 260)]
noncomputable def Pa(P:ae):Obj:=⟨(.type "frame"),none,.plain,#[some (R 64),some (R 3),some (R 60),none,some (Sk C8 250),none,some (R 0)]⟩
noncomputable def E8(P:ae):Obj:=To #[(.int 0 266)]
noncomputable def O_(P:ae):Obj:=To #[(R 61)]
noncomputable def O9(P:ae):Obj:=To #[(Sk Bu 270)]
noncomputable def O8(P:ae):Obj:=Eo
noncomputable def O7(P:ae):Obj:=To #[(Sk ug 271),(Sk (Sx [105,110,105,116,105,97,108,95,115,105,122,101]) 272)]
noncomputable def O6(P:ae):Obj:=To #[]
noncomputable def O5(P:ae):Obj:=⟨N,none,Fn Dl Mx cv0 0 [] N N N N N N 0,#[]⟩
noncomputable def E7(P:ae):Obj:=Co #[(Sk Dl 267),(Sk Mx 268),(Sk jX 269),(Ik 61),(Ik 2),(Ik 0),(Ik 0),(Ik 3),(R 68),(.bool true),(Ik 181),(R 69),N,(R 70),(R 71),(R 72),(Ik 273),(Ik 61),(Sk jX 274)]
noncomputable def E6(P:ae):Obj:=Fo (Fn Dl Mx cv0 3 [(Bu,61)] (R 66) N N (Sk C8 250) (R 73) (R 67) 0)
noncomputable def O4(P:ae):Obj:=To #[]
noncomputable def O3(P:ae):Obj:=Eo
noncomputable def O2(P:ae):Obj:=To #[(Sk ug 279),(Sk (Sx [102,119,115]) 280),(Sk (Sx [115,116,114,105,110,103]) 281)]
noncomputable def O1(P:ae):Obj:=To #[]
noncomputable def O0(P:ae):Obj:=⟨N,none,Fn Dh Mt cv1 0 [] N N N N N N 0,#[]⟩
noncomputable def E5(P:ae):Obj:=Co #[(Sk Dh 276),(Sk Mt 277),(Sk jX 278),(Ik 65),(Ik 3),(Ik 0),(Ik 0),(Ik 3),(R 75),(.bool true),(Ik 181),(R 76),N,(R 77),(R 78),(R 79),(Ik 282),(Ik 65),(Sk jX 283)]
noncomputable def E4(P:ae):Obj:=Fo (Fn Dh Mt cv1 3 [] N N N (Sk C8 250) (R 80) N 0)
noncomputable def OZ(P:ae):Obj:=To #[(.int 0 285)]
noncomputable def OY(P:ae):Obj:=To #[]
noncomputable def OX(P:ae):Obj:=Eo
noncomputable def OW(P:ae):Obj:=To #[(Sk ug 289),(Sk (Sx [105]) 290)]
noncomputable def OV(P:ae):Obj:=To #[]
noncomputable def OU(P:ae):Obj:=⟨N,none,Fn Dm My cv2 0 [] N N N N N N 0,#[]⟩
noncomputable def OT(P:ae):Obj:=Co #[(Sk Dm 286),(Sk My 287),(Sk jX 288),(Ik 68),(Ik 2),(Ik 0),(Ik 0),(Ik 3),(R 83),(.bool true),(Ik 181),(R 84),N,(R 85),(R 86),(R 87),(Ik 291),(Ik 68),(Sk jX 292)]
noncomputable def OS(P:ae):Obj:=Fo (Fn Dm My cv2 3 [] (R 82) N N (Sk C8 250) (R 88) N 0)
noncomputable def OR(P:ae):Obj:=To #[(R 61)]
noncomputable def OQ(P:ae):Obj:=To #[(Sk Bu 297)]
noncomputable def OO(P:ae):Obj:=Eo
noncomputable def ON(P:ae):Obj:=To #[(Sk ug 298)]
noncomputable def OM(P:ae):Obj:=To #[]
noncomputable def OK(P:ae):Obj:=⟨N,none,Fn Dg Ms cv3 0 [] N N N N N N 0,#[]⟩
noncomputable def E3(P:ae):Obj:=Co #[(Sk Dg 294),(Sk Ms 295),(Sk jX 296),(Ik 71),(Ik 1),(Ik 0),(Ik 0),(Ik 3),(R 91),(.bool true),(Ik 181),(R 92),N,(R 93),(R 94),(R 95),(Ik 299),(Ik 71),(Sk jX 300)]
noncomputable def E2(P:ae):Obj:=Fo (Fn Dg Ms cv3 3 [(Bu,61)] N N N (Sk C8 250) (R 96) (R 90) 0)
noncomputable def OJ(P:ae):Obj:=To #[]
noncomputable def OH(P:ae):Obj:=Eo
noncomputable def Gn(P:ae):Obj:=To #[(Sk ug 305)]
noncomputable def Gm(P:ae):Obj:=To #[]
noncomputable def Gl(P:ae):Obj:=⟨N,none,Fn Dk Mw cv4 0 [] N N N N N N 0,#[]⟩
noncomputable def tJ(P:ae):Obj:=Co #[(Sk Dk 302),(Sk Mw 303),(Sk jX 304),(Ik 76),(Ik 1),(Ik 0),(Ik 0),(Ik 3),(R 98),(.bool true),(Ik 181),(R 99),N,(R 100),(R 101),(R 102),(Ik 306),(Ik 76),(Sk jX 307)]
noncomputable def wY(P:ae):Obj:=Fo (Fn Dk Mw cv4 3 [] N N N (Sk C8 250) (R 103) N 0)
noncomputable def Gk(P:ae):Obj:=To #[]
noncomputable def Gj(P:ae):Obj:=Eo
noncomputable def Gi(P:ae):Obj:=To #[(Sk ug 312)]
noncomputable def Gh(P:ae):Obj:=To #[]
noncomputable def Gg(P:ae):Obj:=⟨N,none,Fn Dj Mv cv5 0 [] N N N N N N 0,#[]⟩
noncomputable def Gf(P:ae):Obj:=Co #[(Sk Dj 309),(Sk Mv 310),(Sk jX 311),(Ik 79),(Ik 1),(Ik 0),(Ik 0),(Ik 3),(R 105),(.bool true),(Ik 181),(R 106),N,(R 107),(R 108),(R 109),(Ik 313),(Ik 79),(Sk jX 314)]
noncomputable def Ge(P:ae):Obj:=Fo (Fn Dj Mv cv5 3 [] N N N (Sk C8 250) (R 110) N 0)
noncomputable def Gd(P:ae):Obj:=To #[N]
noncomputable def Gb(P:ae):Obj:=To #[]
noncomputable def Ga(P:ae):Obj:=Eo
noncomputable def F_(P:ae):Obj:=To #[(Sk ug 319),(Sk (Sx [115,116,97,114,116,118,97,108]) 320)]
noncomputable def F9(P:ae):Obj:=To #[]
noncomputable def F8(P:ae):Obj:=⟨N,none,Fn Di Mu cv6 0 [] N N N N N N 0,#[]⟩
noncomputable def F7(P:ae):Obj:=Co #[(Sk Di 316),(Sk Mu 317),(Sk jX 318),(Ik 82),(Ik 2),(Ik 0),(Ik 0),(Ik 3),(R 113),(.bool true),(Ik 181),(R 114),N,(R 115),(R 116),(R 117),(Ik 321),(Ik 82),(Sk jX 322)]
noncomputable def F6(P:ae):Obj:=Fo (Fn Di Mu cv6 3 [] (R 112) N N (Sk C8 250) (R 118) N 0)
noncomputable def F4(P:ae):Obj:=To #[]
noncomputable def F3(P:ae):Obj:=Eo
noncomputable def F1(P:ae):Obj:=To #[(Sk ug 327)]
noncomputable def F0(P:ae):Obj:=To #[]
noncomputable def FZ(P:ae):Obj:=⟨N,none,Fn Dn Mz cv7 0 [] N N N N N N 0,#[]⟩
noncomputable def FY(P:ae):Obj:=Co #[(Sk Dn 324),(Sk Mz 325),(Sk jX 326),(Ik 85),(Ik 1),(Ik 0),(Ik 0),(Ik 3),(R 120),(.bool true),(Ik 181),(R 121),N,(R 122),(R 123),(R 124),(Ik 328),(Ik 85),(Sk jX 329)]
noncomputable def FX(P:ae):Obj:=Fo (Fn Dn Mz cv7 3 [] N N N (Sk C8 250) (R 125) N 0)
noncomputable def FW(P:ae):Obj:=To #[(R 61)]
noncomputable def FV(P:ae):Obj:=To #[(Sk Bu 334)]
noncomputable def FU(P:ae):Obj:=Eo
noncomputable def FT(P:ae):Obj:=To #[(Sk ug 335)]
noncomputable def FR(P:ae):Obj:=To #[]
noncomputable def FQ(P:ae):Obj:=⟨N,none,Fn Dp MA cv8 0 [] N N N N N N 0,#[]⟩
noncomputable def wX(P:ae):Obj:=Co #[(Sk Dp 331),(Sk MA 332),(Sk jX 333),(Ik 88),(Ik 1),(Ik 0),(Ik 0),(Ik 3),(R 128),(.bool true),(Ik 181),(R 129),N,(R 130),(R 131),(R 132),(Ik 336),(Ik 88),(Sk jX 337)]
noncomputable def wV(P:ae):Obj:=Fo (Fn Dp MA cv8 3 [(Bu,61)] N N N (Sk C8 250) (R 133) (R 127) 0)
noncomputable def FP(P:ae):Obj:=To #[(Sk (Sx [95,105,110,105,116,105,97,108,95,115,105,122,101]) 339)]
noncomputable def AG(P:ae):Obj:=⟨(.type "dict"),none,.dict #[De P R' 261 (Sk C8 250),De P Sg 265 (.int 59 264),De P Dl 275 (R 74),De P Dh 284 (R 81),De P Dm 293 (R 89),De P Dg 301 (R 97),De P Dk 308 (R 104),De P Dj 315 (R 111),De P Di 323 (R 119),De P Dn 330 (R 126),De P Dp 338 (R 134),De P Sh 340 (R 135),De P R8 343 (R 138),De P Sa 345 (R 139),De P IA 346 N] 5,#[]⟩
noncomputable def wU(P:ae):Obj:=⟨(.type "type"),none,.cls ⟨H_,[(.type "list")],[(R 137),(.type "list"),(.type "object")],136,H_,true,[],[],false,none,false⟩,#[some (R 58),none,some (Sk H_ 254),some (Sk H_ 262),some (.builtin "list.__new__"),some (.bool true)]⟩
noncomputable def FO(P:ae):Obj:=⟨(.type "getset_descriptor"),none,.fields #[(Sk R8 342),(R 137),(.builtin "function.__dict__"),(.builtin "function.__dict__#set")],#[]⟩
noncomputable def FN(P:ae):Obj:=⟨(.type "getset_descriptor"),none,.fields #[(Sk Sa 344),(R 137),(.builtin "ExceptionGroup.__weakref__"),N],#[]⟩
noncomputable def FK(P:ae):Obj:=⟨(.type "super"),none,.fields #[(R 137),(R 137),(R 137)],#[]⟩
noncomputable def FJ(P:ae):Obj:=⟨(.type "builtin_function_or_method"),none,.fields #[(.builtin "object.__init_subclass__"),(R 137)],#[]⟩
noncomputable def FI(P:ae):Obj:=⟨(.type "list"),none,.seq #[(.int 173 351),(.int 847 352),(.int 6150 353),(.int 6155 354),(.int 6156 355),(.int 6157 356),(.int 8203 357),(.int 8204 358),(.int 8205 359),(.int 8288 360),(.int 65279 361)] 0,#[]⟩
noncomputable def FH(P:ae):Obj:=⟨(.type "range"),none,.fields #[(.int 65024 362),(.int 65040 363),(.int 1 364)],#[]⟩
noncomputable def FG(P:ae):Obj:=⟨(.type "list"),none,.seq #[(.int 65024 367),(.int 65025 368),(.int 65026 369),(.int 65027 370),(.int 65028 371),(.int 65029 372),(.int 65030 373),(.int 65031 374),(.int 65032 375),(.int 65033 376),(.int 65034 377),(.int 65035 378),(.int 65036 379),(.int 65037 380),(.int 65038 381),(.int 65039 382)] 18,#[]⟩
noncomputable def FF(P:ae):Obj:=⟨(.type "range_iterator"),none,.fields #[(Ik 65040),(Ik 0),(Ik 1)],#[]⟩
noncomputable def FE(P:ae):Obj:=To #[]
noncomputable def FD(P:ae):Obj:=⟨(.type "StopIteration"),none,.fields #[(R 146),N,N,N,(.bool false),N],#[]⟩
noncomputable def FA(P:ae):Obj:=⟨(.type "list"),none,.seq #[(.int 173 351),(.int 847 352),(.int 6150 353),(.int 6155 354),(.int 6156 355),(.int 6157 356),(.int 8203 357),(.int 8204 358),(.int 8205 359),(.int 8288 360),(.int 65279 361),(.int 65024 367),(.int 65025 368),(.int 65026 369),(.int 65027 370),(.int 65028 371),(.int 65029 372),(.int 65030 373),(.int 65031 374),(.int 65032 375),(.int 65033 376),(.int 65034 377),(.int 65035 378),(.int 65036 379),(.int 65037 380),(.int 65038 381),(.int 65039 382)] 0,#[]⟩
noncomputable def wR(P:ae):Obj:=⟨(.type "set"),none,.set #[(65024,(.int 65024 367)),(65025,(.int 65025 368)),(65026,(.int 65026 369)),(65027,(.int 65027 370)),(65028,(.int 65028 371)),(65029,(.int 65029 372)),(6150,(.int 6150 353)),(65030,(.int 65030 373)),(65031,(.int 65031 374)),(65032,(.int 65032 375)),(65033,(.int 65033 376)),(6155,(.int 6155 354)),(6156,(.int 6156 355)),(6157,(.int 6157 356)),(8203,(.int 8203 357)),(8204,(.int 8204 358)),(8205,(.int 8205 359)),(65034,(.int 65034 377)),(65035,(.int 65035 378)),(65036,(.int 65036 379)),(65037,(.int 65037 380)),(65038,(.int 65038 381)),(65039,(.int 65039 382)),(173,(.int 173 351)),(847,(.int 847 352)),(8288,(.int 8288 360)),(65279,(.int 65279 361))] 29 ⟨127,#[0,1,2,3,4,5,6,7,8,9,10,11,12,13,14,15,16,17,18,19,20,21,22,45,79,96,127],#[],0,!(P.followText "set-order"),2,true⟩,#[]⟩
noncomputable def Fz(P:ae):Obj:=⟨(.type "list_iterator"),none,.fields #[N,(Ik 27)],#[]⟩
noncomputable def Fy(P:ae):Obj:=To #[]
noncomputable def Fx(P:ae):Obj:=⟨(.type "StopIteration"),none,.fields #[(R 151),N,N,N,(.bool false),N],#[]⟩
noncomputable def Fw(P:ae):Obj:=To #[]
noncomputable def Fv(P:ae):Obj:=Eo
noncomputable def Fu(P:ae):Obj:=To #[(Sk Mh 414)]
noncomputable def Ft(P:ae):Obj:=To #[]
noncomputable def Fs(P:ae):Obj:=⟨N,none,Fn Iu Iu NR 0 [] N N N N N N 0,#[]⟩
noncomputable def AE(P:ae):Obj:=Co #[(Sk Iu 411),(Sk Iu 412),(Sk jX 413),(Ik 92),(Ik 1),(Ik 0),(Ik 0),(Ik 3),(R 153),(.bool true),(Ik 181),(R 154),N,(R 155),(R 156),(R 157),(Ik 415),(Ik 92),(Sk jX 416)]
noncomputable def AD(P:ae):Obj:=Fo (Fn Iu Iu NR 3 [] N N N (Sk IE 349) (R 158) N 0)
noncomputable def w2(P:ae):BT:=(.node (PL P) (.node (JH P) (.node (Pd P) (.node (FW P) .nil .nil) .nil) (.node (OK P) (.node (AD P) .nil .nil) .nil)) (.node (JC P) (.node (O0 P) (.node (FH P) .nil .nil) .nil) (.node (Ge P) .nil .nil)))
noncomputable def w3(P:ae):BT:=(.node (JJ P) (.node (Fc P) (.node (O6 P) (.node (FP P) .nil .nil) .nil) (.node (tJ P) .nil .nil)) (.node (Pj P) (.node (OU P) (.node (Fy P) .nil .nil) .nil) (.node (F6 P) .nil .nil)))
noncomputable def w4(P:ae):BT:=(.node (PH P) (.node (Px P) (.node (O_ P) (.node (FR P) .nil .nil) .nil) (.node (OH P) .nil .nil)) (.node (Pn P) (.node (OY P) (.node (FD P) .nil .nil) .nil) (.node (F_ P) .nil .nil)))
noncomputable def w5(P:ae):BT:=(.node (PB P) (.node (Pr P) (.node (O4 P) (.node (FN P) .nil .nil) .nil) (.node (Gi P) .nil .nil)) (.node (Pg P) (.node (OQ P) (.node (Fu P) .nil .nil) .nil) (.node (F0 P) .nil .nil)))
noncomputable def w6(P:ae):BT:=(.node (PJ P) (.node (Pz P) (.node (Pa P) (.node (FU P) .nil .nil) .nil) (.node (E2 P) .nil .nil)) (.node (JB P) (.node (E4 P) (.node (FF P) .nil .nil) .nil) (.node (Gb P) .nil .nil)))
noncomputable def w7(P:ae):BT:=(.node (PD P) (.node (JD P) (.node (E7 P) (.node (wU P) .nil .nil) .nil) (.node (Gk P) .nil .nil)) (.node (E_ P) (.node (OS P) (.node (Fw P) .nil .nil) .nil) (.node (F3 P) .nil .nil)))
noncomputable def w8(P:ae):BT:=(.node (PF P) (.node (Pu P) (.node (O8 P) (.node (wX P) .nil .nil) .nil) (.node (Gm P) .nil .nil)) (.node (Pl P) (.node (OW P) (.node (wR P) .nil .nil) .nil) (.node (F8 P) .nil .nil)))
noncomputable def w9(P:ae):BT:=(.node (JI P) (.node (Pp P) (.node (O2 P) (.node (FJ P) .nil .nil) .nil) (.node (Gg P) .nil .nil)) (.node (E9 P) (.node (ON P) (.node (Fs P) .nil .nil) .nil) (.node (FY P) .nil .nil)))
noncomputable def Th(P:ae):BT:=(.node (C9 P) (.node (boot_o_7 P) (w2 P) (w3 P)) (.node (JN P) (w4 P) (w5 P)))
noncomputable def Tg(P:ae):BT:=(.node (boot_o_5 P) (.node (boot_o_9 P) (w6 P) (w7 P)) (.node (JM P) (w8 P) (w9 P)))
noncomputable def Tf(P:ae):BT:=(.node (PK P) (.node (JG P) (.node (Pb P) (.node (FV P) .nil .nil) .nil) (.node (E3 P) .nil .nil)) (.node (Fb P) (.node (E5 P) (.node (FG P) .nil .nil) .nil) (.node (Gd P) .nil .nil)))
noncomputable def w13(P:ae):BT:=(.node (PE P) (.node (JE P) (.node (O5 P) (.node (AG P) .nil .nil) .nil) (.node (wY P) .nil .nil)) (.node (Jz P) (.node (OT P) (.node (Fx P) .nil .nil) .nil) (.node (F4 P) .nil .nil)))
noncomputable def w14(P:ae):BT:=(.node (PG P) (.node (Pw P) (.node (O9 P) (.node (FQ P) .nil .nil) .nil) (.node (Gn P) .nil .nil)) (.node (Pm P) (.node (OX P) (.node (FA P) .nil .nil) .nil) (.node (F9 P) .nil .nil)))
noncomputable def w15(P:ae):BT:=(.node (PA P) (.node (Pq P) (.node (O3 P) (.node (FK P) .nil .nil) .nil) (.node (Gh P) .nil .nil)) (.node (Pf P) (.node (OO P) (.node (Ft P) .nil .nil) .nil) (.node (FZ P) .nil .nil)))
noncomputable def w16(P:ae):BT:=(.node (PI P) (.node (Py P) (.node (E8 P) (.node (FT P) .nil .nil) .nil) (.node (OJ P) .nil .nil)) (.node (JA P) (.node (OZ P) (.node (FE P) .nil .nil) .nil) (.node (Ga P) .nil .nil)))
noncomputable def w17(P:ae):BT:=(.node (PC P) (.node (Pt P) (.node (E6 P) (.node (FO P) .nil .nil) .nil) (.node (Gj P) .nil .nil)) (.node (Ph P) (.node (OR P) (.node (Fv P) .nil .nil) .nil) (.node (F1 P) .nil .nil)))
noncomputable def w18(P:ae):BT:=(.node (JK P) (.node (JF P) (.node (O7 P) (.node (wV P) .nil .nil) .nil) (.node (Gl P) .nil .nil)) (.node (Pk P) (.node (OV P) (.node (Fz P) .nil .nil) .nil) (.node (F7 P) .nil .nil)))
noncomputable def w19(P:ae):BT:=(.node (Fd P) (.node (Po P) (.node (O1 P) (.node (FI P) .nil .nil) .nil) (.node (Gf P) .nil .nil)) (.node (Pe P) (.node (OM P) (.node (AE P) .nil .nil) .nil) (.node (FX P) .nil .nil)))
noncomputable def w20(P:ae):BT:=(.node (boot_o_4 P) (.node (boot_o_8 P) (Tf P) (w13 P)) (.node (UQ P) (w14 P) (w15 P)))
noncomputable def w21(P:ae):BT:=(.node (boot_o_6 P) (.node (boot_o_10 P) (w16 P) (w17 P)) (.node (JL P) (w18 P) (w19 P)))
noncomputable def Tc(P:ae):BT:=(.node (Xb P) (.node (boot_o_1 P) (Th P) (Tg P)) (.node (boot_o_2 P) (w20 P) (w21 P)))
noncomputable def nc:Nat:=160
noncomputable def kc:Nat:=418
noncomputable def XJ(P:ae)(kt:Nat):Obj:=⟨(.type "dict"),none,.dict #[De P Mk 165 (Sk IE 349),De P IA 166 N,De P Mp 167 N,De P Mo 168 (.builtin "__main__.__loader__#opaque"),De P Mj 169 N,De P Mr 170 (R 6),De P Mq 171 (R 4),De P Ml 173 (Sk jX 172),De P Mm 174 N,De P uh 193 (R 21),De P IC 208 (R 30),De P IB 222 (R 39),De P Iz 235 (R 48),De P Iy 249 (R 57),De P Mn 253 (Sk (Sx []) 252),De P H_ 348 (R 137),De P Mi 410 (R 149),De P Iu 417 (R 159),De P Sf kt (R 160)] 19,#[]⟩
noncomputable def w22(P:ae)(f:Nat->Obj):BT:=(.node (JH P) (.node (Pd P) (.node (FW P) .nil .nil) (.node (f 31) .nil .nil)) (.node (OK P) (.node (AD P) .nil .nil) .nil))
noncomputable def w23(P:ae)(f:Nat->Obj):BT:=(.node (JC P) (.node (O0 P) (.node (FH P) .nil .nil) .nil) (.node (Ge P) (.node (f 15) .nil .nil) .nil))
noncomputable def w24(P:ae)(f:Nat->Obj):BT:=(.node (Fc P) (.node (O6 P) (.node (FP P) .nil .nil) .nil) (.node (tJ P) (.node (f 7) .nil .nil) .nil))
noncomputable def w25(P:ae)(f:Nat->Obj):BT:=(.node (Pj P) (.node (OU P) (.node (Fy P) .nil .nil) .nil) (.node (F6 P) (.node (f 23) .nil .nil) .nil))
noncomputable def w26(P:ae)(f:Nat->Obj):BT:=(.node (Px P) (.node (O_ P) (.node (FR P) .nil .nil) (.node (f 35) .nil .nil)) (.node (OH P) (.node (f 3) .nil .nil) .nil))
noncomputable def w27(P:ae)(f:Nat->Obj):BT:=(.node (Pn P) (.node (OY P) (.node (FD P) .nil .nil) .nil) (.node (F_ P) (.node (f 19) .nil .nil) .nil))
noncomputable def w28(P:ae)(f:Nat->Obj):BT:=(.node (Pr P) (.node (O4 P) (.node (FN P) .nil .nil) .nil) (.node (Gi P) (.node (f 11) .nil .nil) .nil))
noncomputable def w29(P:ae)(f:Nat->Obj):BT:=(.node (Pg P) (.node (OQ P) (.node (Fu P) .nil .nil) .nil) (.node (F0 P) (.node (f 27) .nil .nil) .nil))
noncomputable def w30(P:ae)(f:Nat->Obj):BT:=(.node (boot_o_7 P) (.node (PL P) (w22 P f) (w23 P f)) (.node (JJ P) (w24 P f) (w25 P f)))
noncomputable def w31(P:ae)(f:Nat->Obj):BT:=(.node (JN P) (.node (PH P) (w26 P f) (w27 P f)) (.node (PB P) (w28 P f) (w29 P f)))
noncomputable def w32(P:ae)(f:Nat->Obj):BT:=(.node (Pz P) (.node (Pa P) (.node (FU P) .nil .nil) (.node (f 33) .nil .nil)) (.node (E2 P) (.node (f 1) .nil .nil) .nil))
noncomputable def w33(P:ae)(f:Nat->Obj):BT:=(.node (JB P) (.node (E4 P) (.node (FF P) .nil .nil) .nil) (.node (Gb P) (.node (f 17) .nil .nil) .nil))
noncomputable def w34(P:ae)(f:Nat->Obj):BT:=(.node (JD P) (.node (E7 P) (.node (wU P) .nil .nil) .nil) (.node (Gk P) (.node (f 9) .nil .nil) .nil))
noncomputable def w35(P:ae)(f:Nat->Obj):BT:=(.node (E_ P) (.node (OS P) (.node (Fw P) .nil .nil) .nil) (.node (F3 P) (.node (f 25) .nil .nil) .nil))
noncomputable def w36(P:ae)(f:Nat->Obj):BT:=(.node (Pu P) (.node (O8 P) (.node (wX P) .nil .nil) (.node (f 37) .nil .nil)) (.node (Gm P) (.node (f 5) .nil .nil) .nil))
noncomputable def w37(P:ae)(f:Nat->Obj):BT:=(.node (Pl P) (.node (OW P) (.node (wR P) .nil .nil) .nil) (.node (F8 P) (.node (f 21) .nil .nil) .nil))
noncomputable def w38(P:ae)(f:Nat->Obj):BT:=(.node (Pp P) (.node (O2 P) (.node (FJ P) .nil .nil) .nil) (.node (Gg P) (.node (f 13) .nil .nil) .nil))
noncomputable def w39(P:ae)(f:Nat->Obj):BT:=(.node (E9 P) (.node (ON P) (.node (Fs P) .nil .nil) .nil) (.node (FY P) (.node (f 29) .nil .nil) .nil))
noncomputable def w40(P:ae)(f:Nat->Obj):BT:=(.node (boot_o_9 P) (.node (PJ P) (w32 P f) (w33 P f)) (.node (PD P) (w34 P f) (w35 P f)))
noncomputable def w41(P:ae)(f:Nat->Obj):BT:=(.node (JM P) (.node (PF P) (w36 P f) (w37 P f)) (.node (JI P) (w38 P f) (w39 P f)))
noncomputable def w42(P:ae)(f:Nat->Obj):BT:=(.node (JG P) (.node (Pb P) (.node (FV P) .nil .nil) (.node (f 32) .nil .nil)) (.node (E3 P) (.node (f 0) .nil .nil) .nil))
noncomputable def w43(P:ae)(f:Nat->Obj):BT:=(.node (Fb P) (.node (E5 P) (.node (FG P) .nil .nil) .nil) (.node (Gd P) (.node (f 16) .nil .nil) .nil))
noncomputable def w44(P:ae)(f:Nat->Obj):BT:=(.node (JE P) (.node (O5 P) (.node (AG P) .nil .nil) .nil) (.node (wY P) (.node (f 8) .nil .nil) .nil))
noncomputable def w45(P:ae)(f:Nat->Obj):BT:=(.node (Jz P) (.node (OT P) (.node (Fx P) .nil .nil) .nil) (.node (F4 P) (.node (f 24) .nil .nil) .nil))
noncomputable def w46(P:ae)(f:Nat->Obj):BT:=(.node (Pw P) (.node (O9 P) (.node (FQ P) .nil .nil) (.node (f 36) .nil .nil)) (.node (Gn P) (.node (f 4) .nil .nil) .nil))
noncomputable def w47(P:ae)(f:Nat->Obj):BT:=(.node (Pm P) (.node (OX P) (.node (FA P) .nil .nil) .nil) (.node (F9 P) (.node (f 20) .nil .nil) .nil))
noncomputable def w48(P:ae)(f:Nat->Obj):BT:=(.node (Pq P) (.node (O3 P) (.node (FK P) .nil .nil) .nil) (.node (Gh P) (.node (f 12) .nil .nil) .nil))
noncomputable def w49(P:ae)(f:Nat->Obj):BT:=(.node (Pf P) (.node (OO P) (.node (Ft P) .nil .nil) .nil) (.node (FZ P) (.node (f 28) .nil .nil) .nil))
noncomputable def w50(P:ae)(f:Nat->Obj):BT:=(.node (boot_o_8 P) (.node (PK P) (w42 P f) (w43 P f)) (.node (PE P) (w44 P f) (w45 P f)))
noncomputable def w51(P:ae)(f:Nat->Obj):BT:=(.node (UQ P) (.node (PG P) (w46 P f) (w47 P f)) (.node (PA P) (w48 P f) (w49 P f)))
noncomputable def w52(P:ae)(f:Nat->Obj):BT:=(.node (Py P) (.node (E8 P) (.node (FT P) .nil .nil) (.node (f 34) .nil .nil)) (.node (OJ P) (.node (f 2) .nil .nil) .nil))
noncomputable def w53(P:ae)(f:Nat->Obj):BT:=(.node (JA P) (.node (OZ P) (.node (FE P) .nil .nil) .nil) (.node (Ga P) (.node (f 18) .nil .nil) .nil))
noncomputable def w54(P:ae)(f:Nat->Obj):BT:=(.node (Pt P) (.node (E6 P) (.node (FO P) .nil .nil) .nil) (.node (Gj P) (.node (f 10) .nil .nil) .nil))
noncomputable def w55(P:ae)(f:Nat->Obj):BT:=(.node (Ph P) (.node (OR P) (.node (Fv P) .nil .nil) .nil) (.node (F1 P) (.node (f 26) .nil .nil) .nil))
noncomputable def w56(P:ae)(f:Nat->Obj):BT:=(.node (JF P) (.node (O7 P) (.node (wV P) .nil .nil) (.node (f 38) .nil .nil)) (.node (Gl P) (.node (f 6) .nil .nil) .nil))
noncomputable def w57(P:ae)(f:Nat->Obj):BT:=(.node (Pk P) (.node (OV P) (.node (Fz P) .nil .nil) .nil) (.node (F7 P) (.node (f 22) .nil .nil) .nil))
noncomputable def w58(P:ae)(f:Nat->Obj):BT:=(.node (Po P) (.node (O1 P) (.node (FI P) .nil .nil) .nil) (.node (Gf P) (.node (f 14) .nil .nil) .nil))
noncomputable def w59(P:ae)(f:Nat->Obj):BT:=(.node (Pe P) (.node (OM P) (.node (AE P) .nil .nil) .nil) (.node (FX P) (.node (f 30) .nil .nil) .nil))
noncomputable def w60(P:ae)(f:Nat->Obj):BT:=(.node (boot_o_10 P) (.node (PI P) (w52 P f) (w53 P f)) (.node (PC P) (w54 P f) (w55 P f)))
noncomputable def w61(P:ae)(f:Nat->Obj):BT:=(.node (JL P) (.node (JK P) (w56 P f) (w57 P f)) (.node (Fd P) (w58 P f) (w59 P f)))
noncomputable def w62(P:ae)(f:Nat->Obj)(kt:Nat):BT:=(.node (boot_o_1 P) (.node (XJ P kt) (w30 P f) (w31 P f)) (.node (boot_o_5 P) (w40 P f) (w41 P f)))
noncomputable def w63(P:ae)(f:Nat->Obj):BT:=(.node (boot_o_2 P) (.node (boot_o_4 P) (w50 P f) (w51 P f)) (.node (boot_o_6 P) (w60 P f) (w61 P f)))
noncomputable def Td(P:ae)(f:Nat->Obj)(kt:Nat):BT:=(.node (Xb P) (w62 P f kt) (w63 P f))
noncomputable def nd:Nat:=199
noncomputable def o3e(P:ae)(kt tk:Nat):Obj:=⟨(.type "dict"),none,.dict #[De P Mk 165 (Sk K8 (tk+8)),De P IA 166 N,De P Mp 167 N,De P Mo 168 (.builtin "__main__.__loader__#opaque"),De P Mj 169 N,De P Mr 170 (R 6),De P Mq 171 (R 4),De P Ml 173 (Sk jX 172),De P Mm 174 N,De P uh 193 (R 21),De P IC 208 (R 30),De P IB 222 (R 39),De P Iz 235 (R 48),De P Iy 249 (R 57),De P Mn 253 (Sk (Sx []) 252),De P H_ 348 (R 137),De P Mi 410 (R 149),De P Iu 417 (R 159),De P Sf kt (R 160),De P yt (tk+7) (R 205),De P yo (tk+15) (R 210),De P yr (tk+33) (R 217),De P yn (tk+39) (R 222),De P yq (tk+53) (R 229),De P Mf (tk+69) (R 236),De P ym (tk+75) (R 241),De P yl (tk+81) (R 246)] 27,#[]⟩
noncomputable def ZC(P:ae)(kt tk:Nat):Obj:=⟨N,none,.fields #[(Ik 1),(Ik 0),(R 20),(Ik 5),(Ik 0),(R 29),(Ik 11),(Ik 0),(R 38),(Ik 31),(Ik 0),(R 47),(Ik 37),(Ik 0),(R 56),(Ik 59),(Ik 0),(R 64),(Ik 92),(Ik 0),(R 158),(Ik 95),(Ik 0),(R 204),(Ik 101),(Ik 0),(R 209),(Ik 106),(Ik 0),(R 216),(Ik 120),(Ik 0),(R 221),(Ik 132),(Ik 0),(R 228),(Ik 144),(Ik 0),(R 235),(Ik 158),(Ik 0),(R 240),(Ik 174),(Ik 0),(R 245)],#[]⟩
noncomputable def UP(P:ae)(kt tk:Nat):Obj:=To #[]
noncomputable def UO(P:ae)(kt tk:Nat):Obj:=Eo
noncomputable def UN(P:ae)(kt tk:Nat):Obj:=To #[(Sk Mh (tk+3)),(Sk (Sx [114]) (tk+4))]
noncomputable def UM(P:ae)(kt tk:Nat):Obj:=To #[]
noncomputable def UL(P:ae)(kt tk:Nat):Obj:=⟨N,none,Fn yt yt NQ 0 [] N N N N N N 0,#[]⟩
noncomputable def Lx(P:ae)(kt tk:Nat):Obj:=Co #[(Sk yt (tk+0)),(Sk yt (tk+1)),(Sk jX (tk+2)),(Ik 95),(Ik 1),(Ik 0),(Ik 0),(Ik 3),(R 199),(.bool true),(Ik 181),(R 200),N,(R 201),(R 202),(R 203),(.int (kr (tk+5)) 0),(Ik 95),(Sk jX (tk+6))]
noncomputable def Lw(P:ae)(kt tk:Nat):Obj:=Fo (Fn yt yt NQ 3 [] N N N (Sk IE 349) (R 204) N 0)
noncomputable def UK(P:ae)(kt tk:Nat):Obj:=To #[]
noncomputable def UJ(P:ae)(kt tk:Nat):Obj:=Eo
noncomputable def UI(P:ae)(kt tk:Nat):Obj:=⟨N,none,Fn yo yo NP 0 [] N N N N N N 0,#[]⟩
noncomputable def Lv(P:ae)(kt tk:Nat):Obj:=Co #[(Sk yo (tk+10)),(Sk yo (tk+11)),(Sk jX (tk+12)),(Ik 101),(Ik 1),(Ik 0),(Ik 0),(Ik 3),(R 206),(.bool true),(Ik 181),(R 207),N,N,N,(R 208),(.int (kr (tk+13)) 0),(Ik 101),(Sk jX (tk+14))]
noncomputable def Fq(P:ae)(kt tk:Nat):Obj:=Fo (Fn yo yo NP 3 [] N N N (Sk K8 (tk+8)) (R 209) N 0)
noncomputable def UH(P:ae)(kt tk:Nat):Obj:=To #[]
noncomputable def UG(P:ae)(kt tk:Nat):Obj:=Eo
noncomputable def UE(P:ae)(kt tk:Nat):Obj:=To #[(Sk (Sx [108,105,110,101]) (tk+19)),(Sk (Sx [100,114,101,115,115]) (tk+20)),(Sk (Sx [112,97,99,101]) (tk+21)),(Sk (Sx [119,105,100,101]) (tk+22)),(Sk (Sx [117,110,115,101,101,110]) (tk+23)),(Sk (Sx [116,101,120,116]) (tk+24)),(Sk R7 (tk+25)),(Sk (Sx [107,105,110,100]) (tk+26)),(Sk (Sx [115,105,122,101]) (tk+27)),(Sk Mh (tk+28)),(Sk (Sx [109,111,118,101]) (tk+29)),(Sk (Sx [109,97,110,121]) (tk+30))]
noncomputable def UD(P:ae)(kt tk:Nat):Obj:=To #[]
noncomputable def UC(P:ae)(kt tk:Nat):Obj:=⟨N,none,Fn yr yr NO 0 [] N N N N N N 0,#[]⟩
noncomputable def Lu(P:ae)(kt tk:Nat):Obj:=Co #[(Sk yr (tk+16)),(Sk yr (tk+17)),(Sk jX (tk+18)),(Ik 106),(Ik 3),(Ik 0),(Ik 0),(Ik 3),(R 211),(.bool true),(Ik 181),(R 212),N,(R 213),(R 214),(R 215),(.int (kr (tk+31)) 0),(Ik 106),(Sk jX (tk+32))]
noncomputable def Fp(P:ae)(kt tk:Nat):Obj:=Fo (Fn yr yr NO 3 [] N N N (Sk K8 (tk+8)) (R 216) N 0)
noncomputable def UB(P:ae)(kt tk:Nat):Obj:=To #[]
noncomputable def UA(P:ae)(kt tk:Nat):Obj:=Eo
noncomputable def Uz(P:ae)(kt tk:Nat):Obj:=⟨N,none,Fn yn yn NN 0 [] N N N N N N 0,#[]⟩
noncomputable def Ls(P:ae)(kt tk:Nat):Obj:=Co #[(Sk yn (tk+34)),(Sk yn (tk+35)),(Sk jX (tk+36)),(Ik 120),(Ik 1),(Ik 0),(Ik 0),(Ik 3),(R 218),(.bool true),(Ik 181),(R 219),N,N,N,(R 220),(.int (kr (tk+37)) 0),(Ik 120),(Sk jX (tk+38))]
noncomputable def Fm(P:ae)(kt tk:Nat):Obj:=Fo (Fn yn yn NN 3 [] N N N (Sk K8 (tk+8)) (R 221) N 0)
noncomputable def Uy(P:ae)(kt tk:Nat):Obj:=To #[]
noncomputable def Ux(P:ae)(kt tk:Nat):Obj:=Eo
noncomputable def Uw(P:ae)(kt tk:Nat):Obj:=To #[(Sk Mg (tk+43)),(Sk (Sx [116,117,114,110]) (tk+44)),(Sk (Sx [115,112,111,116,115]) (tk+45)),(Sk (Sx [98,97,108,108,115]) (tk+46)),(Sk (Sx [98,97,108,108]) (tk+47)),(Sk R7 (tk+48)),(Sk R5 (tk+49))]
noncomputable def Uv(P:ae)(kt tk:Nat):Obj:=To #[(Sk Mg (tk+50))]
noncomputable def Uu(P:ae)(kt tk:Nat):Obj:=⟨N,none,Fn yq yq NM 0 [] N N N N N N 0,#[]⟩
noncomputable def Fl(P:ae)(kt tk:Nat):Obj:=Co #[(Sk yq (tk+40)),(Sk yq (tk+41)),(Sk jX (tk+42)),(Ik 132),(Ik 2),(Ik 0),(Ik 0),(Ik 3),(R 223),(.bool true),(Ik 181),(R 224),N,(R 225),(R 226),(R 227),(.int (kr (tk+51)) 0),(Ik 132),(Sk jX (tk+52))]
noncomputable def Fj(P:ae)(kt tk:Nat):Obj:=Fo (Fn yq yq NM 3 [] N N N (Sk K8 (tk+8)) (R 228) N 0)
noncomputable def Ut(P:ae)(kt tk:Nat):Obj:=To #[]
noncomputable def Us(P:ae)(kt tk:Nat):Obj:=Eo
noncomputable def Ur(P:ae)(kt tk:Nat):Obj:=To #[(Sk Mg (tk+57)),(Sk (Sx [98,111,120,101,115]) (tk+58)),(Sk (Sx [112,105,108,101]) (tk+59)),(Sk (Sx [114,111,111,109]) (tk+60)),(Sk (Sx [108,97,105,100]) (tk+61)),(Sk (Sx [119,97,121,115]) (tk+62)),(Sk (Sx [109,111,115,116]) (tk+63)),(Sk R5 (tk+64)),(Sk (Sx [98,108,97,110,107,115]) (tk+65)),(Sk (Sx [115,105,103,110]) (tk+66))]
noncomputable def Uq(P:ae)(kt tk:Nat):Obj:=To #[]
noncomputable def Up(P:ae)(kt tk:Nat):Obj:=⟨N,none,Fn Mf Mf NL 0 [] N N N N N N 0,#[]⟩
noncomputable def Lr(P:ae)(kt tk:Nat):Obj:=Co #[(Sk Mf (tk+54)),(Sk Mf (tk+55)),(Sk jX (tk+56)),(Ik 144),(Ik 4),(Ik 0),(Ik 0),(Ik 3),(R 230),(.bool true),(Ik 181),(R 231),N,(R 232),(R 233),(R 234),(.int (kr (tk+67)) 0),(Ik 144),(Sk jX (tk+68))]
noncomputable def Fh(P:ae)(kt tk:Nat):Obj:=Fo (Fn Mf Mf NL 3 [] N N N (Sk K8 (tk+8)) (R 235) N 0)
noncomputable def Uo(P:ae)(kt tk:Nat):Obj:=To #[]
noncomputable def Un(P:ae)(kt tk:Nat):Obj:=Eo
noncomputable def Um(P:ae)(kt tk:Nat):Obj:=⟨N,none,Fn ym ym NK 0 [] N N N N N N 0,#[]⟩
noncomputable def Fg(P:ae)(kt tk:Nat):Obj:=Co #[(Sk ym (tk+70)),(Sk ym (tk+71)),(Sk jX (tk+72)),(Ik 158),(Ik 1),(Ik 0),(Ik 0),(Ik 3),(R 237),(.bool true),(Ik 181),(R 238),N,N,N,(R 239),(.int (kr (tk+73)) 0),(Ik 158),(Sk jX (tk+74))]
noncomputable def Ff(P:ae)(kt tk:Nat):Obj:=Fo (Fn ym ym NK 3 [] N N N (Sk K8 (tk+8)) (R 240) N 0)
noncomputable def Ul(P:ae)(kt tk:Nat):Obj:=To #[]
noncomputable def Uk(P:ae)(kt tk:Nat):Obj:=Eo
noncomputable def Uj(P:ae)(kt tk:Nat):Obj:=⟨N,none,Fn yl yl NJ 0 [] N N N N N N 0,#[]⟩
noncomputable def Lq(P:ae)(kt tk:Nat):Obj:=Co #[(Sk yl (tk+76)),(Sk yl (tk+77)),(Sk jX (tk+78)),(Ik 174),(Ik 1),(Ik 0),(Ik 0),(Ik 3),(R 242),(.bool true),(Ik 181),(R 243),N,N,N,(R 244),(.int (kr (tk+79)) 0),(Ik 174),(Sk jX (tk+80))]
noncomputable def Fe(P:ae)(kt tk:Nat):Obj:=Fo (Fn yl yl NJ 3 [] N N N (Sk K8 (tk+8)) (R 245) N 0)
noncomputable def w64(P:ae)(f:Nat->Obj)(kt tk:Nat):BT:=(.node (JH P) (.node (Pd P) (.node (FW P) .nil .nil) (.node (f 31) .nil .nil)) (.node (OK P) (.node (AD P) .nil .nil) (.node (Uy P kt tk) .nil .nil)))
noncomputable def w65(P:ae)(f:Nat->Obj)(kt tk:Nat):BT:=(.node (JC P) (.node (O0 P) (.node (FH P) .nil .nil) (.node (UJ P kt tk) .nil .nil)) (.node (Ge P) (.node (f 15) .nil .nil) (.node (Um P kt tk) .nil .nil)))
noncomputable def w66(P:ae)(f:Nat->Obj)(kt tk:Nat):BT:=(.node (Fc P) (.node (O6 P) (.node (FP P) .nil .nil) (.node (UP P kt tk) .nil .nil)) (.node (tJ P) (.node (f 7) .nil .nil) (.node (Us P kt tk) .nil .nil)))
noncomputable def w67(P:ae)(f:Nat->Obj)(kt tk:Nat):BT:=(.node (Pj P) (.node (OU P) (.node (Fy P) .nil .nil) (.node (UC P kt tk) .nil .nil)) (.node (F6 P) (.node (f 23) .nil .nil) .nil))
noncomputable def w68(P:ae)(f:Nat->Obj)(kt tk:Nat):BT:=(.node (Px P) (.node (O_ P) (.node (FR P) .nil .nil) (.node (f 35) .nil .nil)) (.node (OH P) (.node (f 3) .nil .nil) (.node (Uu P kt tk) .nil .nil)))
noncomputable def w69(P:ae)(f:Nat->Obj)(kt tk:Nat):BT:=(.node (Pn P) (.node (OY P) (.node (FD P) .nil .nil) (.node (UH P kt tk) .nil .nil)) (.node (F_ P) (.node (f 19) .nil .nil) (.node (Uk P kt tk) .nil .nil)))
noncomputable def w70(P:ae)(f:Nat->Obj)(kt tk:Nat):BT:=(.node (Pr P) (.node (O4 P) (.node (FN P) .nil .nil) (.node (UL P kt tk) .nil .nil)) (.node (Gi P) (.node (f 11) .nil .nil) (.node (Lr P kt tk) .nil .nil)))
noncomputable def w71(P:ae)(f:Nat->Obj)(kt tk:Nat):BT:=(.node (Pg P) (.node (OQ P) (.node (Fu P) .nil .nil) (.node (UA P kt tk) .nil .nil)) (.node (F0 P) (.node (f 27) .nil .nil) .nil))
noncomputable def w72(P:ae)(f:Nat->Obj)(kt tk:Nat):BT:=(.node (boot_o_7 P) (.node (PL P) (w64 P f kt tk) (w65 P f kt tk)) (.node (JJ P) (w66 P f kt tk) (w67 P f kt tk)))
noncomputable def w73(P:ae)(f:Nat->Obj)(kt tk:Nat):BT:=(.node (JN P) (.node (PH P) (w68 P f kt tk) (w69 P f kt tk)) (.node (PB P) (w70 P f kt tk) (w71 P f kt tk)))
noncomputable def w74(P:ae)(f:Nat->Obj)(kt tk:Nat):BT:=(.node (Pz P) (.node (Pa P) (.node (FU P) .nil .nil) (.node (f 33) .nil .nil)) (.node (E2 P) (.node (f 1) .nil .nil) (.node (Uw P kt tk) .nil .nil)))
noncomputable def w75(P:ae)(f:Nat->Obj)(kt tk:Nat):BT:=(.node (JB P) (.node (E4 P) (.node (FF P) .nil .nil) (.node (Lv P kt tk) .nil .nil)) (.node (Gb P) (.node (f 17) .nil .nil) (.node (Ff P kt tk) .nil .nil)))
noncomputable def w76(P:ae)(f:Nat->Obj)(kt tk:Nat):BT:=(.node (JD P) (.node (E7 P) (.node (wU P) .nil .nil) (.node (UN P kt tk) .nil .nil)) (.node (Gk P) (.node (f 9) .nil .nil) (.node (Uq P kt tk) .nil .nil)))
noncomputable def w77(P:ae)(f:Nat->Obj)(kt tk:Nat):BT:=(.node (E_ P) (.node (OS P) (.node (Fw P) .nil .nil) (.node (Fp P kt tk) .nil .nil)) (.node (F3 P) (.node (f 25) .nil .nil) .nil))
noncomputable def w78(P:ae)(f:Nat->Obj)(kt tk:Nat):BT:=(.node (Pu P) (.node (O8 P) (.node (wX P) .nil .nil) (.node (f 37) .nil .nil)) (.node (Gm P) (.node (f 5) .nil .nil) (.node (Fj P kt tk) .nil .nil)))
noncomputable def w79(P:ae)(f:Nat->Obj)(kt tk:Nat):BT:=(.node (Pl P) (.node (OW P) (.node (wR P) .nil .nil) (.node (UE P kt tk) .nil .nil)) (.node (F8 P) (.node (f 21) .nil .nil) (.node (Lq P kt tk) .nil .nil)))
noncomputable def w80(P:ae)(f:Nat->Obj)(kt tk:Nat):BT:=(.node (Pp P) (.node (O2 P) (.node (FJ P) .nil .nil) (.node (Lw P kt tk) .nil .nil)) (.node (Gg P) (.node (f 13) .nil .nil) (.node (Uo P kt tk) .nil .nil)))
noncomputable def w81(P:ae)(f:Nat->Obj)(kt tk:Nat):BT:=(.node (E9 P) (.node (ON P) (.node (Fs P) .nil .nil) (.node (Ls P kt tk) .nil .nil)) (.node (FY P) (.node (f 29) .nil .nil) .nil))
noncomputable def w82(P:ae)(f:Nat->Obj)(kt tk:Nat):BT:=(.node (boot_o_9 P) (.node (PJ P) (w74 P f kt tk) (w75 P f kt tk)) (.node (PD P) (w76 P f kt tk) (w77 P f kt tk)))
noncomputable def w83(P:ae)(f:Nat->Obj)(kt tk:Nat):BT:=(.node (JM P) (.node (PF P) (w78 P f kt tk) (w79 P f kt tk)) (.node (JI P) (w80 P f kt tk) (w81 P f kt tk)))
noncomputable def w84(P:ae)(f:Nat->Obj)(kt tk:Nat):BT:=(.node (JG P) (.node (Pb P) (.node (FV P) .nil .nil) (.node (f 32) .nil .nil)) (.node (E3 P) (.node (f 0) .nil .nil) (.node (Ux P kt tk) .nil .nil)))
noncomputable def w85(P:ae)(f:Nat->Obj)(kt tk:Nat):BT:=(.node (Fb P) (.node (E5 P) (.node (FG P) .nil .nil) (.node (UI P kt tk) .nil .nil)) (.node (Gd P) (.node (f 16) .nil .nil) (.node (Fg P kt tk) .nil .nil)))
noncomputable def w86(P:ae)(f:Nat->Obj)(kt tk:Nat):BT:=(.node (JE P) (.node (O5 P) (.node (AG P) .nil .nil) (.node (UO P kt tk) .nil .nil)) (.node (wY P) (.node (f 8) .nil .nil) (.node (Ur P kt tk) .nil .nil)))
noncomputable def w87(P:ae)(f:Nat->Obj)(kt tk:Nat):BT:=(.node (Jz P) (.node (OT P) (.node (Fx P) .nil .nil) (.node (Lu P kt tk) .nil .nil)) (.node (F4 P) (.node (f 24) .nil .nil) .nil))
noncomputable def w88(P:ae)(f:Nat->Obj)(kt tk:Nat):BT:=(.node (Pw P) (.node (O9 P) (.node (FQ P) .nil .nil) (.node (f 36) .nil .nil)) (.node (Gn P) (.node (f 4) .nil .nil) (.node (Fl P kt tk) .nil .nil)))
noncomputable def w89(P:ae)(f:Nat->Obj)(kt tk:Nat):BT:=(.node (Pm P) (.node (OX P) (.node (FA P) .nil .nil) (.node (UG P kt tk) .nil .nil)) (.node (F9 P) (.node (f 20) .nil .nil) (.node (Uj P kt tk) .nil .nil)))
noncomputable def w90(P:ae)(f:Nat->Obj)(kt tk:Nat):BT:=(.node (Pq P) (.node (O3 P) (.node (FK P) .nil .nil) (.node (Lx P kt tk) .nil .nil)) (.node (Gh P) (.node (f 12) .nil .nil) (.node (Fh P kt tk) .nil .nil)))
noncomputable def w91(P:ae)(f:Nat->Obj)(kt tk:Nat):BT:=(.node (Pf P) (.node (OO P) (.node (Ft P) .nil .nil) (.node (Uz P kt tk) .nil .nil)) (.node (FZ P) (.node (f 28) .nil .nil) .nil))
noncomputable def w92(P:ae)(f:Nat->Obj)(kt tk:Nat):BT:=(.node (boot_o_8 P) (.node (PK P) (w84 P f kt tk) (w85 P f kt tk)) (.node (PE P) (w86 P f kt tk) (w87 P f kt tk)))
noncomputable def w93(P:ae)(f:Nat->Obj)(kt tk:Nat):BT:=(.node (ZC P kt tk) (.node (PG P) (w88 P f kt tk) (w89 P f kt tk)) (.node (PA P) (w90 P f kt tk) (w91 P f kt tk)))
noncomputable def w94(P:ae)(f:Nat->Obj)(kt tk:Nat):BT:=(.node (Py P) (.node (E8 P) (.node (FT P) .nil .nil) (.node (f 34) .nil .nil)) (.node (OJ P) (.node (f 2) .nil .nil) (.node (Uv P kt tk) .nil .nil)))
noncomputable def w95(P:ae)(f:Nat->Obj)(kt tk:Nat):BT:=(.node (JA P) (.node (OZ P) (.node (FE P) .nil .nil) (.node (Fq P kt tk) .nil .nil)) (.node (Ga P) (.node (f 18) .nil .nil) (.node (Ul P kt tk) .nil .nil)))
noncomputable def w96(P:ae)(f:Nat->Obj)(kt tk:Nat):BT:=(.node (Pt P) (.node (E6 P) (.node (FO P) .nil .nil) (.node (UM P kt tk) .nil .nil)) (.node (Gj P) (.node (f 10) .nil .nil) (.node (Up P kt tk) .nil .nil)))
noncomputable def w97(P:ae)(f:Nat->Obj)(kt tk:Nat):BT:=(.node (Ph P) (.node (OR P) (.node (Fv P) .nil .nil) (.node (UB P kt tk) .nil .nil)) (.node (F1 P) (.node (f 26) .nil .nil) .nil))
noncomputable def w98(P:ae)(f:Nat->Obj)(kt tk:Nat):BT:=(.node (JF P) (.node (O7 P) (.node (wV P) .nil .nil) (.node (f 38) .nil .nil)) (.node (Gl P) (.node (f 6) .nil .nil) (.node (Ut P kt tk) .nil .nil)))
noncomputable def w99(P:ae)(f:Nat->Obj)(kt tk:Nat):BT:=(.node (Pk P) (.node (OV P) (.node (Fz P) .nil .nil) (.node (UD P kt tk) .nil .nil)) (.node (F7 P) (.node (f 22) .nil .nil) (.node (Fe P kt tk) .nil .nil)))
noncomputable def YF(P:ae)(f:Nat->Obj)(kt tk:Nat):BT:=(.node (Po P) (.node (O1 P) (.node (FI P) .nil .nil) (.node (UK P kt tk) .nil .nil)) (.node (Gf P) (.node (f 14) .nil .nil) (.node (Un P kt tk) .nil .nil)))
noncomputable def YE(P:ae)(f:Nat->Obj)(kt tk:Nat):BT:=(.node (Pe P) (.node (OM P) (.node (AE P) .nil .nil) (.node (Fm P kt tk) .nil .nil)) (.node (FX P) (.node (f 30) .nil .nil) .nil))
noncomputable def YD(P:ae)(f:Nat->Obj)(kt tk:Nat):BT:=(.node (boot_o_10 P) (.node (PI P) (w94 P f kt tk) (w95 P f kt tk)) (.node (PC P) (w96 P f kt tk) (w97 P f kt tk)))
noncomputable def YC(P:ae)(f:Nat->Obj)(kt tk:Nat):BT:=(.node (JL P) (.node (JK P) (w98 P f kt tk) (w99 P f kt tk)) (.node (Fd P) (YF P f kt tk) (YE P f kt tk)))
noncomputable def YB(P:ae)(f:Nat->Obj)(kt tk:Nat):BT:=(.node (boot_o_1 P) (.node (o3e P kt tk) (w72 P f kt tk) (w73 P f kt tk)) (.node (boot_o_5 P) (w82 P f kt tk) (w83 P f kt tk)))
noncomputable def YA(P:ae)(f:Nat->Obj)(kt tk:Nat):BT:=(.node (boot_o_2 P) (.node (boot_o_4 P) (w92 P f kt tk) (w93 P f kt tk)) (.node (boot_o_6 P) (YD P f kt tk) (YC P f kt tk)))
noncomputable def Te(P:ae)(f:Nat->Obj)(kt tk:Nat):BT:=(.node (Xb P) (YB P f kt tk) (YA P f kt tk))
noncomputable def ne:Nat:=247
noncomputable def kte:Nat:=82
noncomputable abbrev T8:Pos:=⟨92,0,93,30⟩
noncomputable abbrev T7:Pos:=⟨174,0,206,21⟩
@[irreducible] noncomputable def env:Env:={scope:=msc,locals:=kf,globals:=kf,cells:=[],code:=.ref 13,frame:=some 14}
@[irreducible] noncomputable def body:List Stmt:=pw.main.body
@[irreducible] noncomputable def cd:Code:=.body body env
noncomputable abbrev p0:Pos:=⟨0,0,0,0⟩
noncomputable abbrev ann:Option af:=some (.ref 6)
noncomputable def Yz(P:ae):BT:=(.node (boot_o_1 P) (.node (boot_o_3 P) (.node (boot_o_7 P) .nil .nil) .nil) (.node (boot_o_5 P) (.node (boot_o_9 P) .nil .nil) .nil))
noncomputable def Yy(P:ae):BT:=(.node (boot_o_2 P) (.node (boot_o_4 P) (.node (boot_o_8 P) .nil .nil) .nil) (.node (boot_o_6 P) (.node (boot_o_10 P) .nil .nil) .nil))
noncomputable def T0(P:ae):BT:=(.node (Xb P) (Yz P) (Yy P))
@[irreducible] noncomputable def S0(w:dj)(os:cN):ir:=⟨T0 w.params,11,{},#[],{},boot_toks,os⟩
noncomputable def x0:Sem (af×Addr):=do
 let code ←moduleCode pw.main
 let frame ←newBodyFrame code kf kf
 pure (code,frame)
noncomputable def Jj(a:af×Addr):Flow:=match aU a.2 14 with
 |true=>.ret a.1
 |false=>.next
@[irreducible] noncomputable def Sb(w:dj)(os:cN):ir:=⟨Tb w.params,nb,{},#[],{},kb,os⟩
@[irreducible] noncomputable def Sc(w:dj)(os:cN):ir:=⟨Tc w.params,nc,{},#[],{},kc,os⟩
@[irreducible] noncomputable def Sd(f:Nat->Obj)(kt tk:Nat)(w:dj)(os:cN):ir:=⟨Td w.params f kt,nd,{},#[],{},tk,os⟩
@[irreducible] noncomputable def Se(f:Nat->Obj)(kt tk:Nat)(w:dj)(os:cN):ir:=⟨Te w.params f kt tk,ne,{},#[],{},tk+kte,os⟩
@[irreducible] noncomputable def Ed:List Stmt:=[YW,sv1,YT,YS,YR,YQ,sv6,sv7,sv8,sv9,YV,NR]
@[irreducible] noncomputable def BB:List Stmt:=[NQ,YU,NP,NO,NN,NM,NL,NK,NJ]
noncomputable def xb(b:List Stmt):Sem (af×Addr):=do
 let code ←moduleCode (mm b)
 let frame ←newBodyFrame code kf kf
 pure (code,frame)
noncomputable def runC'(p:dW)(b:List Stmt)(q r:Pos)(w:dj)(os:cN):Option (Flow×ir×Code×Pos):=segRunT treeTable p w 11 ann 1 1800 (Sb w os) (piecesOf Ed env (.body b env) r [gY q])
noncomputable def resC'(b:List Stmt)(w:dj)(os:cN):Option (Flow×ir×Code×Pos):=some (.next,Sc w os,.body b env,T8)
noncomputable def runE'(p:dW)(b:List Stmt)(q r:Pos)(f:Nat->Obj)(kt tk:Nat)(w:dj)(os:cN):Option (Flow×ir×Code×Pos):=segRunT treeTable p w 11 ann 1 400 (Sd f kt tk w os) (piecesOf BB env (.body b env) r [gY q])
noncomputable def resE'(b:List Stmt)(f:Nat->Obj)(kt tk:Nat)(w:dj)(os:cN):Option (Flow×ir×Code×Pos):=some (.next,Se f kt tk w os,.body b env,T7)
noncomputable def run0'(p:dW)(b:List Stmt)(w:dj)(os:cN):Option (Flow×ir×Code×Pos):=segRunT treeTable p w 11 ann 0 40 (S0 w os) ⟨(xb b).wrap (λa=>.pure (.done (Jj a))) deadEnd id id,.builtin "claim.caller" {},default,[]⟩
noncomputable def out0(w:dj)(os:cN):Option (Flow×ir×Code×Pos):=some (.ret (.ref 13),Sb w os,.builtin "claim.caller" {},default)
theorem runC_self:runC'=runC':=rfl
theorem resC_self:resC'=resC':=rfl
theorem runE_self:runE'=runE':=rfl
theorem resE_self:resE'=resE':=rfl
theorem run0_self:run0'=run0':=rfl
theorem out0_self:out0=out0:=rfl
end Mine
lay_quick Mine.run0' Mine.out0 Mine.runC' Mine.resC' Mine.runE' Mine.resE'
name_quick run0Q for Mine.run0' by Mine.run0_self
name_quick out0Q for Mine.out0 by Mine.out0_self
name_quick runCQ for Mine.runC' by Mine.runC_self
name_quick resCQ for Mine.resC' by Mine.resC_self
name_quick runEQ for Mine.runE' by Mine.runE_self
name_quick resEQ for Mine.resE' by Mine.resE_self
namespace Mine
theorem Jo(p:dW)(b:List Stmt)(w:dj)(os:cN):run0' p b w os=out0 w os:=by
 rw[PySem.W.Fast.run0Q_eq,PySem.W.Fast.out0Q_eq];kernel_rfl
theorem Jm(p:dW)(b:List Stmt)(q r:Pos)(f:Nat->Obj)(kt tk:Nat)(w:dj)(os:cN):runE' p b q r f kt tk w os=resE' b f kt tk w os:=by
 rw[PySem.W.Fast.runEQ_eq,PySem.W.Fast.resEQ_eq];kernel_rfl
theorem Jn(p:dW)(b:List Stmt)(q r:Pos)(w:dj):∀os:cN,runC' p b q r w os=resC' b w os:=by
 rw[PySem.W.Fast.runCQ_eq,PySem.W.Fast.resCQ_eq];refine byRow2 "set-order" (P:=λw=>∀os:cN,PySem.W.Fast.runCQ p b q r w os=PySem.W.Fast.resCQ b w os) (λw=>?_) (λw=>?_) w
 ·refine byRow2 "special-get-raises" (P:=λw=>∀os:cN,PySem.W.Fast.runCQ p b q r (w.withFollow "set-order" false) os=PySem.W.Fast.resCQ b (w.withFollow "set-order" false) os) (λw os=>?_) (λw os=>?_) w
  ·kernel_rfl
  ·kernel_rfl
 ·refine byRow2 "special-get-raises" (P:=λw=>∀os:cN,PySem.W.Fast.runCQ p b q r (w.withFollow "set-order" true) os=PySem.W.Fast.resCQ b (w.withFollow "set-order" true) os) (λw os=>?_) (λw os=>?_) w
  ·kernel_rfl
  ·kernel_rfl
noncomputable def runC(q r:Pos)(w:dj)(os:cN):Option (Flow×ir×Code×Pos):=segRunT treeTable pw w 11 ann 1 1800 (Sb w os) (piecesOf Ed env cd r [gY q])
noncomputable def resC(q r:Pos)(w:dj)(os:cN):Option (Flow×ir×Code×Pos):=some (.next,Sc w os,cd,T8)
noncomputable def runE(q r:Pos)(f:Nat->Obj)(kt tk:Nat)(w:dj)(os:cN):Option (Flow×ir×Code×Pos):=segRunT treeTable pw w 11 ann 1 400 (Sd f kt tk w os) (piecesOf BB env cd r [gY q])
noncomputable def resE(q r:Pos)(f:Nat->Obj)(kt tk:Nat)(w:dj)(os:cN):Option (Flow×ir×Code×Pos):=some (.next,Se f kt tk w os,cd,T7)
noncomputable def run0(w:dj)(os:cN):Option (Flow×ir×Code×Pos):=segRunT treeTable pw w 11 ann 0 40 (S0 w os) ⟨x0.wrap (λa=>.pure (.done (Jj a))) deadEnd id id,.builtin "claim.caller" {},default,[]⟩
theorem L7:Code.body body env=cd:=by unfold cd;rfl
theorem Sr:xb body=x0:=by
 have:mm body=pw.main:=by kernel_rfl
 unfold xb x0;rw[this]
theorem Oi(w:dj)(os:cN):run0 w os=out0 w os:=by
 unfold run0;rw[←Sr];exact Jo pw body w os
theorem Of(q r:Pos)(f:Nat->Obj)(kt tk:Nat)(w:dj)(os:cN):runE q r f kt tk w os=resE q r f kt tk w os:=by
 unfold runE resE;rw[←L7];exact Jm pw body q r f kt tk w os
theorem Oh(q r:Pos)(w:dj)(os:cN):runC q r w os=resC q r w os:=by
 unfold runC resC;rw[←L7];exact Jn pw body q r w os
end Mine
end
namespace Mine
section
set_option backward.match.sparseCases false
variable{l:List Int}
noncomputable def Q7(s:Stmt):Expr:=(v5 s).2.2.2.1
noncomputable def abe(s:Stmt):Pos:=(v5 s).2.2.2.2
noncomputable def t7:Expr->(List (Option Expr)×List Expr)×Int×Str×Pos
 |.Dict ks vs p=>((ks,vs),0,⟨#[]⟩,p)
 |.Constant (.int i) _ p=>(([],[]),i,⟨#[]⟩,p)
 |.Constant (.str x) _ p=>(([],[]),0,x,p)
 |_=>(([],[]),0,⟨#[]⟩,⟨0,0,0,0⟩)
noncomputable def Wk(e:Expr):List (Option Expr):=(t7 e).1.1
noncomputable def Wj(e:Expr):List Expr:=(t7 e).1.2
noncomputable def aaI:Expr->Pos:=Expr.pos
@[irreducible] noncomputable def dK:List (Option Expr):=Wk (Q7 (st 12))
@[irreducible] noncomputable def dV:List Expr:=Wj (Q7 (st 12))
noncomputable abbrev lM:Str:=Sx [98,51,95,101,120,99,101,112,116,105,111,110,115]
noncomputable def Z3(o:Option Expr):Int×Pos:=o.elim (0,⟨0,0,0,0⟩) λe=>((t7 e).2.1,(t7 e).2.2.2)
noncomputable def YG(e:Expr):Str×Pos:=((t7 e).2.2.1,(t7 e).2.2.2)
noncomputable def LH(q:Int×Pos):Option Expr:=some (.Constant (.int q.1) 0 q.2)
noncomputable def Ld(q:Str×Pos):Expr:=.Constant (.str q.1) 0 q.2
theorem Wv:dK=(dK.map Z3).map LH:=by kernel_rfl
theorem Wt:dV=(dV.map YG).map Ld:=by kernel_rfl
@[irreducible] noncomputable def mh:List (Int×Str):=(dK.map λx=>(Z3 x).1).zip (dV.map λx=>(YG x).1)
theorem Jb:st 12=.Assign [.Name lM ⟨94,0,94,13⟩] (.Dict dK dV (aaI (Q7 (st 12)))) (abe (st 12)):=by kernel_rfl
noncomputable def tD:List Int->Bool
 |[]=>true
 |[_]=>true
 |a::b::r=>decide (a<b)&&tD (b::r)
theorem HZ:tD (mh.map (·.1))=true:=by kernel_rfl
theorem vC:mh.length=650:=by kernel_rfl
theorem EC:∀{a:Int},tD (a::l)=true->∀x∈l,a<x:=by
 induction l with
 |nil=>intro a _ x h;cases h
 |cons b r ih =>
  intro a h x hx;have h:=Bool.and_eq_true_iff.mp (show(decide (a<b)&&tD (b::r))=true from h);rcases List.mem_cons.mp hx with rfl|hx
  ·exact of_decide_eq_true h.1
  ·exact fj (of_decide_eq_true h.1) (ih h.2 x hx)
theorem wg:tD l=true->l.Nodup:=by
 induction l with
 |nil=>exact λzz=>List.nodup_nil
 |cons a l ih =>
  refine λh=>List.nodup_cons.mpr ⟨λha=>Int.lt_irrefl _ (EC h a ha),ih ?_⟩;cases l with
  |nil=>rfl
  |cons b r=>exact(Bool.and_eq_true_iff.mp (show(decide (a<b)&&tD (b::r))=true from h)).2
noncomputable def pairsOf(env:Env)(pos:Pos)(ks:List (Int×Pos))(vs:List (Str×Pos)):List (Sem af×Sem af):=
 (ks.zip vs).map λq=>(eval (.Constant (.int q.1.1) 0 q.1.2) env,do let x ←eval (.Constant (.str q.2.1) 0 q.2.2) env;fR pos;pure x)
theorem wx(env:Env)(pos:Pos)(ks:List (Int×Pos)):∀(vs:List (Str×Pos)),
  (evalEachOpt (ks.map LH) env).zip ((evalEach (vs.map Ld) env).map λv=>do let x ←v;fR pos;pure x)=(pairsOf env pos ks vs).map λp=>(some p.1,p.2):=by
 induction ks with
 |nil=>exact λzz=>rfl
 |cons k ks ih =>
  intro vs;cases vs with
  |nil=>rfl
  |cons v vs=>exact congrArg (List.cons _) (ih vs)
theorem wy(env:Env)(pos:Pos):∀(ks:List (Int×Pos)) (vs:List (Str×Pos)),jj (pairsOf env pos ks vs) ((ks.map (·.1)).zip (vs.map (·.1)))
 |[],_=>.nil
 |_::_,[]=>.nil
 |k::ks,v::vs=>by
  refine .cons ⟨λh=>?_,λh=>?_⟩ (wy env pos ks vs)
  ·exact wpAny_mkInt h
  ·exact aa (wpAny_mkText (aa (dQ (ag h))))
theorem U6:mh=((dK.map Z3).map (·.1)).zip ((dV.map YG).map (·.1)):=by
 unfold mh;simp[Function.comp_def]
section
variable{w:dj}{A:b_}{E:af->aq->Prop}{s:aq}
theorem IL{env: Env}{pos: Pos}{Q:af->aq->Prop}(hb:2<=s.heap.objs.size)
  (hQ:∀es ep l tk,EA es.toList mh->l[0]?=some (dO es ep)->l.length=39->Q (.ref (s.heap.objs.size+0)) {s with heap:=HB s.heap l,toks:=tk}):
  ay (aZ pw w) A (eval (.Dict dK dV pos) env) Q E s:=by
 rw[arm_eval_Dict,Wv,Wt,wx];refine aa (dQ ?_);refine display (qs:=mh) hb (U6▸wy env pos _ _) ?_ (wg HZ) (by rw[vC];lia) (by rw[vC];lia) ?_
 ·intro h
  have e:=vC;rw[h]at e;exact absurd e (by decide)
 ·intro es ep l tk he h0 hl
  exact hQ es ep l tk he h0 (by rw[hl,vC])
end
theorem Gz(P:ae)(kt:Nat):kH lM (f_ P lM) (.str lM kt) (.ref nc) (C9 P)=XJ P kt:=by kernel_rfl
theorem Cm(P:ae):(match(C9 P).data with | .dict es _=>aRefKeyMayBeTheName lM es|_=>true)=false:=by kernel_rfl
theorem xe(P:ae):(Tc P).get 3=some (C9 P):=by kernel_rfl
theorem GF(P:ae)(f:Nat->Obj)(kt:Nat):
  (((az nc).map λi=>((Tc P).get i).getD default)++(az 39).map f).set 3 (XJ P kt)=(az nd).map λi=>((Td P f kt).get i).getD default:=by
 kernel_rfl
end
section
variable{l:List Obj}
theorem Rm{b: Heap}{a: Nat}(h:a<b.objs.size):(HB b l).get? a=b.get? a:=by
 unfold Heap.get?;rw[show(HB b l).objs[a]?=b.objs[a]? from Array.getElem?_append_left h]
theorem yX{i: Nat}{o o': Obj}{F:Obj->Obj}(h:l[i]?=some o)(e:F o=o'):l.modify i F=l.set i o':=by
 apply List.ext_getElem?;intro j;rw[List.getElem?_modify,List.getElem?_set];by_cases q:i=j
 ·subst q
  obtain⟨ij,hv⟩:=List.getElem?_eq_some_iff.mp h;simp[ij,hv,e]
 ·simp[q]
theorem QA(l:List Obj)(h:l.length=39):(az 39).map (λi=>l.getD i default)=l:=by
 apply List.ext_getElem?;intro i;rw[br];by_cases q:i<39
 ·rw[gh q]
  have:i<l.length:=by lia
  simp[List.getD,aD this]
 ·rw[List.getElem?_eq_none (by simp;lia),List.getElem?_eq_none (by lia)]
  rfl
theorem Qm(P:ae)(l:List Obj)(hl:l.length=39)(kt:Nat)(F:Obj->Obj)(hF:F (C9 P)=XJ P kt):
  (HB (absHeap (Tc P) nc {}) l).update 3 F=absHeap (Td P (λi=>l.getD i default) kt) nd {}:=by
 have e:=GF P (λi=>l.getD i default) kt;rw[QA l hl]at e;show Heap.mk (((absHeap (Tc P) nc {}).objs++l.toArray).modify 3 F) {}=Heap.mk ((az nd).map λi=>((Td P (λi=>l.getD i default) kt).get i).getD default).toArray {}
 congr 1
 apply Array.ext';rw[←e,Array.toList_modify,Array.toList_append];show List.modify (((az nc).map λi=>((Tc P).get i).getD default)++l) 3 F=_;refine yX ?_ hF;rw[List.getElem?_append_left (by simp[nc]),br,gh (by simp[nc])];rw[Option.map_some,xe];rfl
theorem y'(P:ae):alive (C9 P)=some (C9 P):=by kernel_rfl
theorem zM:env.locals=3:=by kernel_rfl
theorem J5:env.kindOf lM=some .local:=by kernel_rfl
theorem JQ:(env.scope.kind==.class || (env.scope.kind==.module&&env.locals != env.globals))=false:=by kernel_rfl
section
variable{w:dj}{os:cN}{A:b_}{E:af->aq->Prop}
theorem Og{Q:Flow->aq->Prop}(hQ:∀f kt tk es ep,EA es.toList mh->f 0=dO es ep->Q .next (Sd f kt tk w os).abs):
  ay (aZ pw w) A (exec (st 12) env) Q E (Sc w os).abs:=by
 rw[Jb];have hsc:(Sc w os).abs=⟨absHeap (Tc w.params) nc {},#[],{},kc,os⟩:=by unfold Sc;rfl
 rw[hsc];have hsz:(absHeap (Tc w.params) nc {}).objs.size=nc:=absHeap_size _ _ _;refine wpAny_Assign_Name ?_;refine IL (by show 2<=(absHeap (Tc w.params) nc {}).objs.size;rw[hsz];decide) λes ep l tk he h0 hl=>?_;dsimp only;rw[hsz,storeName_local J5 JQ,zM];have hg:(HB (absHeap (Tc w.params) nc {}) l).get? 3=some (C9 w.params):=by
  rw[Rm (by rw[hsz];decide)];rw[abs_get (by decide) (xe _),y']
 refine c_ λj7 ef=>?_;obtain⟨qK,Bb,hd,VE⟩:∃qK Bb,(C9 w.params).data=.dict qK Bb/\aRefKeyMayBeTheName lM qK=false:=by
  have:=Cm w.params;cases RT:(C9 w.params).data with
  |dict qK Bb=>rw[RT]at this;exact⟨qK,Bb,rfl,this⟩
  |_=>rw[RT]at this;cases this
 refine ef ?_;unfold nsSet;refine aa ?_;unfold strHash;refine aa (wpAny_askSetting (ag ?_));refine aa (wpAny_mkText ?_);refine aa (fM (o:=C9 w.params) hg ?_);rw[hd];dsimp only;rw[VE];simp only[d4,if_false];refine wpAny_updatePart (o:=C9 w.params) hg ?_;have:=hQ (λi=>l.getD i default) tk (tk+1) es ep he (by simp[List.getD,h0]);unfold Sd SharedT.abs at this;rw[←Qm w.params l hl tk (kH lM (f_ w.params lM) (.str lM tk) (.ref (nc+0))) (Gz w.params tk)]at this;exact this
end
end
section
theorem zS:body=Ed++st 12::BB:=by kernel_rfl
theorem QL:blockStart body env=.pure ():=by kernel_rfl
theorem CI(l bM:List Stmt)(e:Env):jr (l++bM) e=(jr l e).bind (λf=>match f with | .next=>jr bM e|f=>.pure f):=by
 have h:=execs_app_wrap (env:=e) l bM doneF (λx=>.raise x) id id
 induction l with
 |nil=>rfl
 |cons s l ih =>
  show Sem.bind (exec s e) (λf=>match f with | .next=>jr (l++bM) e|f=>pure f)=Sem.bind (Sem.bind (exec s e) (λf=>match f with | .next=>jr l e|f=>pure f)) _;rw[Sem.bind_assoc]
  congr 1
  funext f
  cases f<;>first|exact ih (execs_app_wrap l bM _ _ _ _)|rfl
section
variable{w:dj}{os:cN}
noncomputable abbrev G1(q:Pos):Ctx:=Ctx.of cd [gY q]
noncomputable def aroundOf(Γ:Ctx):b_:=⟨Γ.handled,frameCount Γ.below+Γ.code.weight,none,none,Γ.units⟩
theorem Cw(Γ:Ctx):Γ.In (aroundOf Γ):=⟨rfl,aG _,λzz h=>(nomatch h),λzz h=>(nomatch h),aG _⟩
theorem wpC(q r:Pos):Sem.wp (aZ pw w) (G1 q) (jr Ed env) (λf zz cG=>f=.next/\cG=(Sc w os).abs) (λzz zz zz=>False) r (Sb w os).abs:=by
 have h0:=Oh q r w os;unfold runC resC at h0;have h:=segRun_of h0;rw[←table_eq_tree]at h;have hg:((Sc w os).abs).gens=#[]:=by unfold Sc;rfl
 exact yM (res:=id) (B:=[gY q]) (N:=3) rfl hg (λc q'=>Bd _ c q' q) (λh=>xZ h) h
theorem wpE(q r:Pos)(f:Nat->Obj)(kt tk:Nat):Sem.wp (aZ pw w) (G1 q) (jr BB env) (λg zz cG=>g=.next/\cG=(Se f kt tk w os).abs) (λzz zz zz=>False) r (Sd f kt tk w os).abs:=by
 have h0:=Of q r f kt tk w os;unfold runE resE at h0;have h:=segRun_of h0;rw[←table_eq_tree]at h;have hg:((Se f kt tk w os).abs).gens=#[]:=by unfold Se;rfl
 have he:=λ(c:Code)(q':Pos)=>Bd (p:=pw) (w:=w) (n₀:=11) (ann:=ann) (Se f kt tk w os).abs c q' q;generalize (Se f kt tk w os).abs=sE at h hg he ⊢;generalize (Sd f kt tk w os).abs=sD at h ⊢;exact yM (res:=id) (B:=[gY q]) (N:=3) rfl hg he (λh=>xZ h) h
def H6(w:dj)(os:cN)(s:aq):Prop:=∃f kt tk es ep,EA es.toList mh/\f 0=dO es ep/\s=(Se f kt tk w os).abs
theorem Nj(q r:Pos):Sem.wp (aZ pw w) (G1 q) (jr body env) (λf zz cG=>f=.next/\H6 w os cG) (λzz zz zz=>False) r (Sb w os).abs:=by
 have e:jr body env=(jr Ed env).bind (λf=>match f with | .next=>jr (st 12::BB) env|f=>.pure f):=by
  rw[zS];exact CI _ _ _
 rw[e,Sem.wp_bind];refine jo _ _ _ (λf r cG h=>?_) (λzz zz zz h=>h) _ _ (wpC q r);have h1:f=.next:=h.1;have h2:cG=(Sc w os).abs:=h.2;clear h;subst h1;rw[h2];show Sem.wp (aZ pw w) (G1 q) (jr (st 12::BB) env) _ _ _ _;rw[execs_cons,Sem.wp_bind'];have hD:=Og (A:=aroundOf (G1 q)) (E:=λzz zz=>False) (w:=w) (os:=os) (Q:=λf s'=>f=.next/\∃g kt tk es ep,EA es.toList mh/\g 0=dO es ep/\s'=(Sd g kt tk w os).abs)
  (λg kt tk es ep he h0=>⟨rfl,g,kt,tk,es,ep,he,h0,rfl⟩) (G1 q) r (Cw (G1 q))
 refine jo _ _ _ (λf q' cG h=>?_) (λzz zz zz h=>h) _ _ hD;refine c_ λj7 ef=>?_;obtain⟨h1,g,kt,tk,es,ep,he,h0,h3⟩:=h;refine ef ?_;rw[h1,h3];exact jo _ _ _ (λf q'' lG h=>⟨h.1,g,kt,tk,es,ep,he,h0,h.2⟩) (λzz zz zz h=>h) _ _ (wpE q q' g kt tk)
theorem wp0:Sem.wp (aZ pw w) QJ x0 (λa zz cG=>a=(.ref 13,14)/\cG=(Sb w os).abs) (λzz zz zz=>False) default (S0 w os).abs:=by
 have h0:=Oi w os;unfold run0 out0 at h0;have h:=segRun_of h0;rw[←table_eq_tree]at h;have hg:((Sb w os).abs).gens=#[]:=by unfold Sb;rfl
 have h1:=yM (res:=Jj) (B:=[]) (N:=1) rfl hg (λc q=>Kv _ c q) (λh=>HY h) h;refine jo _ _ _ (λa zz cG h=>⟨?_,h.2⟩) (λzz zz zz h=>h) _ _ h1;obtain⟨v,n⟩:=a;have h2:=h.1;unfold Jj at h2;dsimp only at h2;cases hb:aU n 14 with
 |false=>rw[hb]at h2;cases h2
 |true =>
  rw[hb]at h2;cases h2;have:=aO hb;rw[this]
theorem CW:behindTheImports pw=body:=by kernel_rfl
theorem QD:({scope:=pw.main.scope,locals:=kf,globals:=kf,cells:=[],code:=.ref 13,frame:=some 14}:Env)=env:=by kernel_rfl
theorem I7:(topStub pw).cur=x0.bind (λa=>(run (.body (behindTheImports pw) {scope:=pw.main.scope,locals:=kf,globals:=kf,cells:=[],code:=a.1,frame:=some a.2})).bind λzz=>ret .none):=by
 unfold topStub x0;show Sem.bind (moduleCode pw.main) _=Sem.bind (Sem.bind (moduleCode pw.main) _) _;rw[Sem.bind_assoc]
 congr 1
 funext code
 show Sem.bind (newBodyFrame code kf kf) _=Sem.bind (Sem.bind (newBodyFrame code kf kf) _) _;rw[Sem.bind_assoc];rfl
theorem Hs(q:Pos):QJ.enter (.body body env) none q=G1 q:=by unfold G1 cd;rfl
theorem SX:Sem.wp (aZ pw w) QJ (topStub pw).cur (Sem.finPost (aZ pw w) QJ λr s'=>(∃f,r=.ok f)/\H6 w os s'/\s'.gens=#[]) (λzz zz zz=>False) default (S0 w os).abs:=by
 rw[I7,Sem.wp_bind];refine jo _ _ _ (λa q cG h=>?_) (λzz zz zz h=>h) _ _ wp0;rw[h.1,h.2];dsimp only;rw[CW,QD,Sem.wp_bind];show Sem.wp (aZ pw w) QJ (.call (.body body env) none false [] fun | .ok f=>.pure f | .error e=>.raise e) _ _ _ _;rw[Sem.wp_call,Hs,wpCode_iff_wp];have aau:(aZ pw w).den (G1 q).code=(blockStart body env).bind (λzz=>((jr body env).onRaise («leaving» env)).bind λf=>(Sem.pure (Fin.done f):Sem Fin)):=by
  show kh gJ cd=_;unfold cd;rfl
 rw[aau,QL,Sem.wp_bind,Sem.wp_pure,Sem.wp_bind,Sem.wp_onRaise];refine jo _ _ _ (λf r lG h=>?_) (λzz zz zz h=>h.elim) _ _ (Nj q q);rw[h.1,Sem.wp_pure];simp only[Sem.finPost,Sem.wp_pure];show(∃f,(Except.ok (Flow.ret i3):Result)=Except.ok f)/\H6 w os lG/\lG.gens=#[];refine⟨⟨_,rfl⟩,h.2,?_⟩;refine z7 (h.2) λg kt tk es ep he h0 ML=>?_;obtain rfl:=ML;unfold Se;rfl
end
end
end Mine
namespace Mine
@[irreducible] noncomputable def uR(P:ae):Heap:=absHeap (T0 P) 11 {}
@[irreducible] noncomputable def fw(P:ae)(f:Nat->Obj)(kt tk:Nat):Heap:=absHeap (Te P f kt tk) ne {}
noncomputable def bn0:List Str:=[Sx [95,119,97,108,108],Sx [95,95,110,97,109,101,95,95],Sx [105,110,115,111,114,116,95,114,105,103,104,116],Sx [98,105,115,101,99,116,95,114,105,103,104,116],Sx [105,110,115,111,114,116,95,108,101,102,116],Sx [98,105,115,101,99,116,95,108,101,102,116],Sx [69,77,80,84,89,83,84,82,73,78,71],Sx [95,65,99,99,117,109,117,108,97,116,111,114],Sx [98,49,95,115,101,116],Sx [105,110,95,116,97,98,108,101,95,98,49],Sx [98,51,95,101,120,99,101,112,116,105,111,110,115],Sx [109,97,112,95,116,97,98,108,101,95,98,51],Sx [95,108,97,119,95,100,114,97,119,110],Sx [95,108,97,119,95,116,121,112,101,100],Sx [95,108,97,119,95,119,97,118,101,115],Sx [95,108,97,119,95,109,111,118,101,100],Sx [95,108,97,119,95,99,97,114,114,105,101,100],Sx [95,108,97,119,95,104,101,108,100],Sx [108,97,119]]
theorem Xc:pw.boundNames=bn0:=by kernel_rfl
theorem Lz:importedModules pw.main.body=[]:=by kernel_rfl
noncomputable def yV(l:List Str)(h:Heap):Bool:=h.isNs fG&&(h.nsKeys fG).all λk=>startupNames.contains k || l.contains k
theorem UW(h:Heap)(c:yV bn0 h=true):namesBound pw h=true:=by
 unfold yV at c;unfold namesBound;rw[Xc];exact c
noncomputable def chk1(P:ae)(f:Nat->Obj)(kt tk:Nat):Bool:=
 staticsOk [] (uR P) (fw P f kt tk)&&yV bn0 (fw P f kt tk)&&laidKept (uR P) (fw P f kt tk)&&(fw P f kt tk).accountedOkI [] &&
 (fw P f kt tk).isNs fG&&(fw P f kt tk).isNs builtinsNs&&(fw P f kt tk).bmainOk
theorem chk1_self:chk1=chk1:=rfl
noncomputable def bltL(P:ae)(f:Nat->Obj)(kt tk:Nat):Option Str×List (Str×af):=(fw P f kt tk).bltView
noncomputable def bltR(P:ae)(f:Nat->Obj)(kt tk:Nat):Option Str×List (Str×af):=bltViewBooted
theorem bltL_self:bltL=bltL:=rfl
theorem bltR_self:bltR=bltR:=rfl
end Mine
lay_quick Mine.chk1 Mine.bltL Mine.bltR
name_quick chk1Q for Mine.chk1 by Mine.chk1_self
name_quick bltLQ for Mine.bltL by Mine.bltL_self
name_quick bltRQ for Mine.bltR by Mine.bltR_self
namespace Mine
theorem ub(P:ae)(f:Nat->Obj)(kt tk:Nat):chk1 P f kt tk=true:=by
 rw[PySem.W.Fast.chk1Q_eq];kernel_rfl
theorem HQ(P:ae)(f:Nat->Obj)(kt tk:Nat):bltL P f kt tk=bltR P f kt tk:=by
 rw[PySem.W.Fast.bltLQ_eq,PySem.W.Fast.bltRQ_eq];kernel_rfl
theorem vy(P:ae):boot_heap P=uR P:=by kernel_rfl
end Mine
namespace Mine
section
section
variable{w:dj}{os:cN}
theorem vI:(S0 w os).abs=⟨uR w.params,#[],{},boot_toks,os⟩:=by unfold S0 uR;rfl
theorem zY(f:Nat->Obj)(kt tk:Nat):(Se f kt tk w os).abs=⟨fw w.params f kt tk,#[],{},tk+kte,os⟩:=by unfold Se fw;rfl
theorem GY(P:ae):(uR P).objs.size=11:=by unfold uR;exact absHeap_size _ _ _
theorem xt(P:ae)(f:Nat->Obj)(kt tk:Nat):(fw P f kt tk).objs.size=ne:=by unfold fw;exact absHeap_size _ _ _
theorem Zw(P:ae)(f:Nat->Obj)(kt tk:Nat):(fw P f kt tk).get? 0=(uR P).get? 0:=by kernel_rfl
theorem Zv(P:ae)(f:Nat->Obj)(kt tk:Nat):(fw P f kt tk).get? 1=(uR P).get? 1:=by kernel_rfl
theorem Zu(P:ae)(f:Nat->Obj)(kt tk:Nat):(fw P f kt tk).get? 2=(uR P).get? 2:=by kernel_rfl
theorem Zt(P:ae)(f:Nat->Obj)(kt tk:Nat):(fw P f kt tk).get? 4=(uR P).get? 4:=by kernel_rfl
theorem Zs(P:ae)(f:Nat->Obj)(kt tk:Nat):(fw P f kt tk).get? 5=(uR P).get? 5:=by kernel_rfl
theorem Zr(P:ae)(f:Nat->Obj)(kt tk:Nat):(fw P f kt tk).get? 6=(uR P).get? 6:=by kernel_rfl
theorem Zq(P:ae)(f:Nat->Obj)(kt tk:Nat):(fw P f kt tk).get? 7=(uR P).get? 7:=by kernel_rfl
theorem Zo(P:ae)(f:Nat->Obj)(kt tk:Nat):(fw P f kt tk).get? 8=(uR P).get? 8:=by kernel_rfl
theorem Zn(P:ae)(f:Nat->Obj)(kt tk:Nat):(fw P f kt tk).get? 9=(uR P).get? 9:=by kernel_rfl
theorem Ub(P:ae)(f:Nat->Obj)(kt tk:Nat):(fw P f kt tk).get? 10=(uR P).get? 10:=by kernel_rfl
theorem old_kept(P:ae)(f:Nat->Obj)(kt tk:Nat)(b:Nat)(o:Obj)(h:(uR P).get? b=some o)(h3:b≠3):(fw P f kt tk).get? b=some o:=by
 have ij:@LT.lt Nat _ b 11:=by
  have:=bJ h;rw[GY]at this;exact this
 have h3':@Ne Nat b 3:=h3;have:b=0∨b=1∨b=2∨b=4∨b=5∨b=6∨b=7∨b=8∨b=9∨b=10:=(by decide:∀b:Nat,b<11->b≠3->b=0∨b=1∨b=2∨b=4∨b=5∨b=6∨b=7∨b=8∨b=9∨b=10) b ij h3';rcases this with rfl|rfl|rfl|rfl|rfl|rfl|rfl|rfl|rfl|rfl
 ·exact(Zw ..).trans h
 ·exact(Zv ..).trans h
 ·exact(Zu ..).trans h
 ·exact(Zt ..).trans h
 ·exact(Zs ..).trans h
 ·exact(Zr ..).trans h
 ·exact(Zq ..).trans h
 ·exact(Zo ..).trans h
 ·exact(Zn ..).trans h
 ·exact(Ub ..).trans h
theorem D7:∃cG,TopRan pw w (S0 w os).abs cG/\H6 w os cG/\cG.gens=#[]/\cG.asleep:=by
 have hz:(S0 w os).abs.asleep:=by rw[vI];unfold uR;exact⟨rfl,rfl⟩
 refine K9 (IZ (t:=(topStub pw).cur) hz (SX (w:=w) (os:=os))) λcG hL hg s_ LP=>?_;refine⟨cG,?_,hL,hg,Shared.asleep_of_life LP hz⟩;refine z7 (hL) λf kt tk es ep he h0 SD=>?_;obtain rfl:=SD;have hc:=ub w.params f kt tk;unfold chk1 at hc;simp only[aK]at hc;refine gM (hc) λSu c7=>?_;refine c_ λj7 ef=>?_;obtain⟨⟨⟨⟨⟨c1,c2⟩,c3⟩,c4⟩,c5⟩,c6⟩:=Su;refine ef ?_;have hb:(fw w.params f kt tk).bltView=bltViewBooted:=HQ w.params f kt tk;rw[zY,vI]at *;refine⟨s_,LP,Shared.rest_eq rfl,λb o h hn=>?_,(Lz▸Heap.accountedI_of_ok c4),(Lz▸statics_of_ok c1),Pin.keysAreStrs_of c5,λx hx=>(Pin.builtinOf_eq c6 x).trans (Heap.of_bltView c6 hb x hx),?_,λg hg=>(by simp at hg),names_of_bound (UW _ c2),laid_of_kept c3⟩
 ·exact old_kept _ _ _ _ b o h λe=>hn (.inl e)
 ·refine Dt (Heap.bmainOk_spec c7) λbm ob h1 zz h2 h3 h4 zz=>?_
  exact qw bm ob ⟨(Pin.globalOf_eq c5 _).trans h1,h2,h3,h4⟩
end
theorem yR:opening pw=plainProg pw.main.scope.names:=by kernel_rfl
theorem Hh(s:aq):fenceModules? pw s=some s:=by kernel_rfl
theorem sL(w:dj):(∃s,AfterRun (opening pw) w s)/\∀s,AfterRun (opening pw) w s->∃lY,fenceModules? pw s=some lY/\lY.gens=#[] /\
  ∃cG os,TopRan pw w lY cG/\H6 w os cG/\cG.gens=#[]/\cG.asleep/\lY=(S0 w os).abs:=by
 have h:=boot_open (p:=pw) (N:=1000) yR rfl Hh w;rw[←table_eq_tree]at h;refine aH (Option.map_eq_some_iff.mp h) λlY h1 e=>?_;refine aH (Option.bind_eq_some_iff.mp h1) λs h4 h5=>?_;have A:=AfterImport.of_importEnds h4;refine⟨⟨s,A⟩,λs' uQ=>?_⟩;obtain rfl:s'=s:=AfterImport.unique uQ A;have e0:lY=(S0 w lY.os).abs:=by
  obtain⟨hp,gs,d,k,os⟩:=lY;simp only[Prod.mk.injEq]at e;obtain⟨e1,e2,e3,e4⟩:=e;rw[vI,←vy,←e1,←e4];subst e2 e3;rfl
 refine⟨lY,h5,by rw[e0,vI],?_⟩;refine K9 (D7 (w:=w) (os:=lY.os)) λcG hT hL hg hz=>?_;rw[←e0]at hT;exact qw cG lY.os ⟨hT,hL,hg,hz,e0⟩
end
def sT:Prop:=∀(w:dj)(f:Nat->Obj)(kt tk:Nat)(es:Array bz)(ep:Nat),EA es.toList mh->f 0=dO es ep ->
 ∀(s:aq)(ns:List Int)(vs:List af),ns.length<=63->IntsAre vs ns->s.heap=(fw w.params f kt tk).push {cls:=.type "list",data:=.seq vs.toArray}->s.gens=#[] ->
 ay (aZ pw w) callerA (call (.ref 246) [.ref ne]) (λv s'=>v=.bool true/\OldK s.heap s'.heap/\s'.os=s.os/\AllBare s'.gens) (λzz zz=>False) s
theorem PX(P:ae)(f:Nat->Obj)(kt tk:Nat):(fw P f kt tk).get? 246=some ⟨.type "function",none,Fn (Sx [108,97,119]) (Sx [108,97,119]) (st 21) 3 [] N N N (.str (Sx [108,97,119,95,119,99,48,48,50,49,95,48,51]) (tk+8)) (R 245) N 0,#[]⟩:=by kernel_rfl
theorem tP(P:ae)(f:Nat->Obj)(kt tk:Nat):(fw P f kt tk).nsMap fG (aE "law")=some (.ref 246):=by kernel_rfl
theorem J3:pw.theDef (aE "law")=some (fA (st 21),fB (st 21),fS (st 21)):=by kernel_rfl
theorem GJ:(fA (st 21)).defaults=[]:=by kernel_rfl
theorem PW:kwWritten? (fA (st 21)).kwonlyargs (fA (st 21)).kw_defaults=some []:=by kernel_rfl
theorem xj:(aE "law")=Sx [108,97,119]:=by kernel_rfl
theorem tR(P:ae)(f:Nat->Obj)(kt tk:Nat):(fw P f kt tk).isNs fG=true:=by
 have hc:=ub P f kt tk;unfold chk1 at hc;simp only[aK]at hc;exact hc.1.1.2
theorem zi(P:ae)(f:Nat->Obj)(kt tk:Nat):isTheDefsW pw (fw P f kt tk) (aE "law"):=by
 refine⟨246,_,_,_,_,_,(Pin.globalOf_eq (tR P f kt tk) _).trans (tP P f kt tk),PX P f kt tk,rfl,J3,xj.symm,xj.symm,rfl,rfl,rfl,rfl,rfl,rfl,.inl ⟨GJ,rfl⟩,[],PW,.inl ⟨rfl,rfl⟩⟩
theorem UR{b:Bool}{P:Prop}(h:b=true)(e:b=false):P:=Bool.noConfusion (e.symm.trans h)
theorem has_int{R:WRecords}{x:WData}(h:WShape.has R x .int=true):∃i,x=.int i:=by
 cases x with
 |int i=>exact⟨i,rfl⟩
 |_=>exact UR h (by kernel_rfl)
theorem G9{R:WRecords}{x:WData}(h:WShape.has R x (.list .int)=true):∃xs,x=.list xs/\ky R xs .int=true:=by
 cases x with
 |list xs=>exact⟨xs,rfl,(Bool.or_false _).symm.trans ((by kernel_rfl:WShape.has R (.list xs) (.list .int)=(ky R xs .int || false)).symm.trans h)⟩
 |_=>exact UR h (by kernel_rfl)
theorem zp{R:WRecords}{xs:List WData}:ky R xs .int=true->∃ns:List Int,xs=ns.map WData.int:=by
 induction xs with
 |nil=>exact λzz=>⟨[],rfl⟩
 |cons x xs ih =>
  intro h;have h:=Bool.and_eq_true_iff.mp ((by kernel_rfl:ky R (x::xs) .int=(WShape.has R x .int&&ky R xs .int)).symm.trans h);obtain⟨ns,rfl⟩:=ih h.2;obtain⟨i,rfl⟩:=has_int h.1;exact⟨i::ns,rfl⟩
theorem CY{args:List WData}(h:PySem.Challenge.rw_wc0021_03.row.toRowW.claim.pre args=true):∃ns:List Int,args=[.list (ns.map WData.int)]/\ns.length<=63:=by
 refine gM (pre_splitW h) λh1 h2=>?_;refine fu (hasAllW_cons (e:=.list .int) (es:=[]) h1) λd r lX h3 h4=>?_;obtain rfl:=lX;obtain rfl:=hasAllW_nil h4;refine aH (G9 h3) λxs rj h5=>?_;obtain rfl:=rj;obtain⟨ns,rfl⟩:=zp h5;refine⟨ns,rfl,iC λhl=>?_⟩;have e:less? (WData.int 63) (WData.int (ns.length:Int))=some true:=congrArg some (decide_eq_true (Int.ofNat_lt.mpr hl));have h6:(WTm.and (.not (.lt (.lit (.int 63)) (.len (.arg 0)))) (.lit (.bool true))).holds [] {args:=[.list (ns.map WData.int)]}=true:=h2
 revert h6
 simp[WTm.holds,WTm.value,e]
theorem tO{R:WRecords}{cl:Str->Option Addr}{P:ae}{ord:List bz->List bz}:∀(ns:List Int)(s:aq),∃vs tk,layAllW R cl P ord (ns.map WData.int) s=some (vs,{s with toks:=tk})/\IntsAre vs ns
 |[],s=>⟨[],s.toks,by simp[layAllW],.nil⟩
 |n::ns,s=>by
  refine kJ (tO (R:=R) (cl:=cl) (P:=P) (ord:=ord) ns {s with toks:=s.toks+1}) λvs tk h hi=>?_;exact⟨.int n s.toks::vs,tk,by simp[layAllW,layW,h],.cons n _ hi⟩
theorem JV(MW:sT):ClaimW.HoldsOpenBy (callStub (aE "law")) [aE "law"] PySem.Challenge.rw_wc0021_03.row.keeps false PySem.Challenge.rw_wc0021_03.row.toRowW.claim:=by
 have hw:PySem.Challenge.rw_wc0021_03.row.toRowW.promised:=by w_witness2
 refine⟨⟨⟨rfl,rfl,rfl,rfl,rfl,by decide +kernel⟩,by kernel_rfl,rfl⟩,hw.witness,λw=>⟨(sL w).1,λs hs=>?_⟩⟩;refine c_ λj7 ef=>?_;obtain⟨lY,hf,X4,cG,os,hT,hL,hg,hz,e0⟩:=(sL w).2 s hs;refine ef ?_;refine⟨lY,hf,X4,cG,hT,?_,λx hx=>(nomatch hx),λx hx=>(nomatch hx),?_⟩
 ·refine z7 (hL) λf kt tk es ep he h0 Sz=>?_
  obtain rfl:=Sz;intro n hn;obtain rfl:=List.mem_singleton.mp hn;rw[zY];exact zi w.params f kt tk
 ·refine ClaimW.callFrom_of_specG (c:=PySem.Challenge.rw_wc0021_03.row.toRowW.claim) (tree:=λvs=>do match ←nsGet kf (aE "law")with
   |some f=>do ret (←PySem.call f vs)
   |none=>unsupported "claim.caller:no-such-global") hz hg λargs aah aaq ord Vk=>?_
  refine aH (CY aah) λns MV cx=>?_;obtain rfl:=MV;refine z7 (hL) λf kt tk es ep he h0 MS=>?_;obtain rfl:=MS;refine kJ (tO (R:=PySem.Challenge.rw_wc0021_03.row.toRowW.claim.records) (cl:=classAt (Se f kt tk w os).abs.heap) (P:=w.params) (ord:=ord) ns (Se f kt tk w os).abs) λvs Ic hl hi=>?_;have xu:layAllW PySem.Challenge.rw_wc0021_03.row.toRowW.claim.records (classAt (Se f kt tk w os).abs.heap) w.params ord [.list (ns.map WData.int)] (Se f kt tk w os).abs =
    some ([.ref ne],⟨(fw w.params f kt tk).push {cls:=.type "list",data:=.seq vs.toArray},#[],{},Ic,os⟩):=by
   simp only[layAllW,layW,hl];rw[zY];dsimp only;rw[xt]
  refine qw _ _ ⟨xu,?_⟩;have keeps:=layAllW_keeps _ _ _ xu;have hal:=layAllW_rest _ _ _ xu;refine kK (reads_layAllW Vk _ _ _ xu aaq _ (λzz zz e=>e)) λas hrd hin hold=>?_;have L:Laid PySem.Challenge.rw_wc0021_03.row.toRowW.claim.records w (Se f kt tk w os).abs _ _ _ as:=⟨⟨ord,Vk,xu⟩,hrd,hin,hold,keeps,hal.1.trans hg,hal.2.2.1⟩;have qi:((fw w.params f kt tk).push {cls:=.type "list",data:=.seq vs.toArray}:Heap).Ns kf ((fw w.params f kt tk).nsMap fG):=(gA (tR w.params f kt tk)).push _;refine aa (wpAny_nsGet qi ?_);rw[tP];refine aa (df (MW w f kt tk es ep he h0 _ ns vs cx hi rfl rfl) (λv s' h=>?_) λzz zz h=>h.elim);refine Aa (h) λMI hK LO VS=>?_;obtain rfl:=MI;refine ag ⟨_,rfl,?_⟩;have g:GoodWG PySem.Challenge.rw_wc0021_03.row.toRowW.claim (classAt (Se f kt tk w os).abs.heap) (ExcName.means (Se f kt tk w os).abs.heap) [.list (ns.map WData.int)] _ (.ok (.ret (.bool true))) s':=
   ⟨.inl ⟨_,_,[],rfl,λzz=>rfl,ReadsW.bool true,?_,λzz=>⟨List.nodup_nil,λzz hm=>(nomatch hm)⟩⟩,hK,LO,VS⟩
  ·have z:=g.laid (c:=PySem.Challenge.rw_wc0021_03.row.toRowW.claim) rfl rfl (ident_freeW rfl rfl rfl) L
   exact⟨z.1,z.2.1,z.2.2,λq=>(nomatch q)⟩
  ·kernel_rfl
theorem TR:OpenLaw.wellSaid PySem.Challenge.rw_wc0021_03=true:=by kernel_rfl
theorem GZ(MW:sT):PySem.Challenge.rw_wc0021_03.Holds:=by
 refine holds_law TR λabj=>?_;refine⟨by assumption,?hw,JV MW⟩
 case hw=>w_witness2
section
variable{β:AM}{cs:List CV}{h':Heap}
set_option genSizeOf false in
inductive CV where
 |none
 |bool (b:Bool)
 |int (i:Int)
 |str (x:Str)
 |tup (l:List CV)
 |ref (k:Nat)
 |val (v:af)
structure AM where
 f:Nat->Option Nat
 O:Nat->Prop
 R:Nat->Prop
noncomputable abbrev uk(vs:List af)(n:Nat):Obj:={cls:=.type "tuple",data:=.seq vs.toArray n}
noncomputable abbrev kE(vs:List af)(n:Nat):Obj:={cls:=.type "list",data:=.seq vs.toArray n}
def AM.off(α:AM)(a:Nat):Prop:=¬α.O a
mutual
def VR(α:AM)(h:Heap):CV->af->Prop
 |.none,v=>v=.none
 |.bool b,v=>v=.bool b
 |.int i,v=>∃t,v=.int i t
 |.str x,v=>∃t,v=.str x t
 |.val w,v=>v=w
 |.ref k,v=>∃a,v=.ref a/\α.f k=some a
 |.tup l,v=>∃a vs n,v=.ref a/\α.off a/\¬α.R a/\h.get? a=some (uk vs n)/\dq α h l vs
def dq(α:AM)(h:Heap):List CV->List af->Prop
 |[],vs=>vs=[]
 |c::cs,vs=>∃v ws,vs=v::ws/\VR α h c v/\dq α h cs ws
end
structure qt(p:Nat->Prop)(α:AM)(h:Heap)(β:AM)(h':Heap):Prop where
 le:∀k,p k->∀a,α.f k=some a->β.f k=some a
 new:∀a,β.O a->α.O a∨h.get? a=none
 rs:β.R=α.R
 keep:∀b o,α.off b->h.get? b=some o->h'.get? b=some o
abbrev Le:AM->Heap->AM->Heap->Prop:=qt λzz=>True
abbrev z0(m:Nat):AM->Heap->AM->Heap->Prop:=qt λk=>k<m
theorem qt.off{p α h β h' b o}(x:qt p α h β h')(f:α.off b)(e:h.get? b=some o):β.off b:=λhk =>
 (x.new b hk).elim f λl=>by rw[l]at e;cases e
theorem qt.refl{p:Nat->Prop}(α:AM)(h:Heap):qt p α h α h:=⟨λzz zz zz e=>e,λzz e=>.inl e,rfl,λzz zz zz e=>e⟩
theorem Le.refl(α:AM)(h:Heap):Le α h α h:=qt.refl α h
theorem qt.trans'{p q:Nat->Prop}{α h β h' γ Qq}(x:qt p α h β h')(y:qt q β h' γ Qq)(hq:∀k a,p k->α.f k=some a->γ.f k=some a):qt p α h γ Qq:=by
 refine⟨λk l a e=>hq k a l e,λa e=>(y.new a e).elim (λq=>x.new a q) λl=>?_,y.rs.trans x.rs,λb o f e=>y.keep b o (x.off f e) (x.keep b o f e)⟩;cases e:h.get? a with
 |none=>exact .inr rfl
 |some o =>
  refine(Classical.em (α.O a)).imp id λn=>?_;rw[x.keep a o n e]at l;cases l
theorem qt.trans{p:Nat->Prop}{α h β h' γ Qq}(x:qt p α h β h')(y:qt p β h' γ Qq):qt p α h γ Qq:=x.trans' y λk a l e=>y.le k l a (x.le k l a e)
theorem qt.sub{p q:Nat->Prop}{α h β h'}(x:qt p α h β h')(hq:∀k,q k->p k):qt q α h β h':=⟨λk l=>x.le k (hq k l),x.new,x.rs,x.keep⟩
theorem qt.mL{m: Nat}{α h β h'}(x:Le α h β h'):z0 m α h β h':=x.sub λzz zz=>trivial
mutual
theorem VR.mono{α: AM}{h: Heap}(x:Le α h β h'):∀(c:CV) {v:af},VR α h c v->VR β h' c v
 |.none,_,r=>r
 |.bool _,_,r=>r
 |.int _,_,r=>r
 |.str _,_,r=>r
 |.val _,_,r=>r
 |.ref k,_,r=>r.elim λa r=>⟨a,r.1,x.le _ trivial _ r.2⟩
 |.tup l,_,r=>by obtain⟨a,vs,n,e,f,q,g,r⟩:=r;exact⟨a,vs,n,e,x.off f g,x.rs▸q,x.keep _ _ f g,dq.mono x l r⟩
theorem dq.mono{α: AM}{h: Heap}(x:Le α h β h'):∀(cs:List CV) {vs:List af},dq α h cs vs->dq β h' cs vs
 |[],_,r=>r
 |c::cs,_,r=>by obtain⟨v,ws,e,r,q⟩:=r;exact⟨v,ws,e,VR.mono x c r,dq.mono x cs q⟩
end
section
variable{α:AM}{h:Heap}
theorem dq.length:∀{vs},dq α h cs vs->vs.length=cs.length:=by
 induction cs with
 |nil=>rintro _ rfl;rfl
 |cons c cs ih=>rintro _ ⟨v,ws,rfl,_,q⟩;exact congrArg (·+1) (ih q)
theorem dq.get:∀{vs:List af}{i:Nat}{c},dq α h cs vs->cs[i]?=some c->∃v,vs[i]?=some v/\VR α h c v:=by
 induction cs with
 |nil=>intro vs i c _ e;cases e
 |cons d cs ih =>
  intro _ i c SO e;refine fu (SO) λv ws iu r q=>?_;obtain rfl:=iu;cases i with
  |zero=>cases e;exact⟨v,rfl,r⟩
  |succ i=>exact ih (vs:=ws) (i:=i) q e
theorem dq.append{ds: List CV}:∀{vs ws},dq α h cs vs->dq α h ds ws->dq α h (cs++ds) (vs++ws):=by
 induction cs with
 |nil=>rintro _ ws rfl r;exact r
 |cons c cs ih=>rintro _ ws ⟨v,us,rfl,r,q⟩ t;exact⟨v,us++ws,rfl,r,ih q t⟩
theorem dq.one{c v}(r:VR α h c v):dq α h [c] [v]:=⟨v,[],rfl,r,rfl⟩
theorem dq.take:∀{vs} (k:Nat),dq α h cs vs->dq α h (cs.take k) (vs.take k):=by
 induction cs with
 |nil=>rintro _ k rfl;cases k<;>rfl
 |cons c cs ih =>
  intro _ k oT;refine fu (oT) λv us iu r q=>?_;obtain rfl:=iu;cases k with
  |zero=>rfl
  |succ k=>exact⟨v,_,rfl,r,ih k q⟩
theorem dq.drop:∀{vs} (k:Nat),dq α h cs vs->dq α h (cs.drop k) (vs.drop k):=by
 induction cs with
 |nil=>rintro _ k rfl;cases k<;>rfl
 |cons c cs ih =>
  intro _ k oT;refine fu (oT) λv us iu r q=>?_;obtain rfl:=iu;cases k with
  |zero=>exact⟨v,us,rfl,r,q⟩
  |succ k=>exact ih k q
theorem dq.ints{ns: List Int}:∀{vs},dq α h (ns.map .int) vs->IntsAre vs ns:=by
 induction ns with
 |nil=>rintro _ rfl;exact .nil
 |cons n ns ih=>rintro _ ⟨v,ws,rfl,⟨t,rfl⟩,q⟩;exact .cons n t (ih q)
end
end
section
variable{ao o:AO}{a k n:Nat}{α:AM}
structure n3 where
 q:Str
 params:Arguments
 body:Expr
 scope:iK
 clos:List (Str×Nat)
set_option genSizeOf false in
inductive AO where
 |list (xs:List CV)
 |frame (m:List (Str×CV))
 |cell (c:Option CV)
 |gQ (a b st:Int)
 |i6 (l i:Nat)
 |itR (a left st:Int)
 |nU (x:Str) (i:Nat)
 |qj (it i:Nat)
 |zip (a b:Nat)
 |pr (a b:Nat)
 |two
 |cX (C d:Nat) (xs:List CV)
 |size (k:Int)
 |bare
 |xN (f:List (Str×Int))
 |tab (P:Nat) (q:Nat->Nat->Str)
 |fn (g:n3)
 |any
noncomputable abbrev EH(a b c:Int)(t u v:Tok):Obj:={cls:=.type "range",data:=.fields #[.int a t,.int b u,.int c v]}
noncomputable abbrev T1(a left st:Int):Obj:={cls:=.type "range_iterator",data:=.fields #[d5 a,d5 left,d5 st]}
noncomputable abbrev Wf(it:Nat)(i:Int)(old:af):Obj:={cls:=.type "enumerate",dict:=none,data:=.fields #[.none,.bool false,.ref it,d5 i,.none,old],slots:=#[]}
noncomputable abbrev Yn(TI TO:Nat)(f0:af):Obj:={cls:=.type "zip",dict:=none,data:=.fields #[f0,.bool false,.bool false,.ref TI,.ref TO],slots:=#[]}
noncomputable abbrev ny(c d:Nat)(vs:List af)(n:Nat):Obj:={cls:=.ref c,dict:=some d,data:=.seq vs.toArray n}
structure Gv where
 prog:dW
 w:dj
 A:b_
 h₀:Heap
 os:cN
noncomputable abbrev Gv.M(G:Gv):fX:=aZ G.prog G.w
def jm(α:AM):List (Str×Nat)->List (Str×Nat)->Prop
 |[],cs=>cs=[]
 |(x,k)::l,cs=>∃a ds,cs=(x,a)::ds/\α.f k=some a/\jm α l ds
def jV(α:AM)(h:Heap)(cv:af)(q:Str):Prop:=h.CodeRec cv q/\∀c,cv=.ref c->α.off c/\¬α.R c
def OI(G:Gv)(α:AM)(h:Heap)(a:Nat):AO->Prop
 |.list xs=>∃vs n,h.get? a=some (kE vs n)/\dq α h xs vs
 |.frame m=>∃mf,h.Ns a mf/\∀x c,m.lookup x=some c->∃v,mf x=some v/\VR α h c v
 |.cell c=>∃v,h.IsCell a v/\(c=none->v=none)/\∀d,c=some d->∃w,v=some w/\VR α h d w
 |.gQ i j k=>∃t u v,h.get? a=some (EH i j k t u v)
 |.i6 l i=>∃b,α.f l=some b/\h.IsListIter a b i
 |.itR i j k=>h.get? a=some (T1 i j k)
 |.nU x i=>∃t o,h.get? a=some o/\o.cls=.type (bw x)/\o.data=.fields #[.str x t,.int i 0]
 |.qj it i=>∃b old,α.f it=some b/\h.get? a=some (Wf b i old)
 |.zip i j=>∃b c,α.f i=some b/\α.f j=some c/\h.get? a=some (Yn b c .none)
 |.pr i j=>∃b c,α.f i=some b/\α.f j=some c/\h.get? a=some (uk [.ref b,.ref c] 0)
 |.two=>∃v w,h.get? a=some (uk [v,w] 0)
 |.cX C d xs=>∃b vs n,α.f d=some b/\h.get? a=some (ny C b vs n)/\dq α h xs vs
 |.size k=>∃tk t,h.get? a=some (kH (aE "_initial_size") (f_ G.w.params (aE "_initial_size")) (.str (aE "_initial_size") tk) (.int k t) hZ)
 |.bare=>h.get? a=some hZ
 |.xN f=>∃F,h.MapOf (iL G.prog G.w) a F/\∀x,(f.lookup x=none->F x=none)/\∀i,f.lookup x=some i->∃t,F x=some (.int i t)
 |.tab P q=>a=P/\∃ps,h.get? a=some (tabObj ps)/\TriplesOk ps.toList/\∀pos cv,h_ pos ps.toList=some cv->jV α h cv (q pos.line pos.col)
 |.fn g=>∃o cl pm cv vg,h.get? a=some o/\o.data=.func (kla_fn "<lambda>" g.q g.params g.body g.scope cl pm cv vg)/\jm α g.clos cl/\jV α h cv g.q
 |.any=>∃o,h.get? a=some o
theorem jm.mono{β: AM}(le:∀k a,α.f k=some a->β.f k=some a){l: List (Str×Nat)}:∀{cs},jm α l cs->jm β l cs:=by
 induction l with
 |nil=>exact λe=>e
 |cons p l ih=>rintro _ ⟨a,ds,e,h,q⟩;exact⟨a,ds,e,le _ _ h,ih q⟩
theorem jV.mono{α h β h'}(x:Le α h β h'){cv q}(r:jV α h cv q):jV β h' cv q:=by
 refine gM (r) λDD f=>?_;obtain⟨c,o,vs,t,e,g,d⟩:=DD;exact⟨⟨c,o,vs,t,e,x.keep _ _ (f c e).1 g,d⟩,λc' e'=>⟨x.off (f c' e').1 (by rw[e]at e';cases e';exact g),x.rs▸(f c' e').2⟩⟩
theorem OI.live{G α h a}(r:OI G α h a ao):∃o,h.get? a=some o:=by
 cases ao with
 |list xs=>obtain⟨vs,n,e,q⟩:=r;exact⟨_,e⟩
 |frame m=>obtain⟨mf,⟨o,es,ep,e,d⟩,q⟩:=r;exact⟨_,e⟩
 |cell c=>obtain⟨v,⟨o,e,d⟩,n,q⟩:=r;exact⟨_,e⟩
 |gQ i j k=>obtain⟨t,u,v,e⟩:=r;exact⟨_,e⟩
 |i6 l i=>obtain⟨b,e,o,q,_⟩:=r;exact⟨_,q⟩
 |itR i j k=>exact⟨_,r⟩
 |nU y i=>obtain⟨t,o,e,q⟩:=r;exact⟨_,e⟩
 |qj it i=>obtain⟨b,old,e,q⟩:=r;exact⟨_,q⟩
 |zip i j=>obtain⟨b,c,_,_,q⟩:=r;exact⟨_,q⟩
 |pr i j=>obtain⟨b,c,_,_,q⟩:=r;exact⟨_,q⟩
 |two=>obtain⟨v,w,q⟩:=r;exact⟨_,q⟩
 |cX C d xs=>obtain⟨b,vs,n,e,q,r⟩:=r;exact⟨_,q⟩
 |size k=>obtain⟨tk,t,e⟩:=r;exact⟨_,e⟩
 |bare=>exact⟨_,r⟩
 |xN f=>obtain⟨F,⟨o,es,ep,e,_⟩,q⟩:=r;exact⟨_,e⟩
 |tab P q=>obtain⟨_,ps,e,t,r⟩:=r;exact⟨_,e⟩
 |fn g=>obtain⟨o,cl,pm,cv,vg,e,d,c,q⟩:=r;exact⟨_,e⟩
 |any=>exact r
theorem OI.mono{G α h β h' a}(x:Le α h β h')(same:∀o,h.get? a=some o->h'.get? a=some o)(r:OI G α h a ao):OI G β h' a ao:=by
 cases ao with
 |list xs=>obtain⟨vs,n,e,q⟩:=r;exact⟨vs,n,same _ e,q.mono x⟩
 |frame m =>
  refine aH (r) λmf rj q=>?_;obtain⟨o,es,ep,e,d⟩:=rj;refine⟨mf,⟨o,es,ep,same _ e,d⟩,λy c hy=>?_⟩;refine aH (q y c hy) λv hv r=>?_;exact⟨v,hv,r.mono x⟩
 |cell c =>
  refine kK (r) λv Dw n q=>?_;obtain⟨o,e,d⟩:=Dw;refine⟨v,⟨o,same _ e,d⟩,n,λd hd=>?_⟩;refine aH (q d hd) λw hw r=>?_;exact⟨w,hw,r.mono x⟩
 |gQ i j k=>obtain⟨t,u,v,e⟩:=r;exact⟨t,u,v,same _ e⟩
 |i6 l i=>obtain⟨b,e,o,q,r⟩:=r;exact⟨b,x.le _ trivial _ e,o,same _ q,r⟩
 |itR i j k=>exact same _ r
 |nU y i=>obtain⟨t,o,e,q⟩:=r;exact⟨t,o,same _ e,q⟩
 |qj it i=>obtain⟨b,old,e,q⟩:=r;exact⟨b,old,x.le _ trivial _ e,same _ q⟩
 |zip i j=>obtain⟨b,c,h1,h2,q⟩:=r;exact⟨b,c,x.le _ trivial _ h1,x.le _ trivial _ h2,same _ q⟩
 |pr i j=>obtain⟨b,c,h1,h2,q⟩:=r;exact⟨b,c,x.le _ trivial _ h1,x.le _ trivial _ h2,same _ q⟩
 |two=>obtain⟨v,w,q⟩:=r;exact⟨v,w,same _ q⟩
 |cX C d xs=>obtain⟨b,vs,n,e,q,r⟩:=r;exact⟨b,vs,n,x.le _ trivial _ e,same _ q,r.mono x⟩
 |size k=>obtain⟨tk,t,e⟩:=r;exact⟨tk,t,same _ e⟩
 |bare=>exact same _ r
 |xN f=>obtain⟨F,⟨o,es,ep,e,r⟩,q⟩:=r;exact⟨F,⟨o,es,ep,same _ e,r⟩,q⟩
 |tab P q=>obtain⟨p,ps,e,t,r⟩:=r;exact⟨p,ps,same _ e,t,λpos cv hc=>(r pos cv hc).mono x⟩
 |fn g=>obtain⟨o,cl,pm,cv,vg,e,d,c,q⟩:=r;exact⟨o,cl,pm,cv,vg,same _ e,d,c.mono λk=>x.le k trivial,q.mono x⟩
 |any=>obtain⟨o,e⟩:=r;exact⟨o,same _ e⟩
structure St where
 objs:List (Nat×AO)
 n:Nat
noncomputable def cL:List (Nat×AO)->Nat->Option AO
 |[],_=>none
 |(j,o)::l,k=>match aU k j with
  |true=>some o
  |false=>cL l k
noncomputable def mX:List (Nat×AO)->Nat->AO->List (Nat×AO)
 |[],_,_=>[]
 |(j,o)::l,k,o'=>match aU k j with
  |true=>(j,o')::l
  |false=>(j,o)::mX l k o'
theorem kY{j: Nat}(h:j≠k):aU j k=false:=by
 cases e:aU j k with
 |false=>rfl
 |true=>exact absurd (aO e) h
theorem dc(k:Nat)(o':AO)(j:Nat):∀{l:List (Nat×AO)},cL (mX l k o') j=if j=k then(cL l k).map λzz=>o' else cL l j:=by
 intro l
 induction l with
 |nil=>split<;>rfl
 |cons p l ih =>
  obtain⟨i,o⟩:=p;unfold mX
  split
  ·rename_i e
   cases aO e;unfold cL;by_cases h:j=k
   ·cases h;rw[if_pos rfl,bL];rfl
   ·rw[if_neg h,kY h]
  ·rename_i e
   unfold cL;rw[ih];by_cases h:j=k
   ·cases h;rw[if_pos rfl,if_pos rfl,e]
   ·rw[if_neg h,if_neg h]
noncomputable def St.get(σ:St)(k:Nat):Option AO:=cL σ.objs k
noncomputable def St.set(σ:St)(k:Nat)(o:AO):St:=⟨mX σ.objs k o,σ.n⟩
theorem Bz:∀{l:List (Nat×AO)},cL l k=some o->mX l k o=l:=by
 intro l
 induction l with
 |nil=>exact λzz=>rfl
 |cons p l ih =>
  obtain⟨j,u⟩:=p;intro h;unfold cL at h;unfold mX;cases z:aU k j with
  |true=>rw[z]at h;cases h;rfl
  |false=>rw[z]at h;exact congrArg ((j,u)::·) (ih h)
theorem St.set_same{σ: St}(h:σ.get k=some o):σ.set k o=σ:=congrArg (St.mk · σ.n) (Bz h)
noncomputable def St.push(σ:St)(o:AO):St:=⟨(σ.n,o)::σ.objs,σ.n+1⟩
structure GS(G:Gv)(α:AM)(σ:St)(s:aq):Prop where
 own:∀k ao,σ.get k=some ao->∃a,α.f k=some a/\OI G α s.heap a ao
 ow:∀k ao a,σ.get k=some ao->α.f k=some a->α.O a
 base:∀b o,G.h₀.get? b=some o->α.off b/\s.heap.get? b=some o
 inj:∀j k ao ao' a,σ.get j=some ao->σ.get k=some ao'->α.f j=some a->α.f k=some a->j=k
 new:∀k,σ.n<=k->α.f k=none
 lt:∀a,α.O a->∃o,s.heap.get? a=some o
 pW:∀a,α.R a->∃o,s.heap.get? a=some o/\α.off a
 os:s.os=G.os
 bare:AllBare s.gens
inductive W{γ δ:Type}(R:AM->Heap->δ->γ->Prop)(G:Gv)(α:AM)(h:Heap)(d:δ)(σ:St)(v:γ)(s:aq):Prop
 |mk (β:AM) (le:Le α h β s.heap) (gs:GS G β σ s) (r:R β s.heap d v):W R G α h d σ v s
theorem W.trans{γ δ:Type}{R:AM->Heap->δ->γ->Prop}{G α h β h' d σ v s}(x:Le α h β h')(y:W (γ:=γ) (δ:=δ) R G β h' d σ v s):W R G α h d σ v s:=by
 obtain⟨γ,le,gs,r⟩:=y;exact⟨γ,x.trans le,gs,r⟩
theorem eG(h:Heap):h.get? h.objs.size=none:=by
 cases e:h.get? h.objs.size with
 |none=>rfl
 |some o=>exact absurd (bJ e) (ew _)
noncomputable def AM.less(α:AM)(D:Nat->Prop):AM:=⟨α.f,λa=>α.O a/\¬D a,α.R⟩
theorem AM.less_none(α:AM):α.less (λzz=>False)=α:=by
 unfold AM.less;have:(λa=>α.O a/\¬False)=α.O:=funext λa=>propext ⟨λh=>h.1,λh=>⟨h,id⟩⟩;rw[this]
theorem GS.goto{G α σ σ' s h'}(ks:Nat->Prop)(D:Nat->Prop)(g:GS G α σ s)(hn:σ'.n=σ.n)(hk:∀k,ks k->∃ao,σ.get k=some ao)(hD:∀a,D a->∃k,ks k/\α.f k=some a)
  (same:∀b o,(∀k,ks k->α.f k≠some b)->s.heap.get? b=some o->h'.get? b=some o)
  (x:Le α s.heap (α.less D) h'->(∀k,ks k->∀a,α.f k=some a->¬D a->∃o,h'.get? a=some o) /\
   ∀k ao,σ'.get k=some ao->(σ.get k=some ao/\¬ks k)∨ks k/\∃a,α.f k=some a/\¬D a/\OI G (α.less D) h' a ao) (tk:Nat):Le α s.heap (α.less D) h'/\GS G (α.less D) σ' {s with heap:=h',toks:=tk}:=by
 have le:Le α s.heap (α.less D) h':=⟨λzz zz zz e=>e,λzz e=>.inl e.1,rfl,λb o f eb=>same b o (λk q e=>f (let⟨ao,h⟩:=hk k q;g.ow k ao b h e)) eb⟩;have not:∀k a ao,σ.get k=some ao->α.f k=some a->¬ks k->∀j,ks j->α.f j≠some a:=λk a ao hao ha n j hj q=>by
  obtain⟨ao',h⟩:=hk j hj;exact n (g.inj _ _ _ _ _ h hao q ha▸hj)
 have tr:∀k ao,σ'.get k=some ao->∃ao',σ.get k=some ao':=λk ao e=>((x le).2 k ao e).elim (λq=>⟨_,q.1⟩) λq=>hk k q.1;refine⟨le,⟨λj o ej=>?_,λj o a ej ha=>?_,λb o eb=>⟨λq=>(g.base b o eb).1 q.1,le.keep b o (g.base b o eb).1 (g.base b o eb).2⟩,
  λi j o1 o2 a h1 h2=>let⟨_,q1⟩:=tr i _ h1;let⟨_,q2⟩:=tr j _ h2;g.inj i j _ _ a q1 q2,λk hk=>g.new k (hn▸hk),λb e=>?_,λb e=>?_,g.os,g.bare⟩⟩
 ·rcases(x le).2 j o ej with⟨q,n⟩|⟨_,a,ha,_,r⟩
  ·refine aH (g.own j o q) λb hb r=>?_
   exact⟨b,hb,r.mono le λo' e=>same b o' (not j b _ q hb n) e⟩
  ·exact⟨a,ha,r⟩
 ·rcases(x le).2 j o ej with⟨q,n⟩|⟨_,b,hb,nD,r⟩
  ·exact⟨g.ow j o a q ha,λhd=>by obtain⟨k,h1,h2⟩:=hD a hd;exact not j a _ q ha n k h1 h2⟩
  ·refine dX (tr j o ej) λao' q=>?_
   cases ha.symm.trans hb;exact⟨g.ow j ao' a q ha,nD⟩
 ·rcases Classical.em (∃k,ks k/\α.f k=some b)with⟨k,q,hb⟩|n
  ·exact(x le).1 k q b hb e.2
  ·refine dX (g.lt b e.1) λo ho=>?_
   exact⟨o,same b o (λk q h=>n ⟨k,q,h⟩) ho⟩
 ·refine aH (g.pW b e) λo ho f=>?_
  exact⟨o,le.keep b o f ho,λq=>f q.1⟩
theorem GS.turn{G α σ s k ao a ao' h'}(g:GS G α σ s)(e:σ.get k=some ao)(ha:α.f k=some a)(same:∀b o,b≠a->s.heap.get? b=some o->h'.get? b=some o)
  (x:Le α s.heap α h'->OI G α h' a ao') (tk:Nat):Le α s.heap α h'/\GS G α (σ.set k ao') {s with heap:=h',toks:=tk}:=by
 have t:=g.goto (σ':=σ.set k ao') (h':=h') (·=k) (λzz=>False) rfl (λj hj=>⟨ao,hj▸e⟩) (λzz q=>q.elim) (λb o f eb=>same b o (λq=>f k rfl (q▸ha)) eb) (λle=>⟨?_,λj o ej=>?_⟩) tk
 ·rwa [AM.less_none]at t
 ·rw[AM.less_none]at le
  rintro j rfl b hb _;cases ha.symm.trans hb;exact(x le).live
 ·rw[AM.less_none]at le ⊢
  rw[show(σ.set k ao').get j=_ from dc k ao' j]at ej;by_cases hj:j=k
  ·rw[if_pos hj,show cL σ.objs k=some ao from e]at ej
   cases ej;exact .inr ⟨hj,a,hj▸ha,id,x le⟩
  ·rw[if_neg hj]at ej
   exact .inl ⟨ej,hj⟩
noncomputable def AM.add(α:AM)(n a:Nat):AM:=⟨λk=>match aU k n with
 |true=>some a
 |false=>α.f k,λb=>b=a∨α.O b,α.R⟩
theorem AM.d7(α:AM)(n a:Nat):(α.add n a).f n=some a:=by unfold AM.add;dsimp only;rw[bL]
theorem AM.C4{b: Nat}(h:(α.add n a).f k=some b):(k=n/\b=a)∨α.f k=some b:=by
 unfold AM.add at h;dsimp only at h
 split at h
 ·rename_i e;cases h;exact .inl ⟨aO e,rfl⟩
 ·exact .inr h
theorem AM.Rh(h:α.f n=none)(k b:Nat)(e:α.f k=some b):(α.add n a).f k=some b:=by
 unfold AM.add;dsimp only
 split
 ·rename_i q;rw[aO q,h]at e;cases e
 ·exact e
theorem GS.more{G α σ s ao a h'}(g:GS G α σ s)(same:∀b o,s.heap.get? b=some o->h'.get? b=some o)(ha:s.heap.get? a=none)
  (x:Le α s.heap (α.add σ.n a) h'->OI G (α.add σ.n a) h' a ao) (tk:Nat):Le α s.heap (α.add σ.n a) h'/\GS G (α.add σ.n a) (σ.push ao) {s with heap:=h',toks:=tk}:=by
 have h0:=g.new σ.n (aG _);have le:Le α s.heap (α.add σ.n a) h':=⟨λk zz=>AM.Rh h0 k,λb e=>e.elim (λq=>.inr (q▸ha)) .inl,rfl,λb o zz=>same b o⟩;have Dc:∀{b},α.O b->b=a->False:=λh q=>by obtain⟨o,e⟩:=g.lt _ h;rw[q,ha]at e;cases e
 have look:∀{j o},(σ.push ao).get j=some o->(j=σ.n/\o=ao)∨(j≠σ.n/\σ.get j=some o):=λ{j o} ej=>by
  rw[show(σ.push ao).get j=match aU j σ.n with|true=>some ao|false=>cL σ.objs j from rfl]at ej;cases q:aU j σ.n with
  |true=>rw[q]at ej;cases ej;exact .inl ⟨aO q,rfl⟩
  |false=>rw[q]at ej;exact .inr ⟨λh=>(by rw[h,bL]at q;cases q),ej⟩
 have old:∀{j b},j≠σ.n->(α.add σ.n a).f j=some b->α.f j=some b:=λn h=>(AM.C4 h).elim (λq=>absurd q.1 n) id;refine⟨le,⟨λj o ej=>?_,λj o b ej hb=>?_,λb o eb=>⟨le.off (g.base b o eb).1 (g.base b o eb).2,same _ _ (g.base b o eb).2⟩,λi j o1 o2 b e1 e2 h1 h2=>?_,λk hk=>?_,λb e=>?_,λb e=>?_,g.os,g.bare⟩⟩
 ·rcases look ej with⟨rfl,rfl⟩|⟨_,ej⟩
  ·exact⟨a,AM.d7 _ _ _,x le⟩
  ·refine aH (g.own j o ej) λb hb r=>?_
   exact⟨b,le.le _ trivial _ hb,r.mono le (same b)⟩
 ·rcases look ej with⟨rfl,rfl⟩|⟨n,ej⟩
  ·rw[AM.d7]at hb;cases hb;exact .inl rfl
  ·exact .inr (g.ow _ _ _ ej (old n hb))
 ·rcases look e1 with⟨rfl,_⟩|⟨n1,e1⟩
  ·rcases look e2 with⟨rfl,_⟩|⟨n2,e2⟩
   ·rfl
   ·rw[AM.d7]at h1;cases h1;exact(Dc (g.ow _ _ _ e2 (old n2 h2)) rfl).elim
  ·rcases look e2 with⟨rfl,_⟩|⟨n2,e2⟩
   ·rw[AM.d7]at h2;cases h2;exact(Dc (g.ow _ _ _ e1 (old n1 h1)) rfl).elim
   ·exact g.inj _ _ _ _ _ e1 e2 (old n1 h1) (old n2 h2)
 ·have hk:σ.n+1<=k:=hk
  unfold AM.add;dsimp only
  split
  ·rename_i q;rw[aO q]at hk;exact absurd hk (Nat.not_succ_le_self _)
  ·exact g.new k (cw hk)
 ·rcases e with rfl|q
  ·exact(x le).live
  ·obtain⟨o,ho⟩:=g.lt _ q;exact⟨o,same _ _ ho⟩
 ·obtain⟨o,ho,f⟩:=g.pW b e;exact⟨o,same _ _ ho,le.off f ho⟩
theorem GS.push{G α σ s ao o}(g:GS G α σ s)(x:Le α s.heap (α.add σ.n s.heap.objs.size) (s.heap.push o)->OI G (α.add σ.n s.heap.objs.size) (s.heap.push o) s.heap.objs.size ao)(tk:Nat):
  Le α s.heap (α.add σ.n s.heap.objs.size) (s.heap.push o)/\GS G (α.add σ.n s.heap.objs.size) (σ.push ao) {s with heap:=s.heap.push o,toks:=tk}:=
 g.more (λb o' e=>aw _ e) (eG _) x tk
theorem GS.same{G α σ s h'}(g:GS G α σ s)(same:∀b o,s.heap.get? b=some o->h'.get? b=some o)(tk:Nat):Le α s.heap α h'/\GS G α σ {s with heap:=h',toks:=tk}:=by
 have le:Le α s.heap α h':=⟨λzz zz zz e=>e,λzz e=>.inl e,rfl,λb o zz=>same b o⟩;refine⟨le,⟨λj o ej=>?_,g.ow,λb o eb=>⟨(g.base b o eb).1,same _ _ (g.base b o eb).2⟩,g.inj,g.new,λb e=>(g.lt b e).imp λo=>same b o,λb e=>(g.pW b e).imp λo h=>⟨same b o h.1,h.2⟩,g.os,g.bare⟩⟩;refine aH (g.own j o ej) λb hb r=>?_;exact⟨b,hb,r.mono le (same b)⟩
theorem GS.tok{G α σ s}(g:GS G α σ s)(tk:Nat):GS G α σ {s with toks:=tk}:=⟨g.own,g.ow,g.base,g.inj,g.new,g.lt,g.pW,g.os,g.bare⟩
end
section
inductive CF where|next|brk|cont|ret (c:CV)
def RF(α:AM)(h:Heap):CF->Flow->Prop
 |.next,f=>f=.next
 |.brk,f=>f=.brk
 |.cont,f=>f=.cont
 |.ret c,f=>∃v,f=.ret v/\VR α h c v
def RB(_:AM)(_:Heap)(b b':Bool):Prop:=b=b'
def RU(_:AM)(_:Heap)(_ _:Unit):Prop:=True
theorem jm.lookup{α:AM}{x:Str}{k:Nat}{l:List (Str×Nat)}:∀{cs},jm α l cs->l.lookup x=some k->∃a,cs.lookup x=some a/\α.f k=some a:=by
 induction l with
 |nil=>intro cs _ e;cases e
 |cons p l ih =>
  intro _ vR e;refine fu (vR) λa ds iu h q=>?_;obtain rfl:=iu;rw[aR]at e ⊢;cases z:x==p.1 with
  |true=>rw[z]at e;cases e;exact⟨a,rfl,h⟩
  |false=>rw[z]at e;exact ih q e
def z6(α:AM)(l cs:List (Str×Nat)):Prop:=∀x k,l.lookup x=some k->∃a,cs.lookup x=some a/\α.f k=some a
theorem jm.og{α:AM}{l cs:List (Str×Nat)}(h:jm α l cs):z6 α l cs:=λzz zz e=>h.lookup e
structure EI(α:AM)(e env:Env):Prop where
 loc:α.f e.locals=some env.locals
 cells:z6 α e.cells env.cells
 scope:env.scope=e.scope
 globals:env.globals=e.globals
 builtins:env.builtins=e.builtins
 qual:env.qual=e.qual
 code:env.code=e.code
theorem EI.mono{α h β h' e env}(x:Le α h β h')(i:EI α e env):EI β e env:=⟨x.le _ trivial _ i.loc,λy k e=>(i.cells y k e).imp λa q=>⟨q.1,x.le k trivial a q.2⟩,i.scope,i.globals,i.builtins,i.qual,i.code⟩
theorem EI.kindOf{α e env}(i:EI α e env)(x:Str):env.kindOf x=e.kindOf x:=by unfold Env.kindOf;rw[i.scope]
variable{G:Gv}{e:Env}{σ σ1 σ2 σ3:St}{a b c d:CV}{i j:Int}{x:Str}
def aV(G:Gv)(e:Env)(x:Expr)(σ:St)(c:CV)(σ':St):Prop:=∀α s env E,EI α e env->GS G α σ s->ay G.M G.A (eval x env) (W VR G α s.heap c σ') E s
def gI(G:Gv)(e:Env)(x:Str)(σ:St)(c:CV):Prop:=∀α s env E,EI α e env->GS G α σ s->ay G.M G.A (loadName env x) (W VR G α s.heap c σ) E s
def cD(G:Gv)(e:Env)(x:Expr)(σ:St)(b:Bool)(σ':St):Prop:=∀α s env E,EI α e env->GS G α σ s->ay G.M G.A (isTrue x env (eval x env)) (W RB G α s.heap b σ') E s
def fg(G:Gv)(e:Env)(x:Str)(c:CV)(σ σ':St):Prop:=∀α s env E v,EI α e env->GS G α σ s->VR α s.heap c v->ay G.M G.A (storeName env x v) (W RU G α s.heap () σ') E s
def d0(G:Gv)(f:af->Sem af)(a:CV)(σ:St)(c:CV)(σ':St):Prop:=∀α s v E,GS G α σ s->VR α s.heap a v->ay G.M G.A (f v) (W VR G α s.heap c σ') E s
def bH(G:Gv)(f:af->af->Sem af)(a b:CV)(σ:St)(c:CV)(σ':St):Prop:=∀α s v w E,GS G α σ s->VR α s.heap a v->VR α s.heap b w->ay G.M G.A (f v w) (W VR G α s.heap c σ') E s
def Ri(G:Gv)(a:CV)(σ:St)(b:Bool):Prop:=∀α s v E,GS G α σ s->VR α s.heap a v->ay G.M G.A (truthy v) (W RB G α s.heap b σ) E s
def bN(G:Gv)(f:List af->Sem af)(cs:List CV)(σ:St)(c:CV)(σ':St):Prop:=∀α s vs E,GS G α σ s->dq α s.heap cs vs->ay G.M G.A (f vs) (W VR G α s.heap c σ') E s
theorem GS.here{γ δ:Type}{R:AM->Heap->δ->γ->Prop}{α s d v}(g:GS G α σ s)(r:R α s.heap d v):W R G α s.heap d σ v s:=⟨α,.refl _ _,g,r⟩
theorem GS.gx{γ δ:Type}{R:AM->Heap->δ->γ->Prop}{α s d v}{k: Nat}(g:GS G α σ s)(r:R α s.heap d v):W R G α s.heap d σ v {s with toks:=k}:=⟨α,.refl _ _,g.tok k,r⟩
theorem wQ{α:Type}{M:fX}{A:b_}{s: aq}{t:Sem α}{Q Q':α->aq->Prop}{E:af->aq->Prop}(h:ay M A t Q E s)(k:∀a s,Q a s->Q' a s):ay M A t Q' E s:=df h k λzz zz x=>x
section
variable{G:Gv}{m k:Nat}{σ:St}{α:AM}{h0:Heap}{M:fX}{A:b_}{E:af->aq->Prop}{s:aq}
section
variable{γ δ:Type}{R:AM->Heap->δ->γ->Prop}{d:δ}{t:Sem γ}{Q:γ->aq->Prop}
theorem jb(h:ay M A t (W R G α h0 d σ) E s)(k:∀β v s',Le α h0 β s'.heap->GS G β σ s'->R β s'.heap d v->Q v s'):ay M A t Q E s:=wQ h λv s ⟨β,x,g,r⟩=>k β v s x g r
end
theorem yv{b: Bool}{t: Sem Bool}{Q:Bool->aq->Prop}(h:ay M A t (W RB G α h0 b σ) E s)(k:∀β s',Le α h0 β s'.heap->GS G β σ s'->Q b s'):ay M A t Q E s:=wQ h λv s ⟨β,x,g,r⟩=>r▸k β s x g
theorem Ib{t:Sem Unit}{R:AM->Heap->Unit->Unit->Prop}{Q:Unit->aq->Prop}(h:ay M A t (W R G α h0 () σ) E s)(k:∀β s',Le α h0 β s'.heap->GS G β σ s'->Q () s'):ay M A t Q E s:=wQ h λv s ⟨β,x,g,r⟩=>k β s x g
theorem Lc{t: Sem af}{Q:af->aq->Prop}(h:ay M A t (W VR G α h0 (.ref k) σ) E s)(q:∀β a s',Le α h0 β s'.heap->GS G β σ s'->β.f k=some a->Q (.ref a) s'):ay M A t Q E s:=jb h λβ v s x g ⟨a,e,r⟩=>e▸q β a s x g r
theorem La{w: af}{t: Sem af}{Q:af->aq->Prop}(h:ay M A t (W VR G α h0 (.val w) σ) E s)(q:∀β s',Le α h0 β s'.heap->GS G β σ s'->Q w s'):ay M A t Q E s:=jb h λβ v s x g r=>(show v=w from r)▸q β s x g
theorem Yq{t: Sem af}{Q:af->aq->Prop}(h:ay M A t (W VR G α h0 .none σ) E s)(q:∀β s',Le α h0 β s'.heap->GS G β σ s'->Q .none s'):ay M A t Q E s:=jb h λβ v s x g r=>(show v=.none from r)▸q β s x g
end
noncomputable def Ip(x:Str):Bool:=x==("__debug__":Str)
noncomputable def bx(e:Env)(x:Str)(k:NameKind):Bool:=e.scope.kind==.function&&e.kindOf x==some k
theorem bx.is{x k α env}(h:bx e x k=true)(i:EI α e env):env.scope.kind=.function/\env.kindOf x=some k:=by
 unfold bx at h;rw[aK]at h;exact⟨i.scope▸beq_iff_eq.mp h.1,(i.kindOf x).trans (beq_iff_eq.mp h.2)⟩
theorem aV.name{x p}(h:gI G e x σ c)(hd:Ip x=false):aV G e (.Name x p) σ c σ:=λα s env E i g=>wpAny_Name (h α s env E i g) hd
theorem gI.loc{x m}(hm:σ.get e.locals=some (.frame m))(hx:m.lookup x=some c)(hl:bx e x .local=true:=by kernel_rfl):gI G e x σ c:=by
 intro α s env E i g;refine c_ λj7 ef=>?_;obtain⟨a,ha,mf,hn,q⟩:=g.own _ _ hm;refine ef ?_;refine aH (q _ _ hx) λv hv r=>?_;rw[i.loc]at ha;cases ha;exact iG (bx.is hl i).1 (bx.is hl i).2 hn hv (g.here r)
theorem aV.loc{x p m}(hm:σ.get e.locals=some (.frame m))(hx:m.lookup x=some c)(hl:bx e x .local=true:=by kernel_rfl)(hd:Ip x=false:=by rfl):aV G e (.Name x p) σ c σ:=.name (.loc hm hx hl) hd
theorem GS.cell{α s env x k}(g:GS G α σ s)(i:EI α e env)(hc:e.cells.lookup x=some k)(hx:σ.get k=some (.cell (some c))):∃a v,env.cells.lookup x=some a/\s.heap.IsCell a (some v)/\VR α s.heap c v:=by
 refine c_ λj7 ef=>?_;obtain⟨a,ha,v,ic,_,q⟩:=g.own _ _ hx;refine ef ?_;refine aH (q c rfl) λw vO r=>?_;obtain rfl:=vO;refine aH (i.cells _ _ hc) λb hb e2=>?_;cases ha.symm.trans e2;exact qw a w ⟨hb,ic,r⟩
theorem gI.cell{x k}(hc:e.cells.lookup x=some k)(hx:σ.get k=some (.cell (some c)))(hl:bx e x .cell=true:=by kernel_rfl):gI G e x σ c:=by
 intro α s env E i g;refine fu (g.cell i hc hx) λa v h1 h2 r=>?_;exact wpAny_loadName_cell (bx.is hl i).1 (bx.is hl i).2 h1 h2 (g.here r)
theorem aV.cell{x p k}(hc:e.cells.lookup x=some k)(hx:σ.get k=some (.cell (some c)))(hl:bx e x .cell=true:=by kernel_rfl)(hd:Ip x=false:=by rfl):aV G e (.Name x p) σ c σ:=.name (.cell hc hx hl) hd
theorem aV.free{x p k}(hl:bx e x .free=true)(hc:e.cells.lookup x=some k)(hx:σ.get k=some (.cell (some c)))(hd:Ip x=false:=by rfl)(hn:(x==("__classdict__":Str))=false:=by rfl):aV G e (.Name x p) σ c σ:=by
 refine .name (λα s env E i g=>?_) hd;refine fu (g.cell i hc hx) λa v h1 h2 r=>?_;exact wpAny_loadName_free (bx.is hl i).1 (bx.is hl i).2 h1 h2 (g.here r) hn
def Glob(G:Gv)(x:Str)(v:af):Prop:=(∃mg,G.h₀.Ns 3 mg/\mg x=some v)∨∃mg mb,G.h₀.Ns 3 mg/\mg x=none/\G.h₀.Ns 0 mb/\mb x=some v
theorem jS{env: Env}(h1:env.scope.kind=.function)(h2:env.kindOf x=some .globalImplicit):loadName env x=loadGlobal env x:=by
 obtain⟨⟨k,ns,g,c,m⟩,l,gl,cs,q,f,cd,fr,b⟩:=env;cases h1;unfold loadName;rw[h2];rfl
theorem aV.glob{x p v}(h:Glob G x v)(hl:bx e x .globalImplicit=true:=by kernel_rfl)(hg:e.globals=3:=by rfl)(hb:e.builtins=0:=by rfl)(hd:Ip x=false:=by rfl):aV G e (.Name x p) σ (.val v) σ:=by
 intro α s env E i g;have kp:=λb o eb=>(g.base b o eb).2;refine wpAny_Name ?_ hd;rw[jS (bx.is hl i).1 (bx.is hl i).2];rcases h with⟨mg,n1,e1⟩|⟨mg,mb,n1,e1,n2,e2⟩
 ·exact mJ ((i.globals.trans hg)▸n1.keeps kp) e1 (g.here rfl)
 ·exact iM ((i.globals.trans hg)▸n1.keeps kp) e1 ((i.builtins.trans hb)▸n2.keeps kp) e2 (g.here rfl)
theorem aV.int{i k pos}:aV G e (.Constant (.int i) k pos) σ (.int i) σ:=λzz zz zz zz zz g=>wpAny_Constant_int (g.gx ⟨_,rfl⟩)
theorem aV.str{x k pos}:aV G e (.Constant (.str x) k pos) σ (.str x) σ:=λzz zz zz zz zz g=>Calls.Constant_str (g.gx ⟨_,rfl⟩)
theorem aV.none{k pos}:aV G e (.Constant .none k pos) σ .none σ:=λzz zz zz zz zz g=>λzz zz zz=>g.here rfl
theorem aV.bool{b k pos}:aV G e (.Constant (.bool b) k pos) σ (.bool b) σ:=λzz zz zz zz zz g=>λzz zz zz=>g.here rfl
theorem two{x y: Expr}{f:af->af->Sem af}{α s env E}(h1:aV G e x σ a σ1)(h2:aV G e y σ1 b σ2)(h3:bH G f a b σ2 c σ3)(i:EI α e env)(g:GS G α σ s):
  ay G.M G.A (eval x env) (λv s1=>ay G.M G.A (eval y env) (λw s2=>ay G.M G.A (f v w) (W VR G α s.heap c σ3) E s2) E s1) E s:=by
 refine jb (h1 α s env E i g) λβ v s1 x g1 r1=>?_;refine jb (h2 β s1 env E (i.mono x) g1) λγ w s2 y g2 r2=>?_;exact wQ (h3 γ s2 v w E g2 (r1.mono y) r2) λzz zz w=>w.trans (x.trans y)
theorem aV.bin{l op r pos}(h1:aV G e l σ a σ1)(h2:aV G e r σ1 b σ2)(h3:bH G (ft op) a b σ2 c σ3):aV G e (.BinOp l op r pos) σ c σ3:=
 λα s env E i g=>wpAny_BinOp (two h1 h2 h3 i g)
theorem aV.cmp{l op r pos}(h1:aV G e l σ a σ1)(h2:aV G e r σ1 b σ2)(h3:bH G (bO op) a b σ2 c σ3)(hm:behindInMarks op r=false:=by rfl):aV G e (.Compare l [op] [r] pos) σ c σ3:=
 λα s env E i g=>wpAny_Compare1 (two h1 h2 h3 i g) hm
theorem i2{f:af->af->Sem af}{k: Int}(hf:∀(s:aq)(Q:af->aq->Prop)(E:af->aq->Prop)(t u:Tok),(∀x n,Q (.int k x) {s with toks:=n})->ay G.M G.A (f (.int i t) (.int j u)) Q E s):bH G f (.int i) (.int j) σ (.int k) σ:=by
 rintro α s _ _ E g ⟨t,rfl⟩ ⟨u,rfl⟩;exact hf s _ _ _ _ λx n=>g.gx ⟨_,rfl⟩
theorem b2{f:af->af->Sem af}{k: Bool}(hf:∀(s:aq)(Q:af->aq->Prop)(E:af->aq->Prop)(t u:Tok),Q (.bool k) s->ay G.M G.A (f (.int i t) (.int j u)) Q E s):bH G f (.int i) (.int j) σ (.bool k) σ:=by
 rintro α s _ _ E g ⟨t,rfl⟩ ⟨u,rfl⟩;exact hf s _ _ _ _ (g.here rfl)
theorem cE:bH G (ft .Add) (.int i) (.int j) σ (.int (i+j)) σ:=i2 λs Q E t u h=>P.add_int (h _ _)
theorem lH:bH G (ft .Sub) (.int i) (.int j) σ (.int (i-j)) σ:=i2 λs Q E t u h=>P.sub_int (h _ _)
theorem lI(hm:IntMulOk i j):bH G (ft .Mult) (.int i) (.int j) σ (.int (i*j)) σ:=i2 λs Q E t u h=>P.mul_int (h _ _) hm
theorem jY(hb:j≠0)(hs:j.natAbs<1073741824):bH G (ft .FloorDiv) (.int i) (.int j) σ (.int (i.fdiv j)) σ:=i2 λs Q E t u h=>PyProof.Rows.floordiv_int hb (h _ _) (Or.inl (PyProof.noPylong_small hs))
theorem gq(hb:j≠0):bH G (ft .Mod) (.int i) (.int j) σ (.int (i.fmod j)) σ:=i2 λs Q E t u h=>PyProof.Rows.mod_int' hb (h _ _)
theorem Ox:bH G (ft .BitAnd) (.int i) (.int j) σ (.int (Builtin.bitAnd i j)) σ:=i2 λs Q E t u h=>PyProof.Rows.and_int (h _ _)
theorem Ow(hb:0<=j):bH G (ft .RShift) (.int i) (.int j) σ (.int (i.fdiv (2^j.toNat))) σ:=i2 λs Q E t u h=>PyProof.Rows.rshift_int hb (h _ _)
theorem oZ:bH G (inplaceOp .Add) (.int i) (.int j) σ (.int (i+j)) σ:=i2 λs Q E t u h=>P.iadd_int (h _ _)
theorem jv:bH G (bO .Lt) (.int i) (.int j) σ (.bool (decide (i<j))) σ:=b2 λs Q E t u h=>P.lt_int h
theorem rS:bH G (bO .Gt) (.int i) (.int j) σ (.bool (decide (i>j))) σ:=b2 λs Q E t u h=>P.gt_int h
theorem rT:bH G (bO .Eq) (.int i) (.int j) σ (.bool (i==j)) σ:=b2 λs Q E t u h=>P.eq_int h
end
section
noncomputable def EB(m:Nat)(e:Env):Bool:=a9 e.locals m&&e.cells.all λp=>a9 p.2 m
theorem lookup_all{f:Nat->Bool}{x:Str}{k:Nat}{l:List (Str×Nat)}(h:(l.all λp=>f p.2)=true)(e:l.lookup x=some k):f k=true:=by
 induction l with
 |nil=>cases e
 |cons p l ih =>
  rw[List.all_cons,aK]at h;rw[aR]at e;cases z:x==p.1 with
  |true=>rw[z]at e;cases e;exact h.1
  |false=>rw[z]at e;exact ih h.2 e
theorem EI.oq{m α h β h' e env}(x:z0 m α h β h')(b:EB m e=true)(i:EI α e env):EI β e env:=by
 unfold EB at b;rw[aK]at b;exact⟨x.le _ (Nat.blt_eq.mp b.1) _ i.loc,λy k e=>(i.cells y k e).imp λa q=>⟨q.1,x.le k (Nat.blt_eq.mp (lookup_all (f:=λk=>a9 k m) b.2 e)) a q.2⟩,i.scope,i.globals,i.builtins,i.qual,i.code⟩
inductive WM(m:Nat)(G:Gv)(α:AM)(h:Heap)(d:CF)(σ:St)(v:Flow)(s:aq):Prop
 |mk (β:AM) (le:z0 m α h β s.heap) (gs:GS G β σ s) (r:RF β s.heap d v):WM m G α h d σ v s
theorem WM.trans{m G α h β h' d σ v s}(x:z0 m α h β h')(y:WM m G β h' d σ v s):WM m G α h d σ v s:=by
 obtain⟨γ,le,gs,r⟩:=y;exact⟨γ,x.trans le,gs,r⟩
section
variable{G:Gv}{m k:Nat}{σ:St}{α:AM}{h0:Heap}{M:fX}{A:b_}{E:af->aq->Prop}{s:aq}
theorem wqM{d:CF}{t:Sem Flow}{Q:Flow->aq->Prop}(h:ay M A t (WM m G α h0 d σ) E s)(k:∀β v s',z0 m α h0 β s'.heap->GS G β σ s'->RF β s'.heap d v->Q v s'):ay M A t Q E s:=wQ h λv s ⟨β,x,g,r⟩=>k β v s x g r
theorem SW{t:Sem Flow}{Q:Flow->aq->Prop}(h:ay M A t (WM m G α h0 .next σ) E s)(k:∀β s',z0 m α h0 β s'.heap->GS G β σ s'->Q .next s'):ay M A t Q E s:=wqM h λβ v s x g r=>(show v=.next from r)▸k β s x g
end
variable{G:Gv}{m:Nat}{e:Env}{σ σ1 σ2 σ3 pL:St}{a b c d:CV}{f:CF}{i:Int}{t:Bool}
def SS(G:Gv)(m:Nat)(e:Env)(x:Stmt)(σ:St)(f:CF)(σ':St):Prop:=∀α s env E,EI α e env->GS G α σ s->ay G.M G.A (exec x env) (WM m G α s.heap f σ') E s
def eA(G:Gv)(m:Nat)(e:Env)(x:List Stmt)(σ:St)(f:CF)(σ':St):Prop:=∀α s env E,EI α e env->GS G α σ s->ay G.M G.A (jr x env) (WM m G α s.heap f σ') E s
theorem GS.VI{α s v}(g:GS G α σ s)(r:RF α s.heap f v):WM m G α s.heap f σ v s:=⟨α,(Le.refl _ _).mL,g,r⟩
theorem Tz{b: Bool}:Ri G (.bool b) σ b:=by rintro α s _ E g rfl;exact gb (g.here rfl)
theorem Tx:Ri G (.int i) σ (i != 0):=by rintro α s _ E g ⟨t,rfl⟩;exact P.truthy_int (g.here rfl)
theorem cD.plain{x: Expr}(h:aV G e x σ c σ1)(ht:Ri G c σ1 t)(he:∀env,isTrue x env (eval x env)=(do let v ←eval x env;fR x.pos;iY [v] (truthy v)):=by intro _;rfl):cD G e x σ t σ1:=by
 intro α s env E i g;refine PyProof.Rows.isTrue_plain (jb (h α s env E i g) λβ v s1 x g1 r1=>?_) (he env);exact wQ (ht β s1 v E g1 r1) λzz zz w=>w.trans x
theorem cD.cmp{l op r pos}(h1:aV G e l σ a σ1)(h2:aV G e r σ1 b σ2)(h3:bH G (bO op) a b σ2 (.bool t) σ3)(hm:behindInMarks op r=false:=by rfl):cD G e (.Compare l [op] [r] pos) σ t σ3:=by
 intro α s env E i g;refine wpAny_isTrue_Compare1 (jb (h1 α s env E i g) λβ v s1 x g1 r1=>?_) hm;refine jb (h2 β s1 env E (i.mono x) g1) λγ w s2 y g2 r2=>?_;refine wQ (h3 γ s2 v w E g2 (r1.mono y) r2) ?_;rintro _ s3 ⟨δ,z,g3,rfl⟩;exact gb ⟨δ,(x.trans y).trans z,g3,rfl⟩
theorem cD.not{x pos}(h:cD G e x σ t σ1):cD G e (.UnaryOp .Not x pos) σ (!t) σ1:=by
 intro α s env E i g;refine PyProof.Rows.isTrue_not (wQ (h α s env E i g) ?_);rintro _ s1 ⟨β,x,g1,rfl⟩;exact⟨β,x,g1,rfl⟩
theorem cD.vE{x y bM pos}(h:cD G e x σ true σ1)(k:cD G e (.BoolOp .And (y::bM) pos) σ1 t σ2):cD G e (.BoolOp .And (x::y::bM) pos) σ t σ2:=by
 intro α s env E i g;refine fJ (yv (h α s env E i g) λβ s1 x g1=>?_);exact wQ (k β s1 env E (i.mono x) g1) λzz zz w=>w.trans x
theorem cD.CZ{x bM pos}(h:cD G e x σ false σ1):cD G e (.BoolOp .And (x::bM) pos) σ false σ1:=by
 intro α s env E i g;refine fJ (wQ (h α s env E i g) ?_);rintro _ s1 ⟨β,x,g1,rfl⟩;exact⟨β,x,g1,rfl⟩
theorem cD.zV{x pos}(h:cD G e x σ t σ1):cD G e (.BoolOp .And [x] pos) σ t σ1:=by
 intro α s env E i g;refine fJ (yv (h α s env E i g) λβ s1 x g1=>?_);cases t with
 |false=>exact⟨β,x,g1,rfl⟩
 |true=>exact PyProof.Rows.isTrue_and_nil ⟨β,x,g1,rfl⟩
theorem cD.RA{x y bM pos}(h:cD G e x σ false σ1)(k:cD G e (.BoolOp .Or (y::bM) pos) σ1 t σ2):cD G e (.BoolOp .Or (x::y::bM) pos) σ t σ2:=by
 intro α s env E i g;refine PyProof.Rows.isTrue_or (yv (h α s env E i g) λβ s1 x g1=>?_);exact wQ (k β s1 env E (i.mono x) g1) λzz zz w=>w.trans x
theorem cD.RC{x pos}(h:cD G e x σ t σ1):cD G e (.BoolOp .Or [x] pos) σ t σ1:=by
 intro α s env E i g;refine PyProof.Rows.isTrue_or (yv (h α s env E i g) λβ s1 x g1=>?_);cases t with
 |true=>exact⟨β,x,g1,rfl⟩
 |false=>exact PyProof.Rows.isTrue_or_nil ⟨β,x,g1,rfl⟩
theorem aV.jK{t x y pos}{b: Bool}(h:cD G e t σ b σ1)(k:aV G e (if b then x else y) σ1 c σ2):aV G e (.IfExp t x y pos) σ c σ2:=by
 intro α s env E i g;refine wpAny_IfExp (yv (h α s env E i g) λβ s1 x g1=>?_);cases b<;>exact wQ (k β s1 env E (i.mono x) g1) λzz zz w=>w.trans x
theorem aV.un{op x pos}(h:aV G e x σ a σ1)(k:d0 G (unaryOp op) a σ1 c σ2):aV G e (.UnaryOp op x pos) σ c σ2:=by
 intro α s env E i g;refine UnaryOp_ (wQ (h α s env E i g) ?_);rintro v s1 ⟨β,x,g1,r1⟩;exact wQ (k β s1 v E g1 r1) λzz zz w=>w.trans x
theorem nz:d0 G (unaryOp .USub) (.int i) σ (.int (-i)) σ:=by rintro α s _ E g ⟨t,rfl⟩;exact P.neg_int (g.gx ⟨_,rfl⟩)
noncomputable def p_(e:Expr):Bool:=!(aU e.ctorIdx 22)
theorem jP{e: Expr}{es: List Expr}{env: Env}(h:p_ e=true):fq (e::es) env=(false,eval e env)::fq es env:=by
 cases e<;>first|rfl|cases h
def kG(G:Gv)(e:Env)(pos:Pos)(xs:List Expr)(σ:St)(cs:List CV)(σ':St):Prop:=
 xs.all p_=true/\∀α s env E,EI α e env->GS G α σ s->ay G.M G.A (spliced (kj pos (fq xs env))) (W dq G α s.heap cs σ') E s
variable{pos:Pos}{xs:List Expr}{cs:List CV}
theorem kG.nil:kG G e pos [] σ [] σ:=⟨rfl,λzz zz zz zz zz g=>ju (g.here rfl)⟩
theorem kG.cons{x}(h:aV G e x σ c σ1)(k:kG G e pos xs σ1 cs σ2)(hp:p_ x=true:=by rfl):kG G e pos (x::xs) σ (c::cs) σ2:=by
 refine⟨by rw[List.all_cons,hp,k.1];rfl,λα s env E i g=>?_⟩;rw[jP hp];refine i5 (jb (h α s env E i g) λβ v s1 x g1 r1=>?_);refine jb (k.2 β s1 env E (i.mono x) g1) λγ vs s2 y g2 r2=>?_;exact⟨γ,x.trans y,g2,v,vs,rfl,r1.mono y,r2⟩
theorem GS.list{α s xs vs}(g:GS G α σ s)(r:dq α s.heap xs vs)(tk:Nat):W VR G α s.heap (.ref σ.n) (σ.push (.list xs)) (.ref s.heap.objs.size) {s with heap:=s.heap.push (kE vs 0),toks:=tk}:=by
 have t:=g.push (ao:=.list xs) (o:=kE vs 0) (λle=>⟨vs,0,aM _ rfl,r.mono le⟩) tk;exact⟨_,t.1,t.2,_,rfl,AM.d7 _ _ _⟩
theorem aV.list(h:kG G e pos xs σ cs σ1)(hf:dv cs.length bC=true):aV G e (.List xs pos) σ (.ref σ1.n) (σ1.push (.list cs)):=by
 intro α s env E i g;refine wpAny_List (jb (h.2 α s env E i g) λβ vs s1 x g1 r1=>?_);exact⟨by rw[r1.length];exact a_ hf,(g1.list r1 s1.toks).trans x⟩
theorem GS.tup{α s xs vs}(g:GS G α σ s)(r:dq α s.heap xs vs)(tk:Nat):W VR G α s.heap (.tup xs) σ (.ref s.heap.objs.size) {s with heap:=s.heap.push (uk vs 0),toks:=tk}:=by
 have t:=g.same (h':=s.heap.push (uk vs 0)) (λb o e=>aw _ e) tk;exact⟨_,t.1,t.2,_,vs,0,rfl,λhk=>(by obtain⟨o,e⟩:=g.lt _ hk;rw[eG]at e;cases e),λhR=>(by obtain⟨o,e,_⟩:=g.pW _ hR;rw[eG]at e;cases e),aM _ rfl,r.mono t.1⟩
end
section
variable{G:Gv}{m:Nat}{e:Env}{σ σ1 σ2 σ3 pL:St}{a b c d:CV}{f:CF}
noncomputable def upd:List (Str×CV)->Str->CV->List (Str×CV)
 |[],x,c=>[(x,c)]
 |(y,d)::m,x,c=>match x==y with
  |true=>(y,c)::m
  |false=>(y,d)::upd m x c
theorem zb(x:Str)(c:CV)(y:Str):∀(m:List (Str×CV)),(upd m x c).lookup y=if y=x then some c else m.lookup y:=by
 intro m
 induction m with
 |nil =>
  show kA y [(x,c)]=_;rw[aR];by_cases h:y=x
  ·rw[if_pos h,beq_iff_eq.mpr h]
  ·rw[if_neg h,beq_eq_false_iff_ne.mpr h]
 |cons p m ih =>
  obtain⟨z,d⟩:=p;unfold upd;cases q:x==z with
  |true =>
   rw[←beq_iff_eq.mp q,aR,aR];by_cases h:y=x
   ·rw[if_pos h,beq_iff_eq.mpr h]
   ·rw[if_neg h,beq_eq_false_iff_ne.mpr h]
  |false =>
   show kA y ((z,d)::upd m x c)=_;rw[aR,aR,ih];by_cases h:y=x
   ·rw[h,q,if_pos rfl]
   ·rw[if_neg h,if_neg h]
theorem fg.loc{x m'}(hm:σ.get e.locals=some (.frame m'))(hl:bx e x .local=true:=by kernel_rfl):fg G e x c σ (σ.set e.locals (.frame (upd m' x c))):=by
 intro α s env E v i g r;refine c_ λj7 ef=>?_;obtain⟨a,ha,mf,hn,q⟩:=g.own _ _ hm;have hl:=bx.is hl i;have ea:a=env.locals:=a8 (ha.symm.trans i.loc);subst ea;refine ef ?_;refine wpAny_storeName_local hl.2 hn (λh' Qe uQ=>?_) (by rw[hl.1];rfl);have t:=g.turn (h':=h') hm i.loc (ao':=.frame (upd m' x c)) (λb o hb eo=>(uQ.2 b hb).trans eo) (λle=>⟨_,Qe,λy d hy=>?_⟩) (s.toks+1)
 ·exact⟨α,t.1,t.2,trivial⟩
 ·rw[zb]at hy
  by_cases XS:y=x
  ·rw[if_pos XS]at hy
   cases hy;exact⟨v,if_pos XS,r.mono le⟩
  ·rw[if_neg XS]at hy
   refine aH (q y d hy) λw hw r'=>?_;exact⟨w,(if_neg XS).trans hw,r'.mono le⟩
theorem fg.cell{x k o}(hc:e.cells.lookup x=some k)(hm:σ.get k=some (.cell o))(hl:bx e x .cell=true:=by kernel_rfl):fg G e x c σ (σ.set k (.cell (some c))):=by
 intro α s env E v i g r;refine c_ λj7 ef=>?_;obtain⟨a,ha,v0,ic,_⟩:=g.own _ _ hm;refine ef ?_;have hl:=bx.is hl i;refine aH (i.cells _ _ hc) λb hb e2=>?_;cases ha.symm.trans e2;refine wpAny_storeName_cell hl.1 hl.2 hb ic λh' he uQ=>?_;have t:=g.turn (h':=h') hm ha (ao':=.cell (some c)) (λb o hb eo=>(uQ.2 b hb).trans eo) (λle=>⟨_,he,λh=>(nomatch h),λd hd=>?_⟩) s.toks
 ·exact⟨α,t.1,t.2,trivial⟩
 ·cases hd
  exact⟨v,rfl,r.mono le⟩
theorem eA.nil:eA G m e [] σ .next σ:=λzz zz zz zz zz g=>wpAny_execs_nil (g.VI rfl)
theorem eA.cons{st bM}(h:SS G m e st σ .next σ1)(k:eA G m e bM σ1 f σ2)(hb:EB m e=true):eA G m e (st::bM) σ f σ2:=by
 intro α s env E i g;refine gD (SW (h α s env E i g) λβ s1 x g1=>?_);exact wQ (k β s1 env E (i.oq x hb) g1) λzz zz w=>w.trans x
noncomputable def CF.uO:CF->Bool | .next=>false|_=>true
theorem eA.stop{st bM}(h:SS G m e st σ f σ1)(hf:f.uO=true):eA G m e (st::bM) σ f σ1:=by
 intro α s env E i g;refine gD (wQ (h α s env E i g) ?_);intro v s1 w;cases f with
 |next=>cases hf
 |brk=>obtain⟨β,x,g1,rfl⟩:=w;exact⟨β,x,g1,rfl⟩
 |cont=>obtain⟨β,x,g1,rfl⟩:=w;exact⟨β,x,g1,rfl⟩
 |ret c=>obtain⟨β,x,g1,v,rfl,r⟩:=w;exact⟨β,x,g1,v,rfl,r⟩
noncomputable def oK(e:Expr):Bool:=dv 8 e.ctorIdx&&dv e.ctorIdx 10
theorem rV{value: Expr}(h:oK value=false)(t:Option Expr)(l:Nat)(env:Env):swapsWith value t l env=pure false:=by
 cases value<;>first|rfl|cases h
theorem SS.assign{x p value pos}(h:aV G e value σ c σ1)(k:fg G e x c σ1 σ2)(hc:oK value=false:=by rfl):SS G m e (.Assign [.Name x p] value pos) σ .next σ2:=by
 intro α s env E i g;refine wpAny_Assign_Name (jb (h α s env E i g) λβ v s1 x g1 r1=>?_) (rV hc _ _ _);refine Ib (k β s1 env E v (i.mono x) g1 r1) λγ s2 y g2=>?_;exact⟨γ,(x.trans y).mL,g2,rfl⟩
theorem SS.aug{x p op value pos}(h1:gI G e x σ a)(h2:aV G e value σ b σ1)(h3:bH G (inplaceOp op) a b σ1 c σ2)(k:fg G e x c σ2 σ3):SS G m e (.AugAssign (.Name x p) op value pos) σ .next σ3:=by
 intro α s env E i g;refine wpAny_AugAssign_Name (jb (h1 α s env E i g) λβ v s1 x g1 r1=>?_);refine jb (h2 β s1 env E (i.mono x) g1) λγ w s2 y g2 r2=>?_;refine jb (h3 γ s2 v w E g2 (r1.mono y) r2) λδ u s3 z g3 r3=>?_;refine Ib (k δ s3 env E u (((i.mono x).mono y).mono z) g3 r3) λε s4 t g4=>?_;exact⟨ε,(((x.trans y).trans z).trans t).mL,g4,rfl⟩
theorem SS.jK{t x y pos}{b: Bool}(h:cD G e t σ b σ1)(k:eA G m e (if b then x else y) σ1 f σ2):SS G m e (.If t x y pos) σ f σ2:=by
 intro α s env E i g;refine wpAny_If (yv (h α s env E i g) λβ s1 x g1=>?_);cases b<;>exact wQ (k β s1 env E (i.mono x) g1) λzz zz w=>w.trans x.mL
theorem SS.ret{x pos}(h:aV G e x σ c σ1):SS G m e (.Return (some x) pos) σ (.ret c) σ1:=by
 intro α s env E i g;refine wpAny_Return_some (wQ (h α s env E i g) ?_);rintro v s1 ⟨β,x,g1,r1⟩;exact⟨β,x.mL,g1,v,rfl,r1⟩
theorem SS.expr{x pos}(h:aV G e x σ .none σ1)(hk:(e.scope.kind==.function)=true:=by rfl)(hc:oK x=false:=by rfl):SS G m e (.Expr x pos) σ .next σ1:=by
 intro α s env E i g;have hi:interactive env=false:=by
  unfold interactive;rw[i.scope,beq_iff_eq.mp hk];rfl
 refine wpAny_Expr (Yq (h α s env E i g) λβ s1 x g1=>?_) hi (rV hc _ _ _);exact⟨β,x.mL,g1,rfl⟩
def fz(m:Nat)(σ σ':St):Prop:=∀G α s,GS G α σ s->∃β,z0 m α s.heap β s.heap/\GS G β σ' s
theorem fz.refl:fz m σ σ:=λzz α zz g=>⟨α,(Le.refl _ _).mL,g⟩
theorem Ci{A:b_}(h:A.handled=none):A.mark none=A:=by cases A;cases h;rfl
end
section
variable{G:Gv}{m:Nat}{e:Env}{σ σ1 σ2 σ3 pL:St}{a b c d:CV}{f:CF}{cs ks:List CV}{s:aq}{env:Env}{n:Nat}{α:AM}
noncomputable def AM.lN(α:AM)(n a c:Nat):AM:=⟨λk=>match dv n k&&a9 k (n+c)with
 |true=>some (a+(k-n))
 |false=>α.f k,λb=>(∃i,i<c/\b=a+i)∨α.O b,α.R⟩
theorem AM.gr{a c i: Nat}(h:i<c):(α.lN n a c).f (n+i)=some (a+i):=by
 unfold AM.lN;dsimp only;rw[Nat.ble_eq_true_of_le (bj n i),Nat.blt_eq.mpr (Nat.add_lt_add_left h n),m5];rfl
theorem AM.sQ{a c k b: Nat}(h:(α.lN n a c).f k=some b):(∃i,i<c/\k=n+i/\b=a+i)∨α.f k=some b:=by
 unfold AM.lN at h;dsimp only at h;cases q:dv n k&&a9 k (n+c)with
 |true =>
  rw[q]at h;cases h;rw[aK]at q;have q1:=a_ q.1;have q2:=Nat.blt_eq.mp q.2;exact .inl ⟨k-n,mj q1 q2,(Nat.add_sub_cancel' q1).symm,rfl⟩
 |false=>rw[q]at h;exact .inr h
theorem AM.K2{a c: Nat}(h:∀k,n<=k->α.f k=none)(k b:Nat)(e:α.f k=some b):(α.lN n a c).f k=some b:=by
 unfold AM.lN;dsimp only;cases q:dv n k with
 |true=>rw[h k (a_ q)]at e;cases e
 |false=>exact e
noncomputable def St.oh:List AO->St->St
 |[],σ=>σ
 |o::os,σ=>St.oh os (σ.push o)
theorem Jl:∀(os:List AO)(σ:St),(σ.oh os).n=σ.n+os.length:=by
 intro os
 induction os with
 |nil=>intro σ;rfl
 |cons o os ih=>intro σ;exact(ih _).trans (by show σ.n+1+_=σ.n+(os.length+1);lia)
theorem l5:∀(os:List AO) {σ:St}{k:Nat}{ao:AO},(σ.oh os).get k=some ao->(∃i,i<os.length/\k=σ.n+i/\os[i]?=some ao)∨(k<σ.n∨σ.n+os.length<=k)/\σ.get k=some ao:=by
 intro os
 induction os with
 |nil=>intro σ k ao h;exact .inr ⟨iB _ _,h⟩
 |cons o os ih =>
  intro σ k ao h;rcases ih h with⟨i,l,e,q⟩|⟨l,q⟩
  ·exact .inl ⟨i+1,Nat.succ_lt_succ l,by rw[e];show σ.n+1+i=_;lia,q⟩
  ·rw[show(σ.push o).get k=match aU k σ.n with|true=>some o|false=>cL σ.objs k from rfl]at q
   cases z:aU k σ.n with
   |true=>rw[z]at q;exact .inl ⟨0,Nat.succ_pos _,aO z,q⟩
   |false =>
    rw[z]at q;have n:k≠σ.n:=λh=>by rw[h,bL]at z;cases z
    have l:k<σ.n+1∨σ.n+1+os.length<=k:=l;exact .inr ⟨by rw[cq];lia,q⟩
theorem GS.AJ{α s a h'}{os: List AO}(g:GS G α σ s)(same:∀b o,s.heap.get? b=some o->h'.get? b=some o)(ha:∀i,i<os.length->s.heap.get? (a+i)=none)
  (x:Le α s.heap (α.lN σ.n a os.length) h'->∀i ao,os[i]?=some ao->OI G (α.lN σ.n a os.length) h' (a+i) ao) (tk:Nat):
  Le α s.heap (α.lN σ.n a os.length) h'/\GS G (α.lN σ.n a os.length) (σ.oh os) {s with heap:=h',toks:=tk}:=by
 have le:Le α s.heap (α.lN σ.n a os.length) h':=⟨λk zz=>AM.K2 g.new k,λb e=>e.elim (λ⟨i,l,q⟩=>.inr (q▸ha i l)) .inl,rfl,λb o zz=>same b o⟩;have Dc:∀{b i:Nat},α.O b->i<os.length->b=a+i->False:=λh l q=>by obtain⟨o,e⟩:=g.lt _ h;rw[q,ha _ l]at e;cases e
 have old:∀{k b ao},(k<σ.n∨σ.n+os.length<=k)->(α.lN σ.n a os.length).f k=some b->σ.get k=some ao->α.f k=some b/\α.O b:=λn h e=>by
  rcases AM.sQ h with⟨i,l,q,_⟩|q
  ·exact absurd n (by lia)
  ·exact⟨q,g.ow _ _ _ e q⟩
 have new:∀{k b i},i<os.length->k=σ.n+i->(α.lN σ.n a os.length).f k=some b->b=a+i:=λl q h=>by rw[q,AM.gr l]at h;exact(a8 h).symm
 refine⟨le,⟨λj o ej=>?_,λj o b ej hb=>?_,λb o eb=>⟨le.off (g.base b o eb).1 (g.base b o eb).2,same _ _ (g.base b o eb).2⟩,λi j o1 o2 b e1 e2 h1 h2=>?_,λk hk=>?_,λb e=>?_,λb e=>?_,g.os,g.bare⟩⟩
 ·rcases l5 os ej with⟨i,l,rfl,q⟩|⟨_,q⟩
  ·exact⟨a+i,AM.gr l,x le i o q⟩
  ·refine aH (g.own j o q) λb hb r=>?_
   exact⟨b,le.le _ trivial _ hb,r.mono le (same b)⟩
 ·rcases l5 os ej with⟨i,l,q,_⟩|⟨n,q⟩
  ·exact .inl ⟨i,l,new l q hb⟩
  ·exact .inr (old n hb q).2
 ·rcases l5 os e1 with⟨u,l1,q1,_⟩|⟨n1,q1⟩
  ·rcases l5 os e2 with⟨v,l2,q2,_⟩|⟨n2,q2⟩
   ·rw[q1,q2,Nat.add_left_cancel ((new l1 q1 h1).symm.trans (new l2 q2 h2))]
   ·exact(Dc (old n2 h2 q2).2 l1 (new l1 q1 h1)).elim
  ·rcases l5 os e2 with⟨v,l2,q2,_⟩|⟨n2,q2⟩
   ·exact(Dc (old n1 h1 q1).2 l2 (new l2 q2 h2)).elim
   ·exact g.inj _ _ _ _ _ q1 q2 (old n1 h1 q1).1 (old n2 h2 q2).1
 ·rw[Jl]at hk
  cases q:(α.lN σ.n a os.length).f k with
  |none=>rfl
  |some b =>
   rcases AM.sQ q with⟨u,hu,e1,_⟩|q
   ·exact absurd hk (by rw[e1];lia)
   ·rw[g.new k (ak (bj _ _) hk)]at q;cases q
 ·rcases e with⟨u,hu,q⟩|q
  ·obtain⟨ao,hao⟩:∃ao,os[u]?=some ao:=⟨os[u],aD hu⟩
   exact q▸(x le u ao hao).live
  ·obtain⟨o,ho⟩:=g.lt _ q;exact⟨o,same _ _ ho⟩
 ·obtain⟨o,ho,f⟩:=g.pW b e;exact⟨o,same _ _ ho,le.off f ho⟩
def SK(G:Gv)(f:List af->List af->Sem af)(cs ks:List CV)(σ:St)(c:CV)(σ':St):Prop:=∀α s vs ws E,GS G α σ s->dq α s.heap cs vs->dq α s.heap ks ws->ay G.M G.A (f vs ws) (W VR G α s.heap c σ') E s
def pJ(G:Gv)(C:AM->Prop)(f:List af->List af->Sem af)(cs ks:List CV)(σ:St)(c:CV)(σ':St):Prop:=∀α s vs ws E,C α->GS G α σ s->dq α s.heap cs vs->dq α s.heap ks ws->ay G.M G.A (f vs ws) (W VR G α s.heap c σ') E s
theorem SK.og{g:List af->Sem af}(h:SK G (λvs zz=>g vs) cs [] σ c σ1):bN G g cs σ c σ1:=λα s vs E gs r=>h α s vs [] E gs r rfl
theorem cZ{f: af}{pos: Pos}{args: List Expr}{env: Env}{M:fX}{A:b_}{E:af->aq->Prop}{s: aq}{Q:Args->aq->Prop}(hp:args.all p_=true)
  (h:ay M A (spliced (kj pos (fq args env))) (λvs s'=>Q ⟨vs,[]⟩ s') E s):ay M A (evalArgs f true (kj pos (fq args env)) []) Q E s:=by
 cases args with
 |nil =>
  unfold evalArgs;show ay M A (spliced [] >>= _) Q E s;refine aa (wQ h λvs s' h'=>aX ?_);exact aa (ag (aa (ag (ag h'))))
 |cons e es =>
  rw[List.all_cons,aK]at hp;rw[jP hp.1]at h ⊢;exact Calls.evalArgs_plain h
theorem plain_any{pos: Pos}{args: List Expr}:args.all p_=true->(kj pos (fq args env)).any (·.1)=false:=by
 induction args with
 |nil=>exact λzz=>rfl
 |cons e es ih =>
  intro hp;rw[List.all_cons,aK]at hp;rw[jP hp.1];exact ih hp.2
variable{x:Str}{p pos:Pos}{args:List Expr}
theorem aV.dP{id}(hf:aV G e (.Name x p) σ (.val (.builtin id)) σ1)(h:kG G e pos args σ1 cs σ2)(k:bN G (λvs=>call (.builtin id) vs) cs σ2 c σ3):aV G e (.Call (.Name x p) args [] pos) σ c σ3:=by
 intro α s env E i g;refine aa (La (hf α s env E i g) λβ s1 l1 g1=>?_);refine gB (plain_any h.1) (cZ h.1 (jb (h.2 β s1 env E (i.mono l1) g1) λγ vs s2 l2 g2 r2=>?_));exact wQ (k γ s2 vs E g2 r2) λzz zz w=>w.trans (l1.trans l2)
theorem aV.gi{id}(hf:aV G e (.Name x p) σ (.val (.type id)) σ1)(h:kG G e pos args σ1 cs σ2)(k:bN G (λvs=>call (.type id) vs) cs σ2 c σ3):aV G e (.Call (.Name x p) args [] pos) σ c σ3:=by
 intro α s env E i g;refine aa (La (hf α s env E i g) λβ s1 l1 g1=>?_);refine PyProof.Rows.callWith_type (plain_any h.1) (cZ h.1 (jb (h.2 β s1 env E (i.mono l1) g1) λγ vs s2 l2 g2 r2=>?_));exact wQ (k γ s2 vs E g2 r2) λzz zz w=>w.trans (l1.trans l2)
def f9(G:Gv)(a:Nat)(fd:cm):Prop:=∃o,G.h₀.get? a=some o/\o.data=.func fd
theorem aV.gy{a fd}(D:f9 G a fd)(hf:aV G e (.Name x p) σ (.val (.ref a)) σ1)(h:kG G e pos args σ1 cs σ2)(k:bN G (λvs=>call (.ref a) vs) cs σ2 c σ3):aV G e (.Call (.Name x p) args [] pos) σ c σ3:=by
 refine aH (D) λo ho hd=>?_;intro α s env E i g;refine aa (La (hf α s env E i g) λβ s1 l1 g1=>?_);refine i_ (o:=o) (fd:=fd) (cZ h.1 (jb (h.2 β s1 env E (i.mono l1) g1) λγ vs s2 l2 g2 r2=>?_));exact⟨⟨(g2.base _ _ ho).2,hd⟩,wQ (k γ s2 vs E g2 r2) λzz zz w=>w.trans (l1.trans l2)⟩
def SF(G:Gv)(n:Nat)(cs:List CV)(σ:St)(c:CV)(σ':St):Prop:=∀α s a vs E,GS G α σ s->α.f n=some a->dq α s.heap cs vs->ay G.M G.A (call (.ref a) vs) (W VR G α s.heap c σ') E s
theorem Ni{γ:Type}{M:fX}{A:b_}{E:af->aq->Prop}{c: Prop}[Decidable c]{x y:Sem γ}{Q:γ->aq->Prop}(h1:ay M A x Q E s)(h2:ay M A y Q E s):ay M A (if c then x else y) Q E s:=by
 by_cases h:c
 ·exact(if_pos h).symm▸h1
 ·exact(if_neg h).symm▸h2
theorem xS{M:fX}{A:b_}{E:af->aq->Prop}{s: aq}{pos: Pos}{a: Addr}{first: List af}{args: List (Bool×Sem af)}{Q:af->aq->Prop}(hs:args.any (·.1)=false)
  (h:ay M A (evalArgs (.ref a) true args []) (λx cG=>(∃o fd,cG.heap.get? a=some o/\o.data=.func fd)/\ay M A (call (.ref a) (first++x.pos) x.kw) Q E cG) E s):ay M A (callWith pos (.ref a) first args []) Q E s:=by
 unfold callWith;refine aa (aX (wQ h λx cG s7=>aa (dQ ?_)));refine c_ λj7 ef=>?_;obtain⟨⟨o,fd,ho,hd⟩,s7⟩:=s7;refine ef ?_;have tail:∀{t:Sem af},ay M A t Q E cG->ay M A (t >>= λr=>iY [r] point >>= λzz=>pure r) Q E cG:=
  λht=>aa (wQ ht λr lG hr=>aa (aX (wpAny_point (ag hr))))
 rw[hs];refine aa (m:=keeperOf (.ref a)) ?_;unfold keeperOf;refine aa (wpAny_load ho ?_);rw[hd];exact ag (Ni (tail s7) (tail (Calls.wpAny_keep s7)))
theorem aV.L9{n fa}(hf:aV G e (.Name x p) σ (.ref n) σ1)(h:kG G e pos args σ1 cs σ2)(hn:σ2.get n=some (.fn fa))(k:SF G n cs σ2 c σ3):aV G e (.Call (.Name x p) args [] pos) σ c σ3:=by
 intro α s env E i g;refine aa (Lc (hf α s env E i g) λβ a s1 l1 g1 ha=>?_);refine xS (plain_any h.1) (cZ h.1 (jb (h.2 β s1 env E (i.mono l1) g1) λγ vs s2 l2 g2 r2=>?_));have ha:=l2.le _ trivial _ ha;refine⟨?_,wQ (k γ s2 a vs E g2 ha r2) λzz zz w=>w.trans (l1.trans l2)⟩;refine c_ λj7 ef=>?_;obtain⟨b,hb,o,cl,pm,cv,vg,ho,hd,_⟩:=g2.own _ _ hn;cases hb.symm.trans ha;refine ef ?_;exact qw o _ ⟨ho,hd⟩
def m6(G:Gv)(e:Env)(pos:Pos)(tQ:List Keyword)(names:List Str)(σ:St)(ks:List CV)(σ':St):Prop:=
 (∀env,(backToKw pos (keywordEach tQ env)).all (·.1.isSome)=true/\(backToKw pos (keywordEach tQ env)).filterMap (·.1)=names) /\
 ∀α s env E,EI α e env->GS G α σ s->ay G.M G.A (evalAll ((backToKw pos (keywordEach tQ env)).map (·.2))) (W dq G α s.heap ks σ') E s
theorem m6.nil:m6 G e pos [] [] σ [] σ:=⟨λzz=>⟨rfl,rfl⟩,λzz zz zz zz zz g=>wpAny_evalAll_nil (g.here rfl)⟩
theorem m6.cons{n y q tQ names}(h:aV G e y σ c σ1)(k:m6 G e pos tQ names σ1 ks σ2):m6 G e pos (⟨some n,y,q⟩::tQ) (n::names) σ (c::ks) σ2:=by
 refine⟨λenv=>⟨(k.1 env).1,congrArg (n::·) (k.1 env).2⟩,λα s env E i g=>?_⟩;refine wpAny_evalAll_cons (x:=do let v ←eval y env;fR pos;pure v) (aa (jb (h α s env E i g) λβ v s1 x g1 r1=>?_));refine aa (dQ (ag ?_));refine jb (k.2 β s1 env E (i.mono x) g1) λγ vs s2 y g2 r2=>?_;exact⟨γ,x.trans y,g2,v,vs,rfl,r1.mono y,r2⟩
theorem uZ{f: af}{pos: Pos}{args: List Expr}{env: Env}{tQ: List (Option Str×Sem af)}{M:fX}{A:b_}{E:af->aq->Prop}{s: aq}{Q:Args->aq->Prop}(hp:args.all p_=true)
  (hk:tQ.all (·.1.isSome)=true)
  (h:ay M A (spliced (kj pos (fq args env))) (λvs s'=>ay M A (evalAll (tQ.map (·.2))) (λks BR=>Q ⟨vs,(tQ.filterMap (·.1)).zip ks⟩ BR) E s') E s):
  ay M A (evalArgs f true (kj pos (fq args env)) tQ) Q E s:=by
 have fin:∀vs s',ay M A (evalAll (tQ.map (·.2))) (λks BR=>Q ⟨vs,(tQ.filterMap (·.1)).zip ks⟩ BR) E s' ->
   ay M A (if(tQ.all λx=>x.fst.isSome)=true then(do
     let l ←evalAll (List.map (λx=>x.snd) tQ)
     let kw:List (Str×af):=(List.filterMap (λx=>x.fst) tQ).zip l
     let r ←(pure vs:Sem (List af))
     pure {pos:=r,kw:=kw})else(do
     let d ←mergedKeywords f tQ
     let pos ←(pure vs:Sem (List af))
     let r ←iY (bZ d::pos) (keywordsIn f d)
     pure {pos:=pos,kw:=r})) Q E s':=by
  intro vs s' h';rw[if_pos hk];exact aa (wQ h' λks BR Qq=>aa (ag (ag Qq)))
 cases args with
 |nil =>
  unfold evalArgs;show ay M A (spliced [] >>= _) Q E s;refine aa (wQ h λvs s' h'=>?_);exact aa (ag (aX (fin vs s' h')))
 |cons e es =>
  rw[List.all_cons,aK]at hp;rw[jP hp.1]at h ⊢;unfold evalArgs;show ay M A (spliced ((false,eval e env)::kj pos (fq es env)) >>= _) Q E s;refine aa (wQ h λvs s' h'=>?_);exact aa (ag (aX (fin vs s' h')))
theorem aV.qq{a fd tQ names}(D:f9 G a fd)(hf:aV G e (.Name x p) σ (.val (.ref a)) σ1)(h:kG G e pos args σ1 cs σ2)(hk:m6 G e pos tQ names σ2 ks σ3)(k:SK G (λvs ws=>call (.ref a) vs (names.zip ws)) cs ks σ3 c pL):
  aV G e (.Call (.Name x p) args tQ pos) σ c pL:=by
 refine aH (D) λo ho hd=>?_;intro α s env E i g;refine wpAny_Call_Name_kw (La (hf α s env E i g) λβ s1 l1 g1=>?_);refine callWith_function_kw (o:=o) (fd:=fd) (uZ h.1 (hk.1 env).1 (jb (h.2 β s1 env E (i.mono l1) g1) λγ vs s2 l2 g2 r2=>?_));refine jb (hk.2 γ s2 env E ((i.mono l1).mono l2) g2) λδ ws s3 l3 g3 r3=>?_;rw[(hk.1 env).2];exact⟨⟨(g3.base _ _ ho).2,hd⟩,wQ (k δ s3 vs ws E g3 (r2.mono l3) r3) λzz zz w=>w.trans ((l1.trans l2).trans l3)⟩
noncomputable def deep(G:Gv)(env:Env):Gv:={G with A:=G.A.deeper env}
theorem GS.deep{α s}(g:GS G α σ s)(env:Env):GS (Mine.deep G env) α σ s:=by
 refine⟨λk ao h=>?_,g.ow,g.base,g.inj,g.new,g.lt,g.pW,g.os,g.bare⟩;refine aH (g.own k ao h) λa ha r=>?_;refine⟨a,ha,?_⟩;cases ao<;>exact r
theorem GS.uj{α s env}(g:GS (Mine.deep G env) α σ s):GS G α σ s:=by
 refine⟨λk ao h=>?_,g.ow,g.base,g.inj,g.new,g.lt,g.pW,g.os,g.bare⟩;refine aH (g.own k ao h) λa ha r=>?_;refine⟨a,ha,?_⟩;cases ao<;>exact r
end
section
variable{G:Gv}{m:Nat}{e:Env}{σ σ1 σ2 σ3 pL:St}{a b c d:CV}{f:CF}{cs ks:List CV}{x:Str}
theorem HU(ko:Str->Option NameKind)(y:Str):∀(bs:List (Str×af)) (m:Str->Option af),ko y=some .local->bindL ko bs m y=(bs.reverse.lookup y).or (m y):=by
 intro bs
 induction bs with
 |nil=>intro m h;rfl
 |cons p bs ih =>
  obtain⟨n,v⟩:=p;intro m h;unfold bindL;rw[ih _ h,gU,List.lookup_append];cases q:bs.reverse.lookup y with
  |some w=>rfl
  |none =>
   rw[Option.none_or,Option.none_or];by_cases hn:ko n=some .local
   ·rw[if_pos hn]
    show(if y=n then some v else m y)=_;rw[aR];by_cases e:y=n
    ·rw[if_pos e,beq_iff_eq.mpr e];rfl
    ·rw[if_neg e,beq_eq_false_iff_ne.mpr e];rfl
   ·have e:y≠n:=λe=>hn (e▸h)
    rw[if_neg hn,aR,beq_eq_false_iff_ne.mpr e];rfl
theorem HV(ko:Str->Option NameKind)(y:Str):∀(bs:List (Str×af)) (m:Str->Option af),ko y≠some .local->bindC ko bs m y=(bs.reverse.lookup y).or (m y):=by
 intro bs
 induction bs with
 |nil=>intro m h;rfl
 |cons p bs ih =>
  obtain⟨n,v⟩:=p;intro m h;unfold bindC;rw[ih _ h,gU,List.lookup_append];cases q:bs.reverse.lookup y with
  |some w=>rfl
  |none =>
   rw[Option.none_or,Option.none_or];by_cases hn:ko n=some .local
   ·have e:y≠n:=λe=>h (e▸hn)
    rw[if_pos hn,aR,beq_eq_false_iff_ne.mpr e];rfl
   ·rw[if_neg hn]
    show(if y=n then some v else m y)=_;rw[aR];by_cases e:y=n
    ·rw[if_pos e,beq_iff_eq.mpr e];rfl
    ·rw[if_neg e,beq_eq_false_iff_ne.mpr e];rfl
theorem dq.lookup{α h x}:∀{rb:List (Str×CV)}{rv:List (Str×af)},rv.map (·.1)=rb.map (·.1)->dq α h (rb.map (·.2)) (rv.map (·.2))->(rb.lookup x=none->rv.lookup x=none)/\∀c,rb.lookup x=some c->∃v,rv.lookup x=some v/\VR α h c v:=by
 intro rb
 induction rb with
 |nil =>
  intro rv e _;rw[List.map_eq_nil_iff.mp e];exact⟨λzz=>rfl,λc h=>nomatch h⟩
 |cons p rb ih =>
  obtain⟨n,c⟩:=p;intro rv e r;cases rv with
  |nil=>cases e
  |cons q rv =>
   obtain⟨n',v⟩:=q;rw[ba,ba]at e;refine gM (List.cons.inj e) λe1 e2=>?_;cases e1;refine fu (r) λw ws e3 r1 r2=>?_;cases e3;rw[aR,aR];cases x==n with
   |true =>
    refine⟨λh=>(nomatch h),λd h=>⟨v,rfl,?_⟩⟩;cases h;exact r1
   |false=>exact ih e2 r2
theorem ou{f:Str->Bool}:∀{l:List (Str×CV)},(l.filter λp=>f p.1).lookup x=some c->f x=true/\l.lookup x=some c:=by
 intro l
 induction l with
 |nil=>exact λh=>nomatch h
 |cons p l ih =>
  obtain⟨y,d⟩:=p;intro h;cases q:f y with
  |true =>
   rw[mV (p:=λp:Str×CV=>f p.1) (a:=(y,d)) q,aR]at h;rw[aR];cases z:x==y with
   |true=>rw[z]at h;exact⟨beq_iff_eq.mp z▸q,h⟩
   |false=>rw[z]at h;exact ih h
  |false =>
   rw[mW (p:=λp:Str×CV=>f p.1) (a:=(y,d)) (by rw[q];exact aJ)]at h;refine gM (ih h) λh1 h2=>?_;rw[aR,beq_eq_false_iff_ne.mpr (λe=>by rw[e,q]at h1;cases h1)];exact⟨h1,h2⟩
noncomputable def tE:CF->CV | .ret c=>c|_=>.none
noncomputable def entryE(fd:cm)(cl:List (Str×Nat))(n a:Nat):Env:=newEnv fd.scope n fd.globals (cl.map λp=>(p.1,n+1+p.2)) (fd.qualname++".<locals>.") (some a) fd.code none fd.builtins
noncomputable def u'(fd:cm)(cl:List (Str×Nat))(rb:List (Str×CV))(σ:St):St:=
 σ.oh (.frame (rb.filter λp=>fd.scope.names.lookup p.1==some .local)::cl.reverse.map λp=>.cell (rb.lookup p.1))
structure iW(fd:cm)(body:List Stmt)(cl:List (Str×Nat)):Prop where
 body:fd.body=.stmts body
 clo:fd.closure=[]
 cells:∀L,cellsFrom (L+1) fd.scope.names []=cl.map λp=>(p.1,L+1+p.2)
 ord:cl.reverse.map (·.2)=az cl.length
 one:(cl.all λp=>cl.lookup p.1==some p.2&&fd.scope.names.lookup p.1==some .cell)=true
 co:fd.scope.isCoroutine=false
 gen:fd.scope.isGenerator=false
 kind:fd.scope.kind=.function
theorem rX{g:Nat->Nat}:∀{l:List (Str×Nat)},(l.map λp=>(p.1,g p.2)).lookup x=(l.lookup x).map g:=by
 intro l
 induction l with
 |nil=>rfl
 |cons p l ih =>
  rw[ba,aR,aR,ih];cases x==p.1<;>rfl
theorem jm.entry{α: AM}{n L k: Nat}:∀{cl:List (Str×Nat)},(∀p∈cl,p.2<k)->jm (α.lN n L (k+1)) (cl.map λp=>(p.1,n+1+p.2)) (cl.map λp=>(p.1,L+1+p.2)):=by
 intro cl
 induction cl with
 |nil=>exact λzz=>rfl
 |cons p cl ih =>
  intro h;refine qw (L+1+p.2) _ ⟨rfl,?_,ih λq hq=>h q (.tail _ hq)⟩;have:=AM.gr (α:=α) (n:=n) (a:=L) (i:=1+p.2) (c:=k+1) (by have:=h p (.head _);lia)
  rwa [←kz,←kz]at this
theorem qm{prog:dW}{w:dj}{A:b_}{s: aq}{R:Result->aq->Prop}{a: Addr}{o: Obj}{fd: cm}{body: List Stmt}{cl: List (Str×Nat)}{args:Args}{dh: List (Str×af)}
  (ph:A.depth<b9) (ho:s.heap.get? a=some o) (VL:o.data=.func fd) (kS:s.heap.NoLimit) (uS:s.heap.CodeRec fd.code fd.qualname) (K:iW fd body cl) (j3:bW s fd args dh)
  (tV:∀x∈dh,fd.scope.names.lookup x.1=some .local∨(fd.scope.names.lookup x.1=some .cell/\(cl.lookup x.1).isSome=true))
  (h:∀cG,InCallC s s.heap.objs.size (bindL (fd.scope.names.lookup ·) dh λzz=>none) (cl.map λp=>(p.1,s.heap.objs.size+1+p.2)) (bindC (fd.scope.names.lookup ·) dh λzz=>none) cG ->
   ∀E,ay (aZ prog w) (A.deeper (callEnvC fd s.heap.objs.size a)) (jr body (callEnvC fd s.heap.objs.size a)) (λf s'=>R (.ok (.ret (match f with | .ret v=>v|_=>.none))) s') E cG):
  codeAny (aZ prog w) A (.call (.ref a) args) R s:=by
 refine codeAny_call_function ph ho VL K.co K.gen K.body uS ?_;rw[K.clo];refine j3 _ _ _ _ (wpAny_newFunctionEnv_cells K.kind (λx hx=>(tV x hx).imp id λq=>⟨q.1,?_⟩) λenv he s' x=>?_)
 ·rw[K.cells,rX,Option.isSome_map];exact q.2
 ·subst he
  have hC:(callEnvC fd s.heap.objs.size a).cells=cl.map λp=>(p.1,s.heap.objs.size+1+p.2):=K.cells _;rw[show(newEnv fd.scope s.heap.objs.size fd.globals (cellsFrom (s.heap.objs.size+1) fd.scope.names []) (fd.qualname++".<locals>.") (some a) fd.code none fd.builtins)=callEnvC fd s.heap.objs.size a from rfl,hC]at x;exact⟨kS.keeps x.toInCall.keep,codeAny_func (h s' x _)⟩
theorem pJ.entry{C:AM->Prop}{C2:Env->AM->Prop}{a: Nat}{fd body cl rb}{names: List Str}(room:G.A.depth<b9)(D:f9 G a fd)(kS:G.h₀.NoLimit)(uS:G.h₀.CodeRec fd.code fd.qualname)(K:iW fd body cl)
  (j3:∀α s vs ws,GS G α σ s->dq α s.heap cs vs->dq α s.heap ks ws->∃dh,bW s fd ⟨vs,names.zip ws⟩ dh/\dh.reverse.map (·.1)=rb.map (·.1)/\dq α s.heap (rb.map (·.2)) (dh.reverse.map (·.2)))
  (hk:(rb.all λp=>fd.scope.names.lookup p.1==some .local || (fd.scope.names.lookup p.1==some .cell&&(cl.lookup p.1).isSome))=true) (hm:σ.n<=m)
  (hC:∀α β L,C α->(∀k a,α.f k=some a->β.f k=some a)->β.f σ.n=some L->C2 (callEnvC fd L a) β)
  (h:∀env α s E,EI α (entryE fd cl σ.n a) env->GS (deep G env) α (u' fd cl rb σ) s->C2 env α->ay (deep G env).M (deep G env).A (jr body env) (WM m (deep G env) α s.heap f σ2) E s):pJ G C (λvs ws=>call (.ref a) vs (names.zip ws)) cs ks σ (tE f) σ2:=by
 refine aH (D) λo ho hd=>?_;intro α s vs ws E Kc g rs rk;refine kK (j3 α s vs ws g rs rk) λdh hb he hv=>?_;have kp:=λb o eb=>(g.base b o eb).2;refine iH (qm room (kp _ _ ho) hd (kS.keeps kp) (uS.keeps kp) K hb (λx hx=>?_) λs1 x E'=>?_)
 ·have:x.1∈rb.map (·.1):=he▸List.mem_map.mpr ⟨x,List.mem_reverse.mpr hx,rfl⟩
  refine aH (List.mem_map.mp this) λy hy e=>?_;have:=List.all_eq_true.mp hk y hy;rw[Bool.or_eq_true,aK,beq_iff_eq,beq_iff_eq]at this;rw[←e];exact this
 ·refine kJ (x.done) λh' tk MR Vu=>?_
  obtain rfl:=MR;have look:=λy=>dq.lookup (x:=y) he hv;have Ua:cl.reverse.length=cl.length:=iE;have at_:∀i p,cl.reverse[i]?=some p->p.2=i/\p∈cl:=λi p hp=>by
   have hi:=(List.getElem?_eq_some_iff.mp hp).1;have e2:(cl.reverse.map (·.2))[i]?=some p.2:=by rw[br,hp];rfl
   rw[K.ord,gh (by rw[←Ua];exact hi)]at e2;exact⟨(a8 e2).symm,List.mem_reverse.mp (List.mem_of_getElem? hp)⟩
  have WY:∀p∈cl,h'.IsCell (s.heap.objs.size+1+p.2) (dh.reverse.lookup p.1):=λp hp=>by
   have q:=List.all_eq_true.mp K.one p hp;rw[aK,beq_iff_eq,beq_iff_eq]at q;have c:=x.cell p.1 (s.heap.objs.size+1+p.2) (by rw[rX,q.1];rfl);rw[HV _ _ _ _ (by rw[q.2];exact λh=>nomatch h),Option.or_none]at c;exact c
  have len:(AO.frame (rb.filter λp=>fd.scope.names.lookup p.1==some .local)::cl.reverse.map λp=>AO.cell (rb.lookup p.1)).length=cl.length+1:=by
   rw[cq,aj,Ua]
  have t:=g.AJ (h':=h') (a:=s.heap.objs.size) (os:=.frame (rb.filter λp=>fd.scope.names.lookup p.1==some .local)::cl.reverse.map λp=>.cell (rb.lookup p.1)) Vu (λi hi=>?_) (λle i ao hi=>?_) tk
  ·rw[len]at t
   have le:=t.1;have hn:∀p∈cl,p.2<cl.length:=λp hp=>by
    have:p.2∈cl.reverse.map (·.2):=List.mem_map.mpr ⟨p,List.mem_reverse.mpr hp,rfl⟩;rw[K.ord]at this;exact List.mem_range.mp this
   have ei:EI (α.lN σ.n s.heap.objs.size (cl.length+1)) (entryE fd cl σ.n a) (callEnvC fd s.heap.objs.size a):=
    ⟨AM.gr (i:=0) (Nat.succ_pos _),by
     show z6 _ (cl.map _) (callEnvC fd s.heap.objs.size a).cells;rw[show(callEnvC fd s.heap.objs.size a).cells=cl.map λp=>(p.1,s.heap.objs.size+1+p.2)from K.cells _];exact(jm.entry hn).og,rfl,rfl,rfl,rfl,rfl⟩
   refine wqM (h (callEnvC fd s.heap.objs.size a) _ _ E' ei (t.2.deep _) (hC α _ _ Kc (λk b e=>le.le k trivial b e) ei.loc)) λβ v s2 x2 g2 r2=>?_;have yi:Le α s.heap β s2.heap:=qt.trans' le x2 λk b zz e=>x2.le k (aA (by
     cases iB k σ.n with
     |inl q=>exact q
     |inr q=>rw[g.new k q]at e;cases e) hm) b (le.le k trivial b e)
   have g3:GS G β σ2 s2:=g2.uj;cases f with
   |next=>obtain rfl:=r2;exact⟨β,yi,g3,rfl⟩
   |brk=>obtain rfl:=r2;exact⟨β,yi,g3,rfl⟩
   |cont=>obtain rfl:=r2;exact⟨β,yi,g3,rfl⟩
   |ret c=>obtain⟨v,rfl,r⟩:=r2;exact⟨β,yi,g3,r⟩
  ·cases e:s.heap.get? (s.heap.objs.size+i)with
   |none=>rfl
   |some o=>exact absurd (bJ e) (Nat.not_lt.mpr (bj _ _))
  ·cases i with
   |zero =>
    cases hi;refine⟨_,x.toInCall.ns,λy c hy=>?_⟩;refine gM (ou (f:=λy=>fd.scope.names.lookup y==some .local) hy) λh1 h2=>?_;refine aH ((look y).2 c h2) λv Qb r=>?_;rw[HU _ _ _ _ (beq_iff_eq.mp h1),Qb];exact⟨v,rfl,r.mono le⟩
   |succ i =>
    rw[List.getElem?_cons_succ,br]at hi;cases hp:cl.reverse[i]? with
    |none=>rw[hp]at hi;cases hi
    |some p =>
     rw[hp]at hi;cases hi;refine gM (at_ i p hp) λq1 q2=>?_;have:=WY p q2;rw[q1,kz,Nat.add_comm 1 i]at this;exact⟨_,this,(look p.1).1,λd hd=>by obtain⟨v,h1,r⟩:=(look p.1).2 d hd;exact⟨v,h1,r.mono le⟩⟩
theorem SK.entry{a: Nat}{fd body cl rb}{names: List Str}(room:G.A.depth<b9)(D:f9 G a fd)(kS:G.h₀.NoLimit)(uS:G.h₀.CodeRec fd.code fd.qualname)(K:iW fd body cl)
  (j3:∀α s vs ws,GS G α σ s->dq α s.heap cs vs->dq α s.heap ks ws->∃dh,bW s fd ⟨vs,names.zip ws⟩ dh/\dh.reverse.map (·.1)=rb.map (·.1)/\dq α s.heap (rb.map (·.2)) (dh.reverse.map (·.2)))
  (hk:(rb.all λp=>fd.scope.names.lookup p.1==some .local || (fd.scope.names.lookup p.1==some .cell&&(cl.lookup p.1).isSome))=true) (hm:σ.n<=m)
  (h:∀env,eA (deep G env) m (entryE fd cl σ.n a) body (u' fd cl rb σ) f σ2):SK G (λvs ws=>call (.ref a) vs (names.zip ws)) cs ks σ (tE f) σ2:=λα s vs ws E =>
 pJ.entry (C:=λzz=>True) (C2:=λzz zz=>True) room D kS uS K j3 hk hm (λzz zz zz zz zz zz=>trivial) (λenv α s E i g zz=>h env α s env E i g) α s vs ws E trivial
end
section
variable{G:Gv}{m:Nat}{e:Env}{σ σ1 σ2 σ3 pL:St}{a b c d:CV}{f:CF}{cs ks:List CV}{slice:Expr}{i:Int}
inductive LAt(α:AM)(h:Heap)(k:Nat)(xs:List CV)(v:af):Prop
 |mk (a:Nat) (vs:List af) (n:Nat) (ev:v=.ref a) (ha:α.f k=some a) (eh:h.get? a=some (kE vs n)) (q:dq α h xs vs) (sz:vs.toArray.size=xs.length):LAt α h k xs v
theorem GS.getL{α s k xs}(g:GS G α σ s)(e:σ.get k=some (.list xs)){v: af}(r:VR α s.heap (.ref k) v):LAt α s.heap k xs v:=by
 refine aH (r) λa ev ha=>?_;refine c_ λj7 ef=>?_;obtain⟨b,hb,vs,n,eq,q⟩:=g.own _ _ e;cases hb.symm.trans ha;refine ef ?_;exact⟨a,vs,n,ev,ha,eq,q,q.length⟩
variable{F:List af->Sem af}{F2:af->af->Sem af}
theorem RD{k xs}(e:σ.get k=some (.list xs))(h:∀α s a vs n E,GS G α σ s->α.f k=some a->s.heap.get? a=some (kE vs n)->dq α s.heap xs vs->vs.toArray.size=xs.length->ay G.M G.A (F [.ref a]) (W VR G α s.heap c σ1) E s):
  bN G F [.ref k] σ c σ1:=by
 intro α s _ E g rz;refine fu (rz) λv zz lX r m8=>?_;obtain rfl:=lX;obtain rfl:=m8;obtain⟨a,vs,n,rfl,ha,eh,q,sz⟩:=g.getL e r;exact h α s a vs n E g ha eh q sz
theorem Oz{k xs}(e:σ.get k=some (.list xs))(h:∀α s a vs n E w,GS G α σ s->α.f k=some a->s.heap.get? a=some (kE vs n)->dq α s.heap xs vs->vs.toArray.size=xs.length->VR α s.heap b w->ay G.M G.A (F [.ref a,w]) (W VR G α s.heap c σ1) E s):
  bN G F [.ref k,b] σ c σ1:=by
 rintro α s _ E g ⟨v,_,rfl,r,w,_,rfl,r2,rfl⟩;obtain⟨a,vs,n,rfl,ha,eh,q,sz⟩:=g.getL e r;exact h α s a vs n E w g ha eh q sz r2
theorem Zl{k xs}(e:σ.get k=some (.list xs))(h:∀α s a vs n E w u,GS G α σ s->α.f k=some a->s.heap.get? a=some (kE vs n)->dq α s.heap xs vs->vs.toArray.size=xs.length->VR α s.heap b w->VR α s.heap d u->ay G.M G.A (F [.ref a,w,u]) (W VR G α s.heap c σ1) E s):
  bN G F [.ref k,b,d] σ c σ1:=by
 rintro α s _ E g ⟨v,_,rfl,r,w,_,rfl,r2,u,_,rfl,r3,rfl⟩;obtain⟨a,vs,n,rfl,ha,eh,q,sz⟩:=g.getL e r;exact h α s a vs n E w u g ha eh q sz r2 r3
theorem XH{k xs}(e:σ.get k=some (.list xs))(h:∀α s a vs n E w,GS G α σ s->α.f k=some a->s.heap.get? a=some (kE vs n)->dq α s.heap xs vs->vs.toArray.size=xs.length->VR α s.heap b w->ay G.M G.A (F2 (.ref a) w) (W VR G α s.heap c σ1) E s):
  bH G F2 (.ref k) b σ c σ1:=by
 intro α s v w E g r r2;obtain⟨a,vs,n,rfl,ha,eh,q,sz⟩:=g.getL e r;exact h α s a vs n E w g ha eh q sz r2
theorem w'(vs ws:List af)(n:Nat)(f:Array af->Array af)(hf:f vs.toArray=ws.toArray):∃k,cA f (kE vs n)=kE ws k:=by
 unfold cA;exact⟨_,by simp only[kE,hf];rfl⟩
theorem GS.uy{α s k a n xs ys vs ws}{f:Array af->Array af}(g:GS G α σ s)(e:σ.get k=some (.list xs))(ha:α.f k=some a)(eh:s.heap.get? a=some (kE vs n))(hf:f vs.toArray=ws.toArray)(r:dq α s.heap ys ws)(tk:Nat):
  Le α s.heap α (s.heap.update a (cA f))/\GS G α (σ.set k (.list ys)) {s with heap:=s.heap.update a (cA f),toks:=tk}:=by
 refine dX (w' vs ws n f hf) λj hj=>?_;have sb:=fI s.heap a (cA f);exact g.turn (ao':=.list ys) e ha (λb o hb eo=>(sb.2 b hb).trans eo) (λle=>⟨ws,j,(fF _ eh (by rw[hj];rfl)).trans (by rw[hj]),r.mono le⟩) tk
theorem rD{value slice: Expr}{T0:String}(ht:∀α s v,GS G α σ s->VR α s.heap a v->s.TypeIs v T0)(hl:∃id,jG (.type T0) "__getitem__"=pure (some (.builtin id)))
  (hs:∀a b,iI slice false a b=operate [a,b] (iq a b)) (h:bH G iq a b σ c σ1):bH G (jq value slice) a b σ c σ1:=by
 intro α s v w E g r1 r2;obtain⟨id,hl⟩:=hl;exact tail_any (ht α s v g r1) hl (h α s v w E g r1 r2) (hs _ _)
theorem aV.sub{value slice pos}(h1:aV G e value σ a σ1)(h2:aV G e slice σ1 b σ2)(h3:bH G (jq value slice) a b σ2 c σ3):aV G e (.Subscript value slice pos) σ c σ3:=
 λα s env E i g=>PyProof.Rows.Subscript_ (two h1 h2 h3 i g)
theorem pj{k xs}(e:σ.get k=some (.list xs))(h0:0<=i)(hx:xs[i.toNat]?=some c)(hf:xs.length<2^62):bH G iq (.ref k) (.int i) σ c σ:=by
 refine XH e λα s a vs n E w g ha eh q sz r2=>?_;obtain⟨t,rfl⟩:=r2;refine aH (q.get hx) λw hw Y_=>?_;have hk:i.toNat<xs.length:=(List.getElem?_eq_some_iff.mp hx).1;exact wpAny_getItem_list (items:=vs.toArray) ⟨_,eh,rfl,_,rfl⟩ h0 (by lia) (by rw[cH];exact hw) (g.here Y_)
theorem Cn{k xs}(e:σ.get k=some (.list xs))(α s v)(g:GS G α σ s)(r:VR α s.heap (.ref k) v):s.TypeIs v "list":=by
 obtain⟨a,vs,n,rfl,_,eh,_⟩:=g.getL e r;exact⟨_,eh,rfl⟩
theorem ix{value: Expr}{k xs}(e:σ.get k=some (.list xs))(h0:0<=i)(hx:xs[i.toNat]?=some c)(hf:xs.length<2^62)(hs:∀a b,iI slice false a b=operate [a,b] (iq a b):=by intro _ _;with_unfolding_all rfl):
  bH G (jq value slice) (.ref k) (.int i) σ c σ:=rD (Cn e) ⟨_,PySem.slot_list_getitem.lookup⟩ hs (pj e h0 hx hf)
theorem qf{k xs}(e:σ.get k=some (.list xs))(hf:xs.length<2^62):bN G (λvs=>call (.builtin "len") vs) [.ref k] σ (.int xs.length) σ:=
 RD e λα s a vs n E g ha eh q sz=>len_list (items:=vs.toArray) ⟨_,eh,rfl,_,rfl⟩ (by rw[sz];lia) (g.gx ⟨_,by rw[sz]⟩)
theorem list_append{k xs}(e:σ.get k=some (.list xs))(hf:xs.length<=bC):bN G (λvs=>call (.builtin "list.append") vs) [.ref k,c] σ .none (σ.set k (.list (xs++[c]))):=by
 refine Oz e λα s a vs n E w g ha eh q sz r2=>?_;refine gT fQ ⟨_,eh,rfl⟩ PySem.F.entry_list_append (PySem.F.args_list_append_2 _ _) (PySem.AutoListH.list_append_list_val_0 a vs.toArray n w (by rw[sz];exact hf)) ⟨eh,?_⟩;have t:=g.uy (ws:=vs++[w]) (f:=λx=>x.push w) e ha eh (jB ..) (q.append (.one r2)) s.toks;exact⟨α,t.1,t.2,rfl⟩
noncomputable def GR(xs:List CV)(k:Int)(c:CV):List CV:=xs.take k.toNat++c::xs.drop k.toNat
theorem zq(vs:List af)(v:af)(k:Int)(h0:0<=k)(h1:k<=vs.length):
  (have j:=if k<0 then(k+((vs.toArray.size:Nat):Int)).toNat else min k.toNat vs.toArray.size;(vs.toArray.extract 0 j).push v++vs.toArray.extract j)=(vs.take k.toNat++v::vs.drop k.toNat).toArray:=by
 have:min k.toNat vs.length=k.toNat:=by lia
 have hk:¬k<0:=by lia
 simp only[hk,if_false,dJ,this,List.extract_toArray,jB,kZ,List.extract_eq_take_drop,List.drop_zero,Nat.sub_zero];rw[a7,gC (l:=vs.drop _) (by rw[j8];exact aG _)];rfl
theorem xf{n xs}{k: Int}(e:σ.get n=some (.list xs))(h0:0<=k)(h1:k<=xs.length)(hf:xs.length<=bC)(n5:cK k=true):bN G (λvs=>call (.builtin "list.insert") vs) [.ref n,.int k,c] σ .none (σ.set n (.list (GR xs k c))):=by
 refine Zl e λα s a vs n E i w g ha eh q sz r2 r3=>?_;obtain⟨t,rfl⟩:=r2;refine gT fP ⟨_,eh,rfl⟩ PySem.F.entry_list_insert (PySem.F.args_list_insert_3 _ _ _) (PySem.AutoSeq1.list_insert_list_int_val_1 a vs.toArray n k _ w (by rw[n5];decide) (by rw[sz];exact hf)) ⟨eh,?_⟩;have t:=g.uy (f:=λxs=>have j:=if k<0 then(k+((xs.size:Nat):Int)).toNat else min k.toNat xs.size;(xs.extract 0 j).push w++xs.extract j) e ha eh (zq vs w k h0 (by rw[q.length];exact h1)) ((q.take _).append (cs:=xs.take k.toNat) (ds:=c::xs.drop k.toNat) ⟨w,_,rfl,r3,q.drop _⟩) s.toks;exact⟨α,t.1,t.2,rfl⟩
theorem aV.qR{o: Expr}{name: Str}{kF pos: Pos}{args: List Expr}{id:String}{Tn:String}{pl:Env->Sem Bool}(slot:Slot Tn name id)(pa:PlainAttrs Tn)(hty:typeOf (.builtin id)=pure (.type "method_descriptor"))
  (h1:aV G e o σ a σ1) (ht:∀α s v,GS G α σ1 s->VR α s.heap a v->s.TypeIs v Tn/\∀a,v=.ref a->∃o,s.heap.get? a=some o/\o.dict=bB) (h2:kG G e pos args σ1 cs σ2) (h3:bN G (λvs=>call (.builtin id) vs) (a::cs) σ2 c σ3)
  (he:∀env,eval (.Call (.Attribute o name kF) args [] pos) env=(do
   let ov ←eval o env
   fR kF.atName
   let(f,first) ←iY [ov] (iZ ov name (pl env))
   callWith pos f first (kj pos (fq args env)) []):=by intro _;rfl):aV G e (.Call (.Attribute o name kF) args [] pos) σ c σ3:=by
 intro α s env E i g;refine kI (pl:=pl env) (jb (h1 α s env E i g) λβ v s1 l1 g1 r1=>?_) (he env);have tt:=ht β s1 v g1 r1;refine getMethod_builtin tt.1 pa slot hty tt.2 ?_;refine gB (plain_any h2.1) (cZ h2.1 (jb (h2.2 β s1 env E (i.mono l1) g1) λγ vs s2 l2 g2 r2=>?_));exact wQ (h3 γ s2 (v::vs) E g2 ⟨v,vs,rfl,r1.mono l2,r2⟩) λzz zz w=>w.trans (l1.trans l2)
theorem gR{k xs}(e:σ.get k=some (.list xs))(α s v)(g:GS G α σ s)(r:VR α s.heap (.ref k) v):s.TypeIs v "list"/\∀b,v=.ref b->∃o,s.heap.get? b=some o/\o.dict=none:=by
 obtain⟨a,vs,n,rfl,_,eh,_⟩:=g.getL e r;exact⟨⟨_,eh,rfl⟩,λb hb=>by cases hb;exact⟨_,eh,rfl⟩⟩
theorem mr{x: Str}(α s v)(g:GS G α σ s)(r:VR α s.heap (.str x) v):s.TypeIs v "str"/\∀b,v=.ref b->∃o,s.heap.get? b=some o/\o.dict=none:=by
 obtain⟨t,rfl⟩:=r;exact⟨gN _ _ _,λb hb=>nomatch hb⟩
theorem add_lists{j k xs ys}(e1:σ.get j=some (.list xs))(e2:σ.get k=some (.list ys))(hf:xs.length+ys.length<=bC):bH G (ft .Add) (.ref j) (.ref k) σ (.ref σ.n) (σ.push (.list (xs++ys))):=by
 refine XH e1 λα s a vs n E w g ha eh q sz r2=>?_;obtain⟨b,ws,n',rfl,_,Im,q',NI⟩:=g.getL e2 r2;refine concat_meets ⟨_,eh,rfl⟩ ⟨_,Im,rfl⟩ noFill_list_add seq_list_add PySem.F.slot_list_add PySem.F.entry_list_add (PySem.F.args_list_add_2 _ _) (PySem.AutoSeq1.list___add___list_list_0 a vs.toArray n b ws.toArray n' (by rw[sz,NI];exact hf)) ⟨eh,Im,?_⟩;rw[kZ];exact g.list (q.append q') _
theorem rQ{k}{ns: List Int}(e:σ.get k=some (.list (ns.map .int))):bH G (bO .In) (.int i) (.ref k) σ (.bool (ns.any (·==i))) σ:=by
 intro α s _ v E g vS r;refine dX (vS) λt ja=>?_;obtain rfl:=ja;obtain⟨a,vs,n,rfl,_,eh,q,sz⟩:=g.getL e r;exact in_list_ints (vs:=vs) ⟨_,eh,rfl,_,rfl⟩ q.ints (g.here rfl)
theorem yT{b: Bool}{n: Nat}(h:n<=bC):¬(b&&Builtin.List.listTooLong n)=true:=by
 rw[aK];exact λq=>Nat.not_lt.mpr h (of_decide_eq_true q.2)
theorem xg{j k xs ys}(e1:σ.get j=some (.list xs))(e2:σ.get k=some (.list ys))(hf:xs.length+ys.length<=2^20):bN G (λvs=>call (.builtin "list.extend") vs) [.ref j,.ref k] σ .none (σ.set j (.list (xs++ys))):=by
 refine Oz e1 λα s a vs n E w g ha eh q sz r2=>?_;obtain⟨b,ws,n',rfl,_,Im,q',NI⟩:=g.getL e2 r2;refine gT lO ⟨_,eh,rfl⟩ PySem.F.entry_list_extend (PySem.F.args_list_extend_2 _ _)
  (PySem.AutoSeq1.list_extend_list_list_0 a vs.toArray n b ws.toArray n' (yT (by rw[sz,NI];exact ak hf (by decide))) (by rw[sz];exact ak (ak (bj _ ys.length) hf) (by decide)) (by rw[sz,NI];exact ak hf (by decide))) ⟨eh,Im,?_⟩
 have t:=g.uy (ws:=vs++ws) (f:=λx=>x++ws.toArray) e1 ha eh (kZ ..) (q.append q') s.toks;exact⟨α,t.1,t.2,rfl⟩
end
section
variable{G:Gv}{m:Nat}{e:Env}{σ σ1 σ2 σ3 pL:St}{a b c d:CV}{f:CF}{cs ks:List CV}{F:List af->Sem af}{x y:Str}{hi lo st:Option Int}{i:Int}
theorem XF{f:af->af->Sem af}{t: Bool}(hf:∀(s:aq)(Q:af->aq->Prop)(E:af->aq->Prop)(t' u:Tok),Q (.bool t) s->ay G.M G.A (f (.str x t') (.str y u)) Q E s):bH G f (.str x) (.str y) σ (.bool t) σ:=by
 rintro α s _ _ E g ⟨t,rfl⟩ ⟨u,rfl⟩;exact hf s _ _ _ _ (g.here rfl)
theorem qd:bH G (bO .Eq) (.str x) (.str y) σ (.bool (x==y)) σ:=XF λs Q E t u h=>PyProof.Rows.eq_str h
theorem B5:bH G (bO .NotEq) (.str x) (.str y) σ (.bool (x != y)) σ:=XF λs Q E t u h=>PyProof.Rows.ne_str h
theorem B7:bH G (bO .In) (.str x) (.str y) σ (.bool !(d3 y x 0 y.length 1).isEmpty) σ:=XF λs Q E t u h=>PyProof.Rows.in_str h
theorem yS(hf:x.length+y.length<=bC):bH G (ft .Add) (.str x) (.str y) σ (.str (x++y)) σ:=by
 rintro α s _ _ E g ⟨t,rfl⟩ ⟨u,rfl⟩;exact PyProof.Rows.add_str (λt' tk=>g.gx ⟨_,rfl⟩) hf
theorem wL(hf:x.length+y.length<=bC):bH G (inplaceOp .Add) (.str x) (.str y) σ (.str (x++y)) σ:=by
 rintro α s _ _ E g ⟨t,rfl⟩ ⟨u,rfl⟩;exact PyProof.Rows.iadd_str (λt' tk=>g.gx ⟨_,rfl⟩) hf
theorem XG(h:∀α s t E,GS G α σ s->ay G.M G.A (F [.str x t]) (W VR G α s.heap c σ1) E s):bN G F [.str x] σ c σ1:=by
 intro α s _ E g m9;refine fu (m9) λzz zz rp vP DB=>?_;obtain rfl:=rp;obtain⟨t,rfl⟩:=vP;obtain rfl:=DB;exact h α s t E g
theorem onI(h:∀α s t E,GS G α σ s->ay G.M G.A (F [.int i t]) (W VR G α s.heap c σ1) E s):bN G F [.int i] σ c σ1:=by
 intro α s _ E g m9;refine fu (m9) λzz zz rp vP DB=>?_;obtain rfl:=rp;obtain⟨t,rfl⟩:=vP;obtain rfl:=DB;exact h α s t E g
theorem OA{j: Int}(h:∀α s t u E,GS G α σ s->ay G.M G.A (F [.int i t,.int j u]) (W VR G α s.heap c σ1) E s):bN G F [.int i,.int j] σ c σ1:=by
 rintro α s _ E g ⟨_,_,rfl,⟨t,rfl⟩,_,_,rfl,⟨u,rfl⟩,rfl⟩;exact h α s t u E g
theorem Oy(h:∀α s t w E,GS G α σ s->VR α s.heap b w->ay G.M G.A (F [.str x t,w]) (W VR G α s.heap c σ1) E s):bN G F [.str x,b] σ c σ1:=by
 rintro α s _ E g ⟨_,_,rfl,⟨t,rfl⟩,w,_,rfl,r,rfl⟩;exact h α s t w E g r
theorem GG(hf:x.length<2^60):bN G (λvs=>call (.builtin "len") vs) [.str x] σ (.int x.length) σ:=XG λα s t E g=>PyProof.Rows.len_str (by lia) (g.gx ⟨_,rfl⟩)
theorem Ov(h1:x.length=1):bN G (λvs=>call (.builtin "ord") vs) [.str x] σ (.int (x.cps.getD 0 0:Nat)) σ:=XG λα s t E g=>ord_of_one h1 (g.gx ⟨_,rfl⟩)
theorem aaM(h0:0<=i)(h1:i<=1114111):bN G (λvs=>call (.builtin "chr") vs) [.int i] σ (.str ⟨#[i.toNat]⟩) σ:=onI λα s t E g=>chr_of_range h0 h1 (g.gx ⟨_,rfl⟩)
theorem I8{α: AM}{h: Heap}:∀{xs:List Str}{vs:List af},dq α h (xs.map CV.str) vs->∃l:List (Str×Tok),vs=strValues l/\l.map (·.1)=xs:=by
 intro xs
 induction xs with
 |nil=>intro vs r;exact⟨[],r,rfl⟩
 |cons x xs ih =>
  intro _ DK;refine fu (DK) λv ws oS SA r=>?_;obtain rfl:=oS;obtain⟨t,rfl⟩:=SA;refine aH (ih r) λl Sy Sw=>?_;obtain rfl:=Sy;obtain rfl:=Sw;exact⟨(x,t)::l,rfl,rfl⟩
noncomputable def LI(sep:Str):List Str->Str
 |[x]=>x
 |l=>Builtin.Str.glued sep l
theorem join_list{k}{sep: Str}{xs: List Str}(e:σ.get k=some (.list (xs.map .str)))(hl:jW (xs.toArray.foldl (·+·.length+sep.length) 0)=false)(hf:(Builtin.Str.glued sep xs).length<=bC):
  bN G (λvs=>call (.builtin "str.join") vs) [.str sep,.ref k] σ (.str (LI sep xs)) σ:=by
 refine Oy λα s t w E g r=>?_;obtain⟨a,vs,n,rfl,ha,eh,q,sz⟩:=g.getL e r;refine aH (I8 q) λl rj iu=>?_;obtain rfl:=rj;obtain rfl:=iu;refine gT fk (gN _ _ _) PySem.F.entry_str_join (PySem.F.args_str_join_2 _ _) (meets_str_join_list sep _ a l hl) ⟨⟨_,eh,rfl,_,rfl⟩,?_⟩;cases l with
 |nil=>exact⟨hf,g.gx ⟨_,rfl⟩⟩
 |cons q0 l =>
  cases l with
  |nil=>exact g.here ⟨_,rfl⟩
  |cons q1 l=>exact⟨hf,g.gx ⟨_,rfl⟩⟩
theorem v3(α s v)(g:GS G α σ s)(r:VR α s.heap (.str x) v):s.TypeIs v "str":=by obtain⟨t,rfl⟩:=r;exact gN _ _ _
theorem kB{i n: Nat}(h:i<n):jQ (i:Int) n=some i:=by
 unfold jQ;have h0:¬((i:Int)<0):=by lia
 simp only[h0,if_false];rw[if_pos (by simp;lia)];rfl
theorem Ak{value slice: Expr}{k: Nat}(h0:0<=i)(hx:x.cps[i.toNat]?=some k)(hf:x.length<2^60)(hs:∀a b,iI slice false a b=operate [a,b] (iq a b):=by intro _ _;with_unfolding_all rfl):
  bH G (jq value slice) (.str x) (.int i) σ (.str ⟨#[k]⟩) σ:=by
 refine rD v3 ⟨_,PyProof.Rows.slot_str_getitem.lookup⟩ hs ?_;rintro α s _ _ E g ⟨t,rfl⟩ ⟨u,rfl⟩;obtain⟨j,rfl⟩:=cu h0;have hi:j<x.length:=(Array.getElem?_eq_some_iff.mp hx).1;refine PyProof.Rows.getItem_str ?_ (c:=k) ?_ (g.gx ⟨_,rfl⟩)
 ·simp;lia
 ·rw[show jQ ((j:Nat):Int) x.length=some j from kB hi];exact hx
theorem uu(α:AM)(h:Heap):∀(xs:List Str)(t:Nat),dq α h (xs.map CV.str) (strsFrom t xs):=by
 intro xs
 induction xs with
 |nil=>intro t;rfl
 |cons x xs ih=>intro t;exact⟨_,_,rfl,⟨_,rfl⟩,ih _⟩
noncomputable def rG(x y:Str):List Str:=
 if(decide (x.length<y.length) || decide (fK x<fK y))=true then [x]
 else if(d3 x y 0 x.length (x.length+1)).isEmpty=true then [x]
 else Builtin.Str.partsBetween x (d3 x y 0 x.length (x.length+1)) y.length
theorem NY(hy:(y.length==0)=false)(hx:x.length<=bC)(hn:(rG x y).length<=bC):bN G (λvs=>call (.builtin "str.split") vs) [.str x,.str y] σ (.ref σ.n) (σ.push (.list ((rG x y).map .str))):=by
 refine Oy λα s t w E g r=>?_;obtain⟨u,rfl⟩:=r;unfold rG at hn ⊢;by_cases h1:(decide (x.length<y.length) || decide (fK x<fK y))=true
 ·rw[if_pos h1]
  exact gT ji (gN _ _ _) mi (lR _ _) (meets_str_split_cannot_occur x y t u h1) (g.list (xs:=[.str x]) (.one ⟨t,rfl⟩) s.toks)
 ·rw[if_neg h1]at hn ⊢
  have h1':=Bool.not_eq_true _▸h1;by_cases h2:(d3 x y 0 x.length (x.length+1)).isEmpty=true
  ·rw[if_pos h2]
   exact gT ji (gN _ _ _) mi (lR _ _) (meets_str_split_not_found x y t u h1' hy h2) (g.list (xs:=[.str x]) (.one ⟨t,rfl⟩) s.toks)
  ·rw[if_neg h2]at hn ⊢
   have h2':=Bool.not_eq_true _▸h2;exact gT ji (gN _ _ _) mi (lR _ _) (meets_str_split_sep x y t u h1' hy h2' hx hn) (g.list (uu _ _ _ _) _)
def RP(_:AM)(_:Heap)(i:Option Int)(v:af):Prop:=IsPart v i
def SP(G:Gv)(e:Env)(x:Option Expr)(σ:St)(i:Option Int)(σ':St):Prop:=∀α s env E,EI α e env->GS G α σ s->ay G.M G.A (evalPart x env) (W RP G α s.heap i σ') E s
theorem SP.no:SP G e bB σ bB σ:=λzz zz zz zz zz g=>ag (g.here .none)
theorem SP.at{x i}(h:aV G e x σ (.int i) σ1):SP G e (some x) σ (some i) σ1:=by
 intro α s env E ei g;refine wQ (h α s env E ei g) ?_;rintro _ s1 ⟨β,l,g1,t,rfl⟩;exact⟨β,l,g1,.int _ _⟩
def dk(G:Gv)(a:CV)(lo hi st:Option Int)(σ:St)(c:CV)(σ':St):Prop:=∀α s v sl E vl vu vk,GS G α σ s->VR α s.heap a v->s.heap.IsSliceOf sl vl vu vk->IsPart vl lo->IsPart vu hi->IsPart vk st ->
 (∃T id,s.TypeIs v T/\jG (.type T) "__getitem__"=pure (some (.builtin id)))/\ay G.M G.A (iq v (.ref sl)) (W VR G α s.heap c σ') E s
theorem aV.slice{value lower DW step p pos}{Ir: St}(h1:aV G e value σ a σ1)(h2:SP G e lower σ1 lo σ2)(h3:SP G e DW σ2 hi σ3)(h4:SP G e step σ3 st pL)(h5:dk G a lo hi st pL c Ir):
  aV G e (.Subscript value (.Slice lower DW step p) pos) σ c Ir:=by
 intro α s env E i g;refine Subscript_ (jb (h1 α s env E i g) λβ v s1 l1 g1 r1=>?_);refine wpAny_Slice (jb (h2 β s1 env E (i.mono l1) g1) λγ vl s2 l2 g2 p2=>?_);refine jb (h3 γ s2 env E ((i.mono l1).mono l2) g2) λδ vu s3 l3 g3 p3=>?_;refine jb (h4 δ s3 env E (((i.mono l1).mono l2).mono l3) g3) λε vk s4 l4 g4 p4=>?_;have t:=g4.same (h':=s4.heap.push {cls:=.type "slice",data:=.fields #[vl,vu,vk]}) (λb o e=>aw _ e) s4.toks;have k:=h5 ε {s4 with heap:=s4.heap.push {cls:=.type "slice",data:=.fields #[vl,vu,vk]}} v s4.heap.objs.size E vl vu vk t.2 ((((r1.mono l2).mono l3).mono l4).mono t.1) (Heap.IsSliceOf.new ..) p2 p3 p4;obtain⟨⟨T,id,hT,hl⟩,k⟩:=k;have hs:∃ops,iI (.Slice lower DW step p) false v (.ref s4.heap.objs.size)=operate ops (iq v (.ref s4.heap.objs.size)):=by cases step<;>exact⟨_,rfl⟩
 obtain⟨ops,hs⟩:=hs;exact tail_any hT hl (wQ k λzz zz w=>w.trans ((((l1.trans l2).trans l3).trans l4).trans t.1)) hs
noncomputable def om(xs:List CV)(lo hi st:Option Int):List CV:=
 (sliceRange (sliceBounds lo hi st xs.length).1 (sliceBounds lo hi st xs.length).2.1 (sliceBounds lo hi st xs.length).2.2).filterMap (xs[·]?)
theorem dq.pick{α h xs vs}(q:dq α h xs vs):∀is:List Nat,dq α h (is.filterMap (xs[·]?)) (is.filterMap (vs[·]?)):=by
 intro is
 induction is with
 |nil=>rfl
 |cons i is ih =>
  cases e:xs[i]? with
  |none =>
   have e2:vs[i]?=none:=by rw[lW]at e ⊢;rw[q.length];exact e
   rw[fZ e,fZ e2];exact ih
  |some c =>
   refine aH (q.get e) λv hv r=>?_;rw[fY e,fY hv];exact qw v _ ⟨rfl,r,ih⟩
theorem jH(vs:List af)(lo hi st):slicePick vs.toArray lo hi st=((sliceRange (sliceBounds lo hi st vs.length).1 (sliceBounds lo hi st vs.length).2.1 (sliceBounds lo hi st vs.length).2.2).filterMap (vs[·]?)).toArray:=by
 simp[slicePick]
theorem slice_list{k xs}(e:σ.get k=some (.list xs))(h0:st≠some 0)(hf:xs.length<=bC):dk G (.ref k) lo hi st σ (.ref σ.n) (σ.push (.list (om xs lo hi st))):=by
 intro α s v sl E vl vu vk g r hs p1 p2 p3;obtain⟨a,vs,n,rfl,ha,eh,q,sz⟩:=g.getL e r;have hl:s.heap.IsList a vs.toArray:=⟨_,eh,rfl,_,rfl⟩;refine⟨⟨_,_,hl.typeIs,list_getitem_lookup⟩,wpAny_getItem_list_slice hl hs p1 p2 p3 h0 ?_ (by rw[sz];exact hf)⟩;rw[jH,q.length];exact g.list (q.pick _) s.toks
end
section
variable{G:Gv}{m:Nat}{e:Env}{σ σ1 σ2 σ3 pL:St}{a b c d:CV}{f:CF}{cs ks:List CV}{F:List af->Sem af}{x y:Str}{k n:Nat}{i j l:Int}{v:af}
theorem aV.tuple{xs k pos}(h:kG G e pos xs σ cs σ1)(hf:dv cs.length bC=true):aV G e (.Tuple xs k pos) σ (.tup cs) σ1:=by
 intro α s env E i g;refine Tuple_ (jb (h.2 α s env E i g) λβ vs s1 x g1 r1=>?_);exact wpAny_newTuple ((g1.tup r1 s1.toks).trans x) (by rw[r1.length];exact a_ hf)
inductive TAt(α:AM)(h:Heap)(cs:List CV)(v:af):Prop
 |mk (a:Nat) (vs:List af) (ev:v=.ref a) (ht:IsTup h a vs.toArray) (q:dq α h cs vs):TAt α h cs v
theorem rC{α h cs}(r:VR α h (.tup cs) v):TAt α h cs v:=by
 refine z9 (r) λa vs n ev zz zz eh q=>?_;exact⟨a,vs,ev,⟨_,eh,rfl,_,rfl⟩,q⟩
theorem xC(hx:cs[k]?=some c)(hl:cs.length<1000):bH G iq (.tup cs) (.int k) σ c σ:=by
 rintro α s _ _ E g r ⟨t,rfl⟩;obtain⟨a,vs,rfl,ht,q⟩:=rC r;refine aH (q.get hx) λv hv rv=>?_;have hk:k<cs.length:=(List.getElem?_eq_some_iff.mp hx).1;have h63:(1000:Int)<=2^63:=by decide
 refine getItem_tuple (j:=k) ht (aQ (by decide:-(2^63:Int)<=0) (aP k)) (jl (by lia) h63) ?_ (by rw[cH];exact hv) (g.here rv);exact kB (by rw[dJ,q.length];exact hk)
theorem D6(α s v)(g:GS G α σ s)(r:VR α s.heap (.tup cs) v):s.TypeIs v "tuple":=by
 obtain⟨a,vs,rfl,ht,q⟩:=rC r;exact ht.typeIs
theorem Aj{value slice: Expr}(hx:cs[k]?=some c)(hl:cs.length<1000)(hs:∀a b,iI slice false a b=operate [a,b] (iq a b):=by intro _ _;with_unfolding_all rfl):
  bH G (jq value slice) (.tup cs) (.int k) σ c σ:=rD D6 ⟨_,slot_tuple_getitem.lookup⟩ hs (xC hx hl)
theorem GS.yU{α s ao o}(g:GS G α σ s)(x:Le α s.heap (α.add σ.n s.heap.objs.size) (s.heap.push o)->OI G (α.add σ.n s.heap.objs.size) (s.heap.push o) s.heap.objs.size ao)(tk:Nat):
  W VR G α s.heap (.ref σ.n) (σ.push ao) (.ref s.heap.objs.size) {s with heap:=s.heap.push o,toks:=tk}:=
 ⟨_,(g.push x tk).1,(g.push x tk).2,_,rfl,AM.d7 _ _ _⟩
theorem mA{n: Int}:bN G (λvs=>call (.type "range") vs) [.int n] σ (.ref σ.n) (σ.push (.gQ 0 n 1)):=
 onI λα s t E g=>call_range_1 (g.yU (ao:=.gQ 0 n 1) (λzz=>⟨_,_,_,aM _ rfl⟩) _)
theorem rM:bN G (λvs=>call (.type "range") vs) [.int i,.int j] σ (.ref σ.n) (σ.push (.gQ i j 1)):=
 OA λα s t u E g=>call_range_2 (g.yU (ao:=.gQ i j 1) (λzz=>⟨_,_,_,aM _ rfl⟩) _)
theorem GS.Qv{α s k}(g:GS G α σ s)(e:σ.get k=some (.gQ i j l))(r:VR α s.heap (.ref k) v):∃a t u w,v=.ref a/\α.f k=some a/\s.heap.get? a=some (EH i j l t u w):=by
 refine aH (r) λa ev ha=>?_;refine c_ λj7 ef=>?_;obtain⟨b,hb,t,u,w,eh⟩:=g.own _ _ e;cases hb.symm.trans ha;refine ef ?_;exact Si a t u w ⟨ev,ha,eh⟩
theorem GS.fresh{α s h' ao}(g:GS G α σ s)(same:∀b o,s.heap.get? b=some o->h'.get? b=some o)
  (x:Le α s.heap (α.add σ.n s.heap.objs.size) h'->OI G (α.add σ.n s.heap.objs.size) h' s.heap.objs.size ao) (tk:Nat):W VR G α s.heap (.ref σ.n) (σ.push ao) (.ref s.heap.objs.size) {s with heap:=h',toks:=tk}:=
 ⟨_,(g.more same (eG _) x tk).1,(g.more same (eG _) x tk).2,_,rfl,AM.d7 _ _ _⟩
noncomputable def eN(a st:Int)(n:Nat):List CV:=(az n).map λi=>.int (a+(i:Nat)*st)
theorem DU{α: AM}{h: Heap}{a st: Int}:∀(l:List af)(k:Nat),(∀i v,l[i]?=some v->∃t,v=Value.int (a+((k+i:Nat):Int)*st) t)->dq α h ((List.range' k l.length).map λi=>CV.int (a+(i:Nat)*st)) l:=by
 intro l
 induction l with
 |nil=>intro k _;rfl
 |cons x l ih =>
  intro k hk;rw[cq,List.range'_succ,ba];refine qw x l ⟨rfl,hk 0 x rfl,ih (k+1) λi v hv=>?_⟩;have:=hk (i+1) v hv
  rwa [←kz,bG]at this
theorem oy{k}(hh:G.A.handled=bB)(e:σ.get k=some (.gQ i j l))(hs:d_ i j l=true)(hn:bT i j l=n)(cx:n<=2^24):
  bN G (λvs=>call (.type "list") vs) [.ref k] σ (.ref σ.n) (σ.push (.list (eN i l n))):=by
 intro α s _ E g rz;refine fu (rz) λv zz lX r m8=>?_;obtain rfl:=lX;obtain rfl:=m8;refine vN (g.Qv e r) λa t u w SH ha eh=>?_;obtain rfl:=SH;refine call_list_range hh eh hs hn cx λh' tk acc c' hk he hI=>?_;refine gM (hI) λhsz hit=>?_;refine g.fresh (ao:=.list (eN i l n)) hk (λle=>⟨acc.toList,c',he,?_⟩) tk;have:=DU (α:=α.add σ.n s.heap.objs.size) (h:=h') (a:=i) (st:=l) acc.toList 0 (λi v hv=>by rw[fh];exact hit i v (by rw[←Array.getElem?_toList];exact hv))
 rwa [dM,hsz,←List.range_eq_range']at this
theorem o5{k xs}(e:σ.get k=some (.list xs))(hf:xs.length<=bC):bN G (λvs=>call (.type "list") vs) [.ref k] σ (.ref σ.n) (σ.push (.list xs)):=
 RD e λα s a vs n E g ha eh q sz=>call_list_seq (hsz:=by rw[sz];exact hf) a (.inl rfl) eh rfl rfl λh' c' hk hD=>g.fresh (ao:=.list xs) hk (λle=>⟨vs,c',hD,q.mono le⟩) s.toks
theorem uF{j k xs ys}(e1:σ.get j=some (.list xs))(e2:σ.get k=some (.list ys))(hf:xs.length+ys.length<=2^20):bH G (inplaceOp .Add) (.ref j) (.ref k) σ (.ref j) (σ.set j (.list (xs++ys))):=by
 refine XH e1 λα s a vs n E w g ha eh q sz r2=>?_;obtain⟨b,ws,n',rfl,_,Im,q',NI⟩:=g.getL e2 r2;have Qi:jG (.type "list") (dunderI "add")=bA (some (.builtin "list.__iadd__")):=PySem.F.slot_list_iadd.lookup;have hsq:isSeqSlot (some (.builtin "list.__iadd__"))=true:=by decide +kernel
 unfold inplaceOp;refine aX ?_;have VH:fillsInplaceSlot (.type "list") "add" (Operator.Add==.Add)=bA false:=by
  unfold fillsInplaceSlot;show(jG (.type "list") (dunderI "add") >>= λfi=>bA (fi.isSome&&!isSeqSlot fi))=bA false;rw[Qi,pure_bind,hsq];rfl
 have ta:s.TypeIs (.ref a) "list":=⟨_,eh,rfl⟩;have tb:s.TypeIs (.ref b) "list":=⟨_,Im,rfl⟩;refine aa (wpAny_typeOf ta (aa (cT VH ?_)));show ay _ _ (if false=true then _ else _) _ E s;rw[if_neg aJ];refine aa (binaryOp1_none (nm:="add") ta tb noFill_list_add ?_);refine aa (cT (PyProof.Rows.seqSlot_of Qi hsq) ?_);refine aa (eZ ?_);refine gT PySem.F.slot_list_iadd ta PySem.F.entry_list_iadd (PySem.F.args_list_iadd_2 _ _)
  (PySem.AutoSeq1.list___iadd___list_list_0 a vs.toArray n b ws.toArray n' (yT (by rw[sz,NI];exact ak hf (by decide))) (by rw[sz];exact ak (ak (bj _ ys.length) hf) (by decide)) (by rw[sz,NI];exact ak hf (by decide))) ⟨eh,Im,?_⟩
 have t:=g.uy (ws:=vs++ws) (f:=λx=>x++ws.toArray) e1 ha eh (kZ ..) (q.append q') s.toks;exact⟨α,t.1,t.2,a,rfl,ha⟩
theorem dq.rep{α h vs}(r:dq α h cs vs):∀k:Nat,dq α h (aI k cs).flatten (aI k vs).flatten:=by
 intro k
 induction k with
 |zero=>rfl
 |succ k ih=>rw[List.replicate_succ,List.replicate_succ,gW,gW];exact r.append ih
theorem qE{xs}(e:σ.get n=some (.list xs))(mQ:xs.isEmpty=false)(hsz:xs.length*k<=2^20)(hx0:0<=i)(hk:i<2^20)(hx:i.toNat=k):bH G (ft .Mult) (.ref n) (.int i) σ (.ref σ.n) (σ.push (.list (aI k xs).flatten)):=by
 refine XH e λα s a vs n E w g ha eh q sz r2=>?_;obtain⟨t,rfl⟩:=r2;have hvn:vs.toArray.isEmpty=false:=by
  have:vs.length=xs.length:=q.length;cases vs with
  |nil=>cases xs with
   |nil=>cases mQ
   |cons _ _=>cases this
  |cons _ _=>rfl
 have fit:∀m:Int,m<2^20->cK i=true:=λzz zz=>by simp[cK];lia
 refine wpAny_binaryOp_repeat_ref (T:="list") (U:="int") (by decide) ⟨_,eh,rfl⟩ (λs'=>typeIs_int s' i t) noFill_list_mul PySem.F.fills_int_mul PySem.F.slot_int_rmul repeat_list PySem.F.slot_int_index.lookup
  (gT PySem.F.slot_int_rmul (typeIs_int s i t) PySem.F.entry_int_rmul (PySem.F.args_int_rmul_2 _ _) (int___rmul___int_list i t a vs.toArray n)
   ⟨eh,rfl,⟨_,eh,rfl⟩,gT PySem.F.slot_list_mul ⟨_,eh,rfl⟩ PySem.F.entry_list_mul (PySem.F.args_list_mul_2 _ _)
    (AutoListH.list___mul___list_int_3 a vs.toArray n i t (by rw[fit i hk];decide) (by rw[hx,sz];lia) (by rw[hx,sz];exact λq=>yT (b:=true) (ak hsz (by rw[gK];decide)) (by rw[q];rfl)))
    ⟨eh,?_⟩⟩)
 rw[hvn];simp only[d4,if_false,listMul_foldl,hx];have e1:((#[]:Array af).toList++(aI k vs.toArray.toList).flatten).toArray=(aI k vs).flatten.toArray:=by simp
 rw[e1];exact g.list (q.rep k) s.toks
end
section
variable{G:Gv}{m:Nat}{e:Env}{σ σ1 σ2 σ3 pL τ:St}{a b c d:CV}{f:CF}{cs ks:List CV}{x y:Str}{target:Expr}{p:Pos}{it i l:Nat}{n st:Int}
def fH(G:Gv)(target:Expr)(it:Nat)(σ:St)(c:CV)(σ':St):Prop:=∀α s a E,GS G α σ s->α.f it=some a ->
 ay G.M G.A (jJ (.ref a)) (λr s1=>∃v,r=some v/\∀E,ay G.M G.A (fc target (.ref a) v) (λzz=>W VR G α s.heap c σ' v) E s1) E s
def RN(_:AM)(_:Heap)(_:Unit)(r:Option af):Prop:=r=none
def fV(G:Gv)(it:Nat)(σ σ':St):Prop:=∀α s a E,GS G α σ s->α.f it=some a->ay G.M G.A (jJ (.ref a)) (W RN G α s.heap () σ') E s
noncomputable def vf(k:Nat):List (Nat×AO)->List (Nat×AO)
 |[]=>[]
 |(j,o)::l=>match aU k j with
  |true=>vf k l
  |false=>(j,o)::vf k l
theorem kT{k j: Nat}{ao: AO}:∀{l:List (Nat×AO)},cL (vf k l) j=some ao->j≠k/\cL l j=some ao:=by
 intro l
 induction l with
 |nil=>exact λh=>nomatch h
 |cons p l ih =>
  obtain⟨i,o⟩:=p;intro h;cases q:aU k i with
  |true =>
   unfold vf at h;rw[q]at h;refine gM (ih h) λh1 h2=>?_;refine⟨h1,?_⟩;unfold cL;rw[show aU j i=false from kY λh=>h1 (h.trans (aO q).symm)];exact h2
  |false =>
   unfold vf at h;rw[q]at h;unfold cL at h ⊢;cases z:aU j i with
   |true=>rw[z]at h;exact⟨λh'=>(by rw[←h',z]at q;cases q),h⟩
   |false=>rw[z]at h;exact ih h
noncomputable def St.del(σ:St)(k:Nat):St:=⟨vf k σ.objs,σ.n⟩
theorem GS.gone{α s k ao a h'}(g:GS G α σ s)(e:σ.get k=some ao)(ha:α.f k=some a)(same:Heap.ExtBut a s.heap h')(tk:Nat):W RN G α s.heap () (σ.del k) none {s with heap:=h',toks:=tk}:=by
 have t:=g.goto (σ':=σ.del k) (h':=h') (·=k) (·=a) rfl (λj hj=>⟨ao,hj▸e⟩) (λb hb=>⟨k,rfl,hb▸ha⟩) (λb o f eb=>same b o (λq=>f k rfl (q▸ha)) eb)
  (λzz=>⟨λj hj b hb n=>absurd (a8 (hb.symm.trans (hj▸ha))) n,λj o h=>.inl (And.symm (kT h))⟩) tk
 exact⟨_,t.1,t.2,rfl⟩
theorem GS.LW{α s j k ao ao' a b h'}(g:GS G α σ s)(e:σ.get j=some ao)(ha:α.f j=some a)(e2:σ.get k=some ao')(hb:α.f k=some b)(same:∀c o,c≠a->c≠b->s.heap.get? c=some o->h'.get? c=some o)(tk:Nat):
  W RN G α s.heap () ((σ.del j).del k) none {s with heap:=h',toks:=tk}:=by
 have t:=g.goto (σ':=(σ.del j).del k) (h':=h') (λi=>i=j∨i=k) (λc=>c=a∨c=b) rfl (λi hi=>hi.elim (λq=>⟨ao,q▸e⟩) λq=>⟨ao',q▸e2⟩) (λc hc=>hc.elim (λq=>⟨j,.inl rfl,q▸ha⟩) λq=>⟨k,.inr rfl,q▸hb⟩)
  (λc o f ec=>same c o (λq=>f j (.inl rfl) (q▸ha)) (λq=>f k (.inr rfl) (q▸hb)) ec)
  (λzz=>⟨λi hi c hc n=>hi.elim (λq=>absurd (.inl (a8 (hc.symm.trans (q▸ha)))) n) λq=>absurd (.inr (a8 (hc.symm.trans (q▸hb)))) n,
   λi o h=>.inl (let u:=kT h;let v:=kT u.2;⟨v.2,λq=>q.elim v.1 u.1⟩)⟩) tk
 exact⟨_,t.1,t.2,rfl⟩
theorem cM{k xs}(e:σ.get k=some (.list xs)):d0 G fN (.ref k) σ (.ref σ.n) (σ.push (.i6 k 0)):=by
 intro α s v E g r;obtain⟨a,vs,n,rfl,ha,eh,q,sz⟩:=g.getL e r;exact wpAny_pyIter_list (items:=vs.toArray) ⟨_,eh,rfl,_,rfl⟩ (g.yU (ao:=.i6 k 0) (λle=>⟨a,le.le _ trivial _ ha,_,aM _ rfl,rfl,rfl⟩) s.toks)
inductive IAt(α:AM)(h:Heap)(it l i:Nat)(xs:List CV)(a:Nat):Prop
 |mk (b:Nat) (vs:List af) (n:Nat) (hb:α.f l=some b) (ei:h.IsListIter a b i) (eh:h.get? b=some (kE vs n)) (q:dq α h xs vs):IAt α h it l i xs a
theorem GS.He{α s a xs}(g:GS G α σ s)(e:σ.get it=some (.i6 l i))(el:σ.get l=some (.list xs))(ha:α.f it=some a):IAt α s.heap it l i xs a:=by
 refine c_ λj7 ef=>?_;obtain⟨a',h1,b,hb,ei⟩:=g.own _ _ e;cases h1.symm.trans ha;obtain⟨b',h2,vs,n,eh,q⟩:=g.own _ _ el;cases h2.symm.trans hb;refine ef ?_;exact⟨b,vs,n,hb,ei,eh,q⟩
theorem eR:σ.get it=some (.i6 l i)->d0 G fN (.ref it) σ (.ref it) σ:=by
 intro e α s _ E g vS;refine aH (vS) λa ja ha=>?_;obtain rfl:=ja;refine c_ λj7 ef=>?_;obtain⟨a',h1,b,hb,ei⟩:=g.own _ _ e;cases h1.symm.trans ha;refine ef ?_;exact wpAny_pyIter_listiter ei (g.here ⟨a,rfl,ha⟩)
theorem X.list{xs}(e:σ.get it=some (.i6 l i))(el:σ.get l=some (.list xs))(hx:xs[i]?=some c)
  (go:∀(s:aq) a b v α (Q:Unit->aq->Prop) E,s.heap.IsListIter a b (i+1)->VR α s.heap c v->Q () s->ay G.M G.A (fc target (.ref a) v) Q E s):fH G target it σ c (σ.set it (.i6 l (i+1))):=by
 intro α s a E g ha;obtain⟨b,vs,n,hb,ei,eh,q⟩:=g.He e el ha;refine aH (q.get hx) λv hv r=>?_;refine wpAny_pyNext_list_item ei (items:=vs.toArray) ⟨_,eh,rfl,_,rfl⟩ (by rw[cH];exact hv) λh' e' hs=>⟨v,rfl,λE=>?_⟩;have t:=g.turn (h':=h') (ao':=.i6 l (i+1)) e ha (λc o hc eo=>(hs.2 c hc).trans eo) (λle=>⟨b,hb,e'⟩) s.toks;exact go _ a b v α _ E e' (r.mono t.1) ⟨α,t.1,t.2,r.mono t.1⟩
theorem X.names{xs}(e:σ.get it=some (.i6 l i))(el:σ.get l=some (.list xs))(hx:xs[i]?=some c):fH G (.Name x p) it σ c (σ.set it (.i6 l (i+1))):=
 X.list e el hx λzz zz zz zz zz zz zz zz zz h=>ag h
theorem X.yC{xs kW k}(e:σ.get it=some (.i6 l i))(el:σ.get l=some (.list xs))(hx:xs[i]?=some (.tup cs)):fH G (.Tuple kW k p) it σ (.tup cs) (σ.set it (.i6 l (i+1))):=
 X.list e el hx λs a b v α Q E ei r h=>by
  obtain⟨t,vs,rfl,_,_⟩:=rC r;exact wpAny_letOwnedTupleGo_listiter (I:=a) (l:=b) (i:=i+1) ei h
theorem D.list{xs}(hh:G.A.handled=none)(e:σ.get it=some (.i6 l i))(el:σ.get l=some (.list xs))(hx:xs.length=i):fV G it σ (σ.del it):=by
 intro α s a E g ha;obtain⟨b,vs,n,hb,ei,eh,q⟩:=g.He e el ha;exact wpAny_pyNext_list_end hh ei (items:=vs.toArray) ⟨_,eh,rfl,_,rfl⟩ (by rw[cH,lW,q.length,hx];exact aG _) λh' hs=>g.gone e ha hs s.toks
theorem zo{k}{i j: Int}(e:σ.get k=some (.gQ i j st))(hs:d_ i j st=true)(hn:bT i j st=n):d0 G fN (.ref k) σ (.ref σ.n) (σ.push (.itR i n st)):=by
 intro α s v E g r;refine vN (g.Qv e r) λa t u w m8 ha eh=>?_;obtain rfl:=m8;exact wpAny_pyIter_range eh hs (g.yU (ao:=.itR i n st) (λzz=>hn▸aM _ rfl) s.toks)
theorem yL{i: Int}(hh:G.A.handled=none)(e:σ.get it=some (.itR i n st))(hn:0<=n):d0 G fN (.ref it) σ (.ref it) σ:=by
 intro α s _ E g m9;refine aH (m9) λa ja ha=>?_;obtain rfl:=ja;refine aH (g.own _ _ e) λa' h1 ei=>?_;cases h1.symm.trans ha;obtain⟨k,rfl⟩:=cu hn;refine(Walks.range (prog:=G.prog) (w:=G.w) hh a i st k).self 0 s _ E ?_ (g.here ⟨a,rfl,ha⟩);show s.heap.get? a=some (T1 (i+((0:Nat):Int)*st) ((k:Int)-((0:Nat):Int)) st);rw[Int.ofNat_zero,Int.zero_mul,Int.add_zero,Int.sub_zero];exact ei
theorem X.range{i: Int}(e:σ.get it=some (.itR i n st))(hn:0<n):fH G (.Name x p) it σ (.int i) (σ.set it (.itR (i+st) (n-1) st)):=by
 intro α s a E g ha;refine aH (g.own _ _ e) λa' h1 ei=>?_;cases h1.symm.trans ha;refine wpAny_pyNext_range_item ei hn λh' e' hs=>⟨_,rfl,λE=>ag ?_⟩;have t:=g.turn (h':=h') (ao':=.itR (i+st) (n-1) st) e ha (λc o hc eo=>(hs.2 c hc).trans eo) (λle=>e') (s.toks+1);exact⟨α,t.1,t.2,_,rfl⟩
theorem D.range{i: Int}(hh:G.A.handled=none)(e:σ.get it=some (.itR i n st))(hn:n<=0):fV G it σ (σ.del it):=by
 intro α s a E g ha;refine aH (g.own _ _ e) λa' h1 ei=>?_;cases h1.symm.trans ha;exact wpAny_pyNext_range_end hh ei hn λh' hs=>g.gone e ha hs s.toks
end
section
variable{G:Gv}{m:Nat}{e:Env}{σ σ1 σ2 σ3 pL τ:St}{a b c d:CV}{f:CF}{cs ks:List CV}{x y:Str}{target:Expr}{p:Pos}{it i l:Nat}
noncomputable def tB(x:Str)(i:Nat):CV:=.str ⟨#[x.cps.getD i 0]⟩
theorem pq{A:b_}{prog w}{t:Tok}(hh:A.handled=none):Draws prog w A it [it] x.cps.size (λi v=>∃c u,x.cps[i]?=some c/\v=.str ⟨#[c]⟩ u) (λi h=>h.IsStrIter it (bw x) x t i):=by
 unfold bw;cases ha:x.cps.all (· < 128)
 ·exact Draws.strWide hh it x t
 ·exact Draws.strAscii hh it x t
inductive JAt(α:AM)(h:Heap)(x:Str)(i:Nat)(a:Nat):Prop
 |mk (t:Tok) (k:h.IsStrIter a (bw x) x t i):JAt α h x i a
theorem GS.CB{α s a}(g:GS G α σ s)(e:σ.get it=some (.nU x i))(ha:α.f it=some a):JAt α s.heap x i a:=by
 refine c_ λj7 ef=>?_;obtain⟨a',h1,t,o,ei,k⟩:=g.own _ _ e;cases h1.symm.trans ha;refine ef ?_;exact⟨t,o,ei,k⟩
theorem GO:d0 G fN (.str x) σ (.ref σ.n) (σ.push (.nU x 0)):=by
 rintro α s _ E g ⟨t,rfl⟩;exact wpAny_pyIter_strU (g.yU (ao:=.nU x 0) (λzz=>⟨t,_,aM _ rfl,rfl,rfl⟩) s.toks)
theorem Ep(e:σ.get it=some (.nU x i)):d0 G fN (.ref it) σ (.ref it) σ:=by
 intro α s _ E g m9;refine aH (m9) λa ja ha=>?_;obtain rfl:=ja;obtain⟨t,k⟩:=g.CB e ha;have fin:W VR G α s.heap (.ref it) σ (.ref a) s:=g.here ⟨a,rfl,ha⟩;unfold bw at k;cases h:x.cps.all (· < 128)
 ·rw[h]at k;exact wpAny_pyIter_striter_wide k fin
 ·rw[h]at k;exact wpAny_pyIter_striter_ascii k fin
theorem X.str(e:σ.get it=some (.nU x i))(hi:i<x.cps.size):fH G (.Name y p) it σ (tB x i) (σ.set it (.nU x (i+1))):=by
 intro α s a E g ha;obtain⟨t,k⟩:=g.CB e ha;have hx:x.cps[i]?=some (x.cps.getD i 0):=by rw[k6,Array.getElem?_eq_getElem hi];rfl
 have fin:∀h',h'.IsStrIter a (bw x) x t (i+1)->Heap.SameBut a s.heap h'->∃v,some (Value.str ⟨#[x.cps.getD i 0]⟩ s.toks)=some v/\∀E,ay G.M G.A (fc (.Name y p) (.ref a) v) (λzz=>W VR G α s.heap (tB x i) (σ.set it (.nU x (i+1))) v) E {s with heap:=h',toks:=s.toks+1}:=by
  intro h' k' hs;refine aH (k') λo eo k'=>?_;have t:=g.turn (h':=h') (ao':=.nU x (i+1)) e ha (λc o hc eo=>(hs.2 c hc).trans eo) (λle=>⟨t,o,eo,k'⟩) (s.toks+1);exact⟨_,rfl,λE=>ag ⟨α,t.1,t.2,_,rfl⟩⟩
 unfold bw at k fin;cases h:x.cps.all (· < 128)
 ·rw[h]at k fin;exact wpAny_pyNext_wide_item k hx fin
 ·rw[h]at k fin;exact wpAny_pyNext_ascii_item k hx fin
theorem D.str(hh:G.A.handled=none)(e:σ.get it=some (.nU x i))(hi:x.cps.size=i):fV G it σ (σ.del it):=by
 intro α s a E g ha;obtain⟨t,k⟩:=g.CB e ha;have hx:x.cps[i]?=none:=by rw[Array.getElem?_eq_none_iff,hi];exact aG _
 unfold bw at k;cases h:x.cps.all (· < 128)
 ·rw[h]at k;exact wpAny_pyNext_wide_end hh k hx λh' hs=>g.gone e ha hs s.toks
 ·rw[h]at k;exact wpAny_pyNext_ascii_end hh k hx λh' hs=>g.gone e ha hs s.toks
theorem GS.Lm{α s h' ao bo}(g:GS G α σ s)(hk:∀b o,s.heap.get? b=some o->h'.get? b=some o)
  (x:Le α s.heap (α.lN σ.n s.heap.objs.size 2) h'->OI G (α.lN σ.n s.heap.objs.size 2) h' s.heap.objs.size ao/\OI G (α.lN σ.n s.heap.objs.size 2) h' (s.heap.objs.size+1) bo) (tk:Nat):
  W VR G α s.heap (.ref (σ.n+1)) (σ.oh [ao,bo]) (.ref (s.heap.objs.size+1)) {s with heap:=h',toks:=tk}:=by
 have t:=g.AJ (os:=[ao,bo]) (h':=h') (a:=s.heap.objs.size) hk (λi zz=>by
  cases e:s.heap.get? (s.heap.objs.size+i)with
  |none=>rfl
  |some o=>exact absurd (bJ e) (Nat.not_lt.mpr (bj _ _))) (λle i o hi=>?_) tk
 ·exact⟨_,t.1,t.2,_,rfl,AM.gr (bg 1)⟩
 ·match i,hi with
  |0,hi=>cases hi;exact(x le).1
  |1,hi=>cases hi;exact(x le).2
theorem CK{k xs}(e:σ.get k=some (.list xs)):bN G (λvs=>call (.type "enumerate") vs) [.ref k] σ (.ref (σ.n+1)) (σ.oh [.i6 k 0,.qj σ.n 0]):=
 RD e λα s a vs n E g ha eh q sz=>call_enumerate_list (items:=vs.toArray) ⟨_,eh,rfl,_,rfl⟩ λh' he hi hz hk =>
  g.Lm (ao:=.i6 k 0) (bo:=.qj σ.n 0) hk (λle=>⟨⟨a,le.le _ trivial _ ha,hi⟩,_,_,AM.gr (i:=0) (Nat.succ_pos 1),he⟩) s.toks
theorem Hn:bN G (λvs=>call (.type "enumerate") vs) [.str x] σ (.ref (σ.n+1)) (σ.oh [.nU x 0,.qj σ.n 0]):=
 XG λα s t E g=>call_enumerate_str λh' he hi hz hk=>by
  refine aH (hi) λo eo k=>?_;exact g.Lm (ao:=.nU x 0) (bo:=.qj σ.n 0) hk (λle=>⟨⟨t,o,eo,k⟩,_,_,AM.gr (i:=0) (Nat.succ_pos 1),he⟩) s.toks
inductive EAt(α:AM)(h:Heap)(it j i:Nat)(a:Nat):Prop
 |mk (b:Nat) (old:af) (hb:α.f j=some b) (ei:IsEnum h a b i old) (ne:a≠b):EAt α h it j i a
theorem GS.Kq{α s a j ao}(g:GS G α σ s)(e:σ.get it=some (.qj j i))(ej:σ.get j=some ao)(G2:it≠j)(ha:α.f it=some a):EAt α s.heap it j i a:=by
 refine c_ λj7 ef=>?_;obtain⟨a',h1,b,old,hb,ei⟩:=g.own _ _ e;cases h1.symm.trans ha;refine ef ?_;exact⟨b,old,hb,ei,λq=>G2 (g.inj _ _ _ _ _ e ej ha (q▸hb))⟩
theorem pV{j}(e:σ.get it=some (.qj j i)):d0 G fN (.ref it) σ (.ref it) σ:=by
 intro α s _ E g m9;refine aH (m9) λa ja ha=>?_;obtain rfl:=ja;refine c_ λj7 ef=>?_;obtain⟨a',h1,b,old,hb,ei⟩:=g.own _ _ e;cases h1.symm.trans ha;refine ef ?_;exact wpAny_pyIter_enum ei (g.here ⟨a,rfl,ha⟩)
theorem Bc{α s a b j old h' x ao ao' tk Ic kW k}(g:GS G α σ s)(e:σ.get it=some (.qj j i))(ej:σ.get j=some ao)(ha:α.f it=some a)(hb:α.f j=some b)(mQ:a≠b)(he:IsEnum s.heap a b i old)
  (ho:IsEnumOut h' a b ((i:Int)+1) x s.heap.objs.size) (ht:h'.get? s.heap.objs.size=some {cls:=.type "tuple",data:=.seq #[.int i tk,x]}) (hk:∀c o,c≠a->c≠b->s.heap.get? c=some o->h'.get? c=some o)
  (oj:∀{β h2},Le α s.heap β h2->(∀o,h'.get? b=some o->h2.get? b=some o)->OI G β h2 b ao') (hx:∀{β h2},Le α s.heap β h2->VR β h2 c x) (E):
  ay G.M G.A (fc (.Tuple kW k p) (.ref a) (.ref s.heap.objs.size)) (λzz=>W VR G α s.heap (.tup [.int i,c]) ((σ.set it (.qj j (i+1))).set j ao') (.ref s.heap.objs.size)) E {s with heap:=h',toks:=Ic}:=by
 refine wpAny_letOwnedTupleGo_enum ho λh2 he2 Vi=>?_;have Vi:Heap.SameBut a h' h2:=Vi;have b2:∀o,h'.get? b=some o->h2.get? b=some o:=λo q=>Vi.extBut _ _ (Ne.symm mQ) q;have all:∀c o,c≠a->c≠b->s.heap.get? c=some o->h2.get? c=some o:=λc o n1 n2 q=>Vi.extBut _ _ n1 (hk c o n1 n2 q);have G2:it≠j:=λq=>mQ (a8 (ha.symm.trans (q▸hb)));have t:=g.goto (σ':=(σ.set it (.qj j (i+1))).set j ao') (h':=h2) (λk=>k=it∨k=j) (λzz=>False) rfl (λk hk=>hk.elim (λq=>⟨_,q▸e⟩) λq=>⟨_,q▸ej⟩) (λzz q=>q.elim)
  (λc o f q=>all c o (λz=>f it (.inl rfl) (z▸ha)) (λz=>f j (.inr rfl) (z▸hb)) q) (λle=>?_) Ic
 ·rw[AM.less_none]at t
  refine⟨α,t.1,t.2,s.heap.objs.size,[.int i tk,x],0,rfl,λh=>?_,λh=>?_,?_,_,_,rfl,⟨_,rfl⟩,_,_,rfl,hx t.1,rfl⟩
  ·obtain⟨o,q⟩:=g.lt _ h;rw[eG]at q;cases q
  ·obtain⟨o,q,_⟩:=g.pW _ h;rw[eG]at q;cases q
  ·exact Vi.extBut _ _ (λq=>by rw[←q,IsEnum,eG]at he;cases he) ht
 ·rw[AM.less_none]at le ⊢
  refine⟨λk hk c hc zz=>?_,λk o hk=>?_⟩
  ·rcases hk with rfl|rfl
   ·cases hc.symm.trans ha;exact⟨_,he2⟩
   ·cases hc.symm.trans hb;exact(oj le b2).live
  ·rw[show((σ.set it (.qj j (i+1))).set j ao').get k=_ from dc j ao' k,show cL (σ.set it (.qj j (i+1))).objs j=_ from dc it _ j,show cL (σ.set it (.qj j (i+1))).objs k=_ from dc it _ k,if_neg (Ne.symm G2),show cL σ.objs j=some ao from ej]at hk
   by_cases q1:k=j
   ·rw[if_pos q1]at hk;cases hk;exact .inr ⟨.inr q1,b,q1▸hb,id,oj le b2⟩
   ·rw[if_neg q1]at hk
    by_cases q2:k=it
    ·rw[if_pos q2,show cL σ.objs it=some (.qj j i)from e]at hk;cases hk;exact .inr ⟨.inl q2,a,q2▸ha,id,b,x,hb,he2⟩
    ·rw[if_neg q2]at hk;exact .inl ⟨hk,λq=>q.elim q2 q1⟩
theorem X.Hp{j l xs kW k}(e:σ.get it=some (.qj j i))(ej:σ.get j=some (.i6 l i))(el:σ.get l=some (.list xs))(hx:xs[i]?=some c)(G2:it≠j):
  fH G (.Tuple kW k p) it σ (.tup [.int i,c]) ((σ.set it (.qj j (i+1))).set j (.i6 l (i+1))):=by
 intro α s a E g ha;obtain⟨b,old,hb,he,ne⟩:=g.Kq e ej G2 ha;obtain⟨bl,vs,n,hl,ei,eh,q⟩:=g.He ej el hb;refine aH (q.get hx) λv hv r=>?_;exact wpAny_pyNext_enum_item (items:=vs.toArray) (x:=v) he ei ⟨_,eh,rfl,_,rfl⟩ (by rw[cH];exact hv) ne λh' u1 u2 u3 u4 u5 =>
  ⟨_,rfl,Bc g e ej ha hb ne he u1 u3 u5 (λle k=>⟨bl,le.le _ trivial _ hl,let⟨o,q1,q2⟩:=u2;⟨o,k _ q1,q2⟩⟩) λle=>r.mono le⟩
theorem X.Ho{j kW k}(hh:G.A.handled=none)(e:σ.get it=some (.qj j i))(ej:σ.get j=some (.nU x i))(hi:i<x.cps.size)(G2:it≠j):
  fH G (.Tuple kW k p) it σ (.tup [.int i,tB x i]) ((σ.set it (.qj j (i+1))).set j (.nU x (i+1))):=by
 intro α s a E g ha;obtain⟨b,old,hb,he,ne⟩:=g.Kq e ej G2 ha;obtain⟨t,ks⟩:=g.CB ej hb;refine wpAny_pyNext_enum_itemD (pq (x:=x) (t:=t) (show G.A.in1.handled=none from hh)) he ks hi ne (by rw[List.mem_singleton];exact ne) λv h' tk hp u1 u2 u3 u4 u5=>?_;refine kJ (hp) λcp u hc Sv=>?_;obtain rfl:=Sv;obtain⟨o,q1,q2⟩:=u2;exact⟨_,rfl,Bc g e ej ha hb ne he u1 u3 u5 (λle k=>⟨t,o,k _ q1,q2⟩) λle=>⟨u,by rw[k6,hc];rfl⟩⟩
theorem D.Hp{j l xs}(hh:G.A.handled=none)(e:σ.get it=some (.qj j i))(ej:σ.get j=some (.i6 l i))(el:σ.get l=some (.list xs))(hx:xs.length=i)(G2:it≠j):fV G it σ ((σ.del it).del j):=by
 intro α s a E g ha;obtain⟨b,old,hb,he,ne⟩:=g.Kq e ej G2 ha;obtain⟨bl,vs,n,hl,ei,eh,q⟩:=g.He ej el hb;exact wpAny_pyNext_enum_end hh (items:=vs.toArray) he ei ⟨_,eh,rfl,_,rfl⟩ (by rw[cH,lW,q.length,hx];exact aG _) λh' hs=>g.LW e ha ej hb (λc o n1 n2 q=>hs c o n2 q) s.toks
theorem D.Ho{j}(hh:G.A.handled=none)(e:σ.get it=some (.qj j i))(ej:σ.get j=some (.nU x i))(hi:x.cps.size=i)(G2:it≠j):fV G it σ ((σ.del it).del j):=by
 intro α s a E g ha;obtain⟨b,old,hb,he,ne⟩:=g.Kq e ej G2 ha;obtain⟨t,ks⟩:=g.CB ej hb;exact wpAny_pyNext_enum_endD (pq (x:=x) (t:=t) (show G.A.in1.handled=none from hh)) he (hi▸ks) λh' hs=>g.LW e ha ej hb (λc o n1 n2 q=>hs c o n2 q) s.toks
end
section
variable{G:Gv}{m:Nat}{e:Env}{σ σ1 σ2 σ3 pL τ:St}{a b c d:CV}{f:CF}{cs ks:List CV}{x y:Str}{target:Expr}{p:Pos}{it i l:Nat}
def du(G:Gv)(e:Env)(target:Expr)(c:CV)(σ σ':St):Prop:=∀α s env E v,EI α e env->GS G α σ s->VR α s.heap c v->ay G.M G.A (ik target env v) (W RU G α s.heap () σ') E s
theorem du.name(h:fg G e x c σ σ1):du G e (.Name x p) c σ σ1:=λα s env E v i g r=>wpAny_assign_Name (h α s env E v i g r)
inductive K4(G:Gv)(m:Nat)(e:Env)(target:Expr)(body:List Stmt)(it:Nat)(σ:St)(f:CF)(σ':St):Prop
 |mk (c:CV) (τ1 tj:St) (h1:fH G target it σ c τ1) (h2:du G e target c τ1 tj) (h3:eA G m e body tj f σ'):K4 G m e target body it σ f σ'
theorem K4.run{body:List Stmt}{α s env a}{E:af->aq->Prop}{Q:Option af->aq->Prop}(t:K4 G m e target body it σ f σ1)(hb:EB m e=true)(i:EI α e env)(g:GS G α σ s)(ha:α.f it=some a)
  (h:∀v s1,ay G.M G.A (fc target (.ref a) v) (λzz s2=>ay G.M G.A (ik target env v) (λzz s3=>ay G.M G.A (jr body env) (λr s4=>WM m G α s.heap f σ1 r s4) E s3) E s2) E s1->Q (some v) s1):ay G.M G.A (jJ (.ref a)) Q E s:=by
 obtain⟨c,τ1,tj,h1,h2,h3⟩:=t;refine wQ (h1 α s a E g ha) ?_;rintro _ s1 ⟨v,rfl,k⟩;refine h v s1 (wQ (k E) ?_);rintro _ s2 ⟨β,x,g2,r⟩;refine Ib (h2 β s2 env E v (i.mono x) g2 r) λγ s3 y g3=>?_;exact wQ (h3 γ s3 env E ((i.mono x).mono y) g3) λzz zz w=>w.trans (x.trans y).mL
theorem SS.for{iter body pos}{m':Nat}(n:Nat)(S:Nat->St)(hb:EB m' e=true)(hm:m<=m')(hit:it<m')(h1:aV G e iter σ c σ1)(h2:d0 G fN c σ1 (.ref it) (S 0))
  (turn:∀i,i<n->∃τ,K4 G m' e target body it (S i) .next τ/\fz m' τ (S (i+1))) (last:fV G it (S n) σ2) (hs:∀env x,gd iter env x=bA x:=by intro _ _;rfl):
  SS G m e (.For target iter body [] pos) σ .next σ2:=by
 intro α s env E i g;refine wpAny_For (jb (h1 α s env E i g) λβ v s1 x g1 r1=>?_) (hs env);refine Lc (h2 β s1 v E g1 r1) λγ a s2 y g2 ha=>?_;have xy:=x.trans y;refine codeAny_forLoop_any (λk s'=>∃j δ,k=n-j/\j<=n/\z0 m' γ s2.heap δ s'.heap/\GS G δ (S j) s') ?_ n ⟨0,γ,rfl,aW _,qt.refl _ _,g2⟩;intro k s' DJ;refine tm (DJ) λj δ Dx hj le g'=>?_;obtain rfl:=Dx;have i':=(i.mono xy).oq le hb;have qZ:=le.le _ hit _ ha;by_cases ij:j<n
 ·refine aH (turn j ij) λτ t h3=>?_
  refine t.run hb i' g' qZ λv s1 w=>wQ w λzz s2 w=>wQ w λzz s3 w=>wQ w ?_;rintro _ s4 ⟨ε,z,g4,rfl⟩;refine aH (h3 G ε s4 g4) λζ z2 g5=>?_;exact⟨n-(j+1),Nat.sub_lt_sub_left ij (bg j),j+1,ζ,rfl,ij,(le.trans z).trans z2,g5⟩
 ·obtain rfl:j=n:=Nat.le_antisymm hj (iC ij)
  refine wQ (last δ s' a _ g' qZ) ?_;rintro _ s4 ⟨ε,z,g4,rfl⟩;exact wpAny_execs_nil ⟨ε,(xy.mL.trans (le.sub λk h=>aA h hm)).trans z.mL,g4,rfl⟩
def Ord(G:Gv)(e:Env)(fs:Env->List (af->Sem Unit))(cs:List CV)(σ σ':St):Prop:=∀α s env E vs,EI α e env->GS G α σ s->dq α s.heap cs vs->ay G.M G.A (assignInOrder (fs env) vs) (W RU G α s.heap () σ') E s
theorem Ord.nil:Ord G e (λzz=>[]) [] σ σ:=by
 rintro α s env E _ i g rfl;exact ag (g.here trivial)
theorem Ord.aT{fs:Env->List (af->Sem Unit)}{f1:Env->af->Sem Unit}(h:∀α s env E v,EI α e env->GS G α σ s->VR α s.heap c v->ay G.M G.A (f1 env v) (W RU G α s.heap () σ1) E s)(k:Ord G e fs cs σ1 σ2):Ord G e (λenv=>f1 env::fs env) (c::cs) σ σ2:=by
 intro α s env E _ i g DL;refine fu (DL) λv vs rp r q=>?_;obtain rfl:=rp;refine aa (aX (Ib (h α s env E v i g r) λβ s1 x g1=>?_));exact wQ (k β s1 env E vs (i.mono x) g1 (q.mono x)) λzz zz w=>w.trans x
theorem Ord.bind{fs}(h:fg G e x c σ σ1)(k:Ord G e fs cs σ1 σ2):Ord G e (λenv=>(λv=>bindName env x v)::fs env) (c::cs) σ σ2:=
 Ord.aT (f1:=λenv v=>bindName env x v) (λα s env E v i g r=>wpAny_bindName (h α s env E v i g r)) k
theorem Ord.name{fs}(h:fg G e x c σ σ1)(k:Ord G e fs cs σ1 σ2):Ord G e (λenv=>(λv=>do fR p;bindName env x v)::fs env) (c::cs) σ σ2:=
 Ord.aT (f1:=λenv v=>do fR p;bindName env x v) (λα s env E v i g r=>aa (dQ (wpAny_bindName (h α s env E v i g r)))) k
theorem Ord.run{fs:Env->List (af->Sem Unit)}{α s env E vs h' h0 α0}(k:Ord G e fs cs σ σ1)(i:EI α e env)(g:GS G α σ s)(r:dq α s.heap cs vs)(hx:Heap.ExtBut s.heap.objs.size s.heap h')(x:Le α0 h0 α s.heap):
  ay G.M G.A (assignInOrder (fs env) vs) (W RU G α0 h0 () σ1) E {s with heap:=h'}:=by
 have t:=g.same (h':=h') (λb o eb=>hx b o (cR (bJ eb)) eb) s.toks;exact wQ (k α {s with heap:=h'} env E vs (i.mono t.1) t.2 (r.mono t.1)) λzz zz w=>w.trans (x.trans t.1)
theorem du.tuple{kW k qP}{fs:Env->List (af->Sem Unit)}(hh:G.A.handled=none)(h:Ord G e fs cs σ σ1)(h1:∀env,(assignEach kW env).map (·.2)=fs env:=by intro _;rfl)(h2:∀env,(assignEach kW env).length=cs.length:=by intro _;rfl)
  (h3:∀env,(assignEach kW env).findIdx? (·.1)=none:=by intro _;rfl):du G e (.Tuple kW k qP) (.tup cs) σ σ1:=by
 intro α s env E v i g r;obtain⟨a,vs,rfl,ht,q⟩:=rC r;refine assign_Tuple_tuple hh ht (by rw[h2,dJ,q.length]) (h3 env) λh' hx=>?_;rw[h1];exact h.run i g q hx (Le.refl _ _)
theorem SS.swap{kW k qP value pos}{names:List Str}(hh:G.A.handled=none)(h1:aV G e value σ (.tup cs) σ1)(hl:cs.length=names.length)(h2:Ord G e (λenv=>names.reverse.map λn=>bindName env n) cs.reverse σ1 σ2)
  (hs:∀env,swapsWithSole [.Tuple kW k qP] value pos.line env=bA false:=by intro _;rfl) (hw:∀env:Env,env.scope=e.scope->swappedStores [.Tuple kW k qP] value env=bA (some names)):SS G m e (.Assign [.Tuple kW k qP] value pos) σ .next σ2:=by
 intro α s env E i g;refine Assign_Tuple_swapped (names:=names) (jb (h1 α s env E i g) λβ v s1 x g1 r1=>?_) (hs env) (hw env i.scope);obtain⟨a,vs,rfl,ht,q⟩:=rC r1;have hsz:names.length=vs.toArray.size:=by rw[dJ,q.length,hl]
 rw[hsz];refine unpackItems_tuple hh ht λh' hx=>?_;have rev:∀{cs vs},dq β s1.heap cs vs->dq β s1.heap cs.reverse vs.reverse:=by
  intro cs
  induction cs with
  |nil=>rintro _ rfl;rfl
  |cons c cs ih =>
   intro _ Ng;refine fu (Ng) λv ws rt r q=>?_;obtain rfl:=rt;rw[gU,gU];exact(ih q).append (.one r)
 refine Ib (h2.run (i.mono x) g1 (rev q) hx x) λγ s2 y g2=>?_;exact⟨γ,y.mL,g2,rfl⟩
theorem SS.gH{kW k qP value pos}(h1:aV G e value σ c σ1)(h2:du G e (.Tuple kW k qP) c σ1 σ2)(hs:∀env,swapsWithSole [.Tuple kW k qP] value pos.line env=bA false:=by intro _;rfl)
  (hw:∀env:Env,env.scope=e.scope->swappedStores [.Tuple kW k qP] value env=bA none):SS G m e (.Assign [.Tuple kW k qP] value pos) σ .next σ2:=by
 intro α s env E i g;refine Assign_Tuple (jb (h1 α s env E i g) λβ v s1 x g1 r1=>?_) (hs env) (hw env i.scope);refine Ib (h2 β s1 env E v (i.mono x) g1 r1) λγ s2 y g2=>?_;exact⟨γ,(x.trans y).mL,g2,rfl⟩
end
section
variable{G:Gv}{m:Nat}{e:Env}{σ σ1 σ2 σ3 pL τ:St}{a b c d:CV}{f:CF}{cs ks:List CV}{x y:Str}{target iter elt:Expr}{p pos:Pos}{it acc i l:Nat}{scope:iK}{q:Nat}
noncomputable def ka(target iter:Expr)(it:af)(env:Env)(step:Sem Unit)(back:Sem Fin):Sem Fin:=
 fR iter.pos >>= λzz=>jJ it >>= λr=>match r with
   |none=>pure (.done .next)
   |some v=>fc target it v >>= λzz=>ik target env v >>= λzz=>step >>= λzz=>back
noncomputable def kV(elt:Expr)(acc:af)(env:Env):Sem Unit:=eval elt env >>= λx=>call (.builtin "list.append") [acc,x] >>= λzz=>pure ()
noncomputable def pQ(c:Expr)(step:af->Env->Sem Unit)(acc:af)(env:Env):Sem Unit:=PySem.isTrue c env (eval c env) >>= λok=>if ok=true then step acc env else pure ()
noncomputable def nextOf(e:Expr)(d:Nat)(iter:Expr)(acc:af)(env:Env):Sem Unit:=
 eval iter env >>= λx=>fR iter.pos >>= λzz=>gd iter env x >>= λx=>iY [x] (fN x) >>= λit=>runOwn (.compStart e d it acc env) env >>= λzz=>pure ()
def eU(G:Gv)(m:Nat)(e:Env)(st:af->Env->Sem Unit)(acc:Nat)(σ σ':St):Prop:=∀α s env b E,EI α e env->GS G α σ s->α.f acc=some b->ay G.M G.A (st (.ref b) env) (λzz s'=>WM m G α s.heap .next σ' .next s') E s
def cW(G:Gv)(m:Nat)(e:Env)(c:af->af->Env->Code)(it acc:Nat)(σ σ':St):Prop:=∀α s env a b R,EI α e env->GS G α σ s->α.f it=some a->α.f acc=some b->(∀s',WM m G α s.heap .next σ' .next s'->R (.ok .next) s') ->
 codeAny G.M G.A (c (.ref a) (.ref b) env) R s
theorem eU.emit{out}(h:aV G e elt σ c σ1)(hl:σ1.get acc=some (.list out))(hf:out.length<=bC):eU G m e (kV elt) acc σ (σ1.set acc (.list (out++[c]))):=by
 intro α s env b E i g hb;refine aa (jb (h α s env E i g) λβ v s1 x g1 r=>?_);have C_:=x.le _ trivial _ hb;refine aa (jb (list_append hl hf β s1 [.ref b,v] E g1 ⟨_,_,rfl,⟨b,rfl,C_⟩,v,[],rfl,r,rfl⟩) λγ zz s2 y g2 zz=>?_);exact ag ⟨γ,(x.trans y).mL,g2,rfl⟩
theorem eU.Lh{c: Expr}{st}(h:cD G e c σ true σ1)(k:eU G m e st acc σ1 σ2):eU G m e (pQ c st) acc σ σ2:=by
 intro α s env b E i g hb;refine aa (yv (h α s env E i g) λβ s1 x g1=>?_);exact wQ (k β s1 env b E (i.mono x) g1 (x.le _ trivial _ hb)) λzz zz w=>w.trans x.mL
theorem eU.Ai{c: Expr}{st}(h:cD G e c σ false σ1):eU G m e (pQ c st) acc σ σ1:=by
 intro α s env b E i g hb;refine aa (yv (h α s env E i g) λβ s1 x g1=>?_);exact ag ⟨β,x.mL,g1,rfl⟩
theorem eU.next{x: Expr}{n: Nat}{it}(hh:G.A.handled=none)(h1:aV G e iter σ c σ1)(h2:d0 G fN c σ1 (.ref it) σ2)(h3:cW G m e (λit acc env=>.compStart x n it acc env) it acc σ2 σ3)
  (hs:∀env v,gd iter env v=bA v:=by intro _ _;rfl):eU G m e (nextOf x n iter) acc σ σ3:=by
 intro α s env b E i g hb;refine aa (jb (h1 α s env E i g) λβ v s1 x g1 r1=>?_);refine aa (dQ (aa (cT (hs env v) (aa (aX (Lc (h2 β s1 v E g1 r1) λγ a s2 y g2 ha=>?_))))));refine aa (wpAny_runOwn (h:=none) ?_);rw[Ci hh];exact h3 γ s2 env a b _ ((i.mono x).mono y) g2 ha (y.le _ trivial _ (x.le _ trivial _ hb)) λs' w=>ag (w.trans (x.trans y).mL)
inductive Me(G:Gv)(m:Nat)(e:Env)(target:Expr)(st:af->Env->Sem Unit)(it acc:Nat)(σ σ':St):Prop
 |mk (c:CV) (τ1 tj:St) (h1:fH G target it σ c τ1) (h2:du G e target c τ1 tj) (h3:eU G m e st acc tj σ'):Me G m e target st it acc σ σ'
theorem cW.loop{gens:List cg}{q: Nat}{st:af->Env->Sem Unit}{m': Nat}(n:Nat)(S:Nat->St)(hb:EB m' e=true)(hm:m<=m')(hit:it<m')(Ya:acc<m')
  (VJ:∀it acc env,ki (.ListComp elt gens scope pos) q it acc env=ka target iter it env (st acc env) (again (.compLoop (.ListComp elt gens scope pos) q it acc env)))
  (turn:∀i,i<n->∃τ,Me G m' e target st it acc (S i) τ/\fz m' τ (S (i+1))) (last:fV G it (S n) σ2):cW G m e (λit acc env=>.compLoop (.ListComp elt gens scope pos) q it acc env) it acc (S 0) σ2:=by
 intro α s env a b R i g ha C_ hR;refine codeAny_loop rfl (λk s'=>∃j δ,k=n-j/\j<=n/\z0 m' α s.heap δ s'.heap/\GS G δ (S j) s') ?_ n ⟨0,α,rfl,aW _,qt.refl _ _,g⟩;intro k s' vQ;refine tm (vQ) λj δ oS hj le g'=>?_;obtain rfl:=oS;show ay _ _ ((ki (.ListComp elt gens scope pos) q (.ref a) (.ref b) env).onRaise (λx=>do noteFrame x env;theTreesLotGoes x)) _ _ s';refine wpAny_noted ?_;rw[VJ];unfold ka;have i':=i.oq le hb;have qZ:=le.le _ hit _ ha;refine aa (dQ (aa ?_));by_cases ij:j<n
 ·refine aH (turn j ij) λτ MU h4=>?_
  obtain⟨c,τ1,tj,h1,h2,h3⟩:=MU;refine wQ (h1 δ s' a _ g' qZ) ?_;intro _ s1 Nf;refine aH (Nf) λv MQ k=>?_;obtain rfl:=MQ;refine aa (wQ (k _) ?_);rintro _ s2 ⟨β,x,g2,r⟩;refine aa (Ib (h2 β s2 env _ v (i'.mono x) g2 r) λγ s3 y g3=>?_);have xy:=x.trans y;refine aa (wQ (h3 γ s3 env b _ (i'.mono xy) g3 (xy.le _ trivial _ (le.le _ Ya _ C_))) ?_);rintro _ s4 ⟨ε,z,g4,_⟩;refine aH (h4 G ε s4 g4) λζ z2 g5=>?_;exact ag ⟨rfl,n-(j+1),Nat.sub_lt_sub_left ij (bg j),j+1,ζ,rfl,ij,((le.trans xy.mL).trans z).trans z2,g5⟩
 ·obtain rfl:j=n:=Nat.le_antisymm hj (iC ij)
  refine wQ (last δ s' a _ g' qZ) ?_;rintro _ s4 ⟨ε,z,g4,rfl⟩;exact ag (hR s4 ⟨ε,(le.sub λk h=>aA h hm).trans z.mL,g4,rfl⟩)
section
variable{prog:dW}{w:dj}{A:b_}{R:Result->aq->Prop}{s:aq}
theorem BG{gens:List cg}{d: Nat}{it acc: af}{env: Env}{g:cg}(hg:gens[d]?=some g)(ha:g.is_async=0)
  (h0:codeAny (aZ prog w) A (.compLoop (.ListComp elt gens scope pos) d it acc env) R s)
  (h:ay (aZ prog w) A (fN it) (λZ4 s'=>codeAny (aZ prog w) A (.compLoop (.ListComp elt gens scope pos) d Z4 acc env) R s') (notedBy (aZ prog w) A env λx s'=>R (.error x) s') s):
  codeAny (aZ prog w) A (.compStart (.ListComp elt gens scope pos) d it acc env) R s:=by
 have hg:(clausesOf (.ListComp elt gens scope pos))[d]?=some g:=hg;refine codeAny_of_tree ?_;show ay _ _ ((compStart (.ListComp elt gens scope pos) d it acc env).onRaise (λx=>do noteFrame x env;fR theWindowsPlace)) _ _ s;refine wpAny_notedAt ?_;unfold compStart;rw[hg];simp only[Option.elim,ha];show ay _ _ (ask >>= _) _ _ s;refine aa (wpAny_askSetting (wpAny_ite ?_))
 split
 ·first
   |exact aa (ag (ag (And.intro rfl h0)))
   |exact ag (And.intro rfl h0)
 ·first
   |exact aa (eZ (aa (dQ (aa (df h (λZ4 s' h'=>ag (And.intro rfl h')) λzz zz x=>x)))))
   |(refine aa (eZ ?_);exact aa (dQ (aa (df h (λZ4 s' h'=>ag (And.intro rfl h')) λzz zz x=>x))))
end
theorem cW.start{gens:List cg}{g:cg}(hg:gens[q]?=some g)(ha:g.is_async=0)(self:d0 G fN (.ref it) σ (.ref it) σ)
  (h:cW G m e (λit acc env=>.compLoop (.ListComp elt gens scope pos) q it acc env) it acc σ σ1):cW G m e (λit acc env=>.compStart (.ListComp elt gens scope pos) q it acc env) it acc σ σ1:=by
 intro α s env a b R i g0 qZ hb hR;refine BG hg ha (h α s env a b R i g0 qZ hb hR) (Lc (self α s (.ref a) _ g0 ⟨a,rfl,qZ⟩) λβ a2 s1 x g1 Ko=>?_);exact h β s1 env a2 b R (i.mono x) g1 Ko (x.le _ trivial _ hb) λs' w=>hR s' (w.trans x.mL)
noncomputable def oB(e:Env):List (Str×NameKind)->List (Str×Nat)->Option (List (Str×Nat))
 |[],acc=>some acc
 |(n,k)::r,acc=>match k==.free with
  |true=>match e.cells.lookup n with
   |some a=>oB e r ((n,a)::acc)
   |none=>none
  |false=>oB e r acc
theorem KD{α e env}(i:EI α e env){cl: List (Str×Nat)}:∀(names:List (Str×NameKind)) {acc:List (Str×Nat)}{ac:List (Str×Nat)},jm α acc ac->oB e names acc=some cl ->
  ∃c,(forIn names ac λ(p:Str×NameKind) r=>if(p.2==NameKind.free)=true then do let a ←cellOf env p.1;pure (dD ((p.1,a)::r))else pure (dD r):Sem (List (Str×Addr)))=pure c/\jm α cl c:=by
 intro names
 induction names with
 |nil=>intro acc ac h q;cases q;exact⟨ac,rfl,h⟩
 |cons p names ih =>
  obtain⟨n,k⟩:=p;intro acc ac h q;unfold oB at q;rw[c8];cases z:k==NameKind.free with
  |false =>
   rw[z]at q;refine aH (ih h q) λc h1 h2=>?_;exact⟨c,by rw[if_neg aJ,pure_bind];exact h1,h2⟩
  |true =>
   rw[z]at q;cases z2:e.cells.lookup n with
   |none=>rw[z2]at q;cases q
   |some a =>
    rw[z2]at q;refine aH (i.cells _ _ z2) λb hb hf=>?_;refine aH (ih (acc:=(n,a)::acc) (ac:=(n,b)::ac) ⟨b,ac,rfl,hf,h⟩ q) λc h1 h2=>?_;refine⟨c,?_,h2⟩;rw[if_pos rfl,bind_assoc,show cellOf env n=pure b by unfold cellOf;rw[hb],pure_bind,pure_bind];exact h1
end
section
variable{G:Gv}{m:Nat}{e:Env}{σ σ1 σ2 σ3 pL τ:St}{a b c d:CV}{f:CF}{cs ks:List CV}{x y:Str}{target iter elt:Expr}{p pos:Pos}{it acc i l:Nat}{scope:iK}{cl:List (Str×Nat)}
noncomputable def Bh(scope:iK)(cl:List (Str×Nat))(C:Nat)(e:Env):Env:=compEnvC scope cl C e
theorem EI.comp{α e env cl c C a}(i:EI α e env)(hc:jm α cl c)(ha:α.f C=some a):EI α (Bh scope cl C e) (compEnvC scope c a env):=by
 refine⟨ha,hc.og,?_,i.globals,i.builtins,i.qual,i.code⟩;show relabel scope env=relabel scope e;unfold relabel;rw[i.scope];refine congrArg (λz=>{scope with names:=z}) (dN λq zz=>?_);obtain⟨n,k⟩:=q;dsimp only;rw[i.kindOf]
theorem vm{α e env cl}(i:EI α e env)(h:oB e scope.names []=some cl):∃c,closureFor scope env=pure c/\jm α cl c:=by
 obtain⟨c,h1,h2⟩:=KD i scope.names (acc:=[]) (ac:=[]) rfl h;exact⟨c,by unfold closureFor;exact(bind_pure _).trans h1,h2⟩
noncomputable def jL(scope:iK):Bool:=scope.kind==.function&&scope.names.all λq=>q.2 != .cell&&(q.2 != .local || scope.names.lookup q.1==some .local)
theorem jL.ok(h:jL scope=true):scope.kind=.function/\(∀q∈scope.names,q.2=.local->scope.names.lookup q.1=some .local)/\∀q∈scope.names,q.2≠.cell:=by
 unfold jL at h;rw[aK]at h;have k:=List.all_eq_true.mp h.2;refine⟨beq_iff_eq.mp h.1,λq hq hl=>?_,λq hq hc=>?_⟩
 ·have:=k q hq
  rw[aK,Bool.or_eq_true]at this;rcases this.2 with z|z
  ·rw[hl]at z;cases z
  ·exact beq_iff_eq.mp z
 ·have:=k q hq
  rw[hc,aK]at this;cases this.1
theorem GS.LV{α s C a h'}(g:GS G α σ s){mm}(e:σ.get C=some (.frame mm))(ha:α.f C=some a)(hs:Heap.SameBut a s.heap h'):∃β,Le α s.heap β h'/\GS G β (σ.del C) {s with heap:=h'}:=by
 obtain⟨β,x,g',_⟩:=g.gone e ha hs.extBut s.toks;exact⟨β,x,g'⟩
theorem ua{t0 i0: Expr}{r_: List Expr}{gs:List cg}{use:Option (af->Sem Unit)}{Zg: Pos}{α s env E}{Q:af->aq->Prop}{M: Nat}(hS:jL scope=true)(hc:oB e scope.names []=some cl)
  (h1:aV G e i0 σ c σ1) (h2:d0 G fN c σ1 (.ref it) σ2) (hM:σ2.n+1<M) (h3:cW G M (Bh scope cl (σ2.n+1) e) (λit acc env=>.compStart (.ListComp elt (⟨t0,i0,r_,0⟩::gs) scope pos) 0 it acc env) it σ2.n ((σ2.push (.list [])).push (.frame [])) σ3)
  (hs:∀env x,gd i0 env x=bA x) (i:EI α e env) (g:GS G α σ s)
  (done:∀β s' ac C,Le α s.heap β s'.heap->GS G β σ3 s'->β.f σ2.n=some ac->β.f (σ2.n+1)=some C->compPost G.M G.A E use Q (.ref ac) C (.ok .next) s'):
  ay G.M G.A (comprehension (.ListComp elt (⟨t0,i0,r_,0⟩::gs) scope pos) scope env Zg (newList []) false (eval i0 env) use) Q E s:=by
 refine ri (jL.ok hS) λhk hn nE=>?_;refine aH (vm i hc) λc G3 G4=>?_;refine wpAny_comprehension_free (g:=⟨t0,i0,r_,0⟩) (gs:=gs) rfl (hs env) G3 hk hn (use:=use) ?_;refine jb (h1 α s env E i g) λβ v s1 x g1 r1=>?_;refine Lc (h2 β s1 v E g1 r1) λγ a s2 y g2 ha=>?_;refine dR ?_ (aW _);have t3:=g2.push (ao:=.list []) (o:=kE [] 0) (λle=>⟨[],0,aM _ rfl,rfl⟩) s2.toks;refine wpAny_newFunctionEnv nE (by intro y hy;cases hy) (λh4 qi XU=>?_) hk;have t4:=t3.2.more (h':=h4) (ao:=.frame []) (λb o eb=>XU.extBut b o (cR (bJ eb)) (aw _ eb)) (eG _) (λle=>⟨_,qi,λx c hx=>(nomatch hx)⟩) (s2.toks+([]:List (Str×af)).length);have z:=(((x.trans y).trans t3.1).trans t4.1);have yi:=t3.1.trans t4.1;have Ya:=t4.1.le σ2.n trivial _ (AM.d7 γ σ2.n s2.heap.objs.size);have hC:=AM.d7 (γ.add σ2.n s2.heap.objs.size) (σ2.n+1) (s2.heap.push (kE [] 0)).objs.size;refine h3 _ _ _ a s2.heap.objs.size _ ((i.mono z).comp (G4.mono λk=>z.le k trivial) hC) t4.2 (yi.le _ trivial _ ha) Ya ?_;rintro s' ⟨δ,w,g5,_⟩;refine done δ s' _ _ (z.trans' w λk b zz e=>w.le k ?_ b (z.le k trivial b e)) g5 (w.le _ (iA (bg _) hM) _ Ya) (w.le _ hM _ hC);cases iB k σ2.n with
 |inl q=>exact iA (eI q) hM
 |inr q=>have:=g2.new k q;rw[(x.trans y).le k trivial b e]at this;cases this
theorem aV.comp{t0 i0: Expr}{r_: List Expr}{gs:List cg}{mm}(M:Nat)(hS:jL scope=true)(hc:oB e scope.names []=some cl)
  (h1:aV G e i0 σ c σ1) (h2:d0 G fN c σ1 (.ref it) σ2) (hM:σ2.n+1<M) (h3:cW G M (Bh scope cl (σ2.n+1) e) (λit acc env=>.compStart (.ListComp elt (⟨t0,i0,r_,0⟩::gs) scope pos) 0 it acc env) it σ2.n ((σ2.push (.list [])).push (.frame [])) σ3)
  (h4:σ3.get (σ2.n+1)=some (.frame mm)) (hs:∀env x,gd i0 env x=bA x:=by intro _ _;rfl):aV G e (.ListComp elt (⟨t0,i0,r_,0⟩::gs) scope pos) σ (.ref σ2.n) (σ3.del (σ2.n+1)):=by
 intro α s env E i g;rw[eval_ListComp];refine ua (use:=bB) hS hc h1 h2 hM h3 hs i g λβ s' ac C x g' ha hC=>?_;refine c_ λj7 ef=>?_;obtain⟨C',hC',mf,qi,_⟩:=g'.own _ _ h4;cases hC.symm.trans hC';refine ef ?_;refine⟨mf,qi,λh' uQ=>?_⟩;refine aH (g'.LV h4 hC uQ) λδ y g5=>?_;exact⟨δ,x.trans y,g5,ac,rfl,y.le _ trivial _ ha⟩
theorem SS.nY{t0 i0: Expr}{r_: List Expr}{gs:List cg}{mm}{yp TG: Pos}(M:Nat)(hS:jL scope=true)(hc:oB e scope.names []=some cl)
  (h1:aV G e i0 σ c σ1) (h2:d0 G fN c σ1 (.ref it) σ2) (hM:σ2.n+1<M) (h3:cW G M (Bh scope cl (σ2.n+1) e) (λit acc env=>.compStart (.ListComp elt (⟨t0,i0,r_,0⟩::gs) scope pos) 0 it acc env) it σ2.n ((σ2.push (.list [])).push (.frame [])) σ3)
  (h5:fg G e y (.ref σ2.n) σ3 pL) (h4:pL.get (σ2.n+1)=some (.frame mm)) (hsw:∀env:Env,env.scope=e.scope->swapsWith (.ListComp elt (⟨t0,i0,r_,0⟩::gs) scope pos) (some (.Name y yp)) TG.line env=bA true)
  (hs:∀env x,gd i0 env x=bA x:=by intro _ _;rfl):SS G m e (.Assign [.Name y yp] (.ListComp elt (⟨t0,i0,r_,0⟩::gs) scope pos) TG) σ .next (pL.del (σ2.n+1)):=by
 intro α s env E i g;rw[exec_Assign_Name_used _ _ _ _ (hsw env i.scope)];refine aa (dQ (aa ?_));show ay _ _ (comprehension (.ListComp elt (⟨t0,i0,r_,0⟩::gs) scope pos) scope env _ (newList []) false (eval i0 env) (some (ik (.Name y yp) env)) >>= λzz=>bA ()) _ _ _;refine aa (ua (use:=some (ik (.Name y yp) env)) hS hc h1 h2 hM h3 hs i g λβ s' ac C x g' ha hC=>?_);refine wpAny_assign_Name (Ib (h5 β s' env E (.ref ac) (i.mono x) g' ⟨ac,rfl,ha⟩) λγ s5 y g5=>?_);refine c_ λj7 ef=>?_;obtain⟨C',hC',mf,qi,_⟩:=g5.own _ _ h4;have hC5:=y.le _ trivial _ hC;cases hC5.symm.trans hC';refine ef ?_;refine⟨mf,qi,λh' uQ=>?_⟩;refine aH (g5.LV h4 hC5 uQ) λδ z g6=>?_;exact ag (ag ⟨δ,((x.trans y).trans z).mL,g6,rfl⟩)
theorem D4(elt target iter c:Expr)(scope:iK)(pos:Pos)(it acc:af)(env:Env):
  ki (.ListComp elt [⟨target,iter,[c],0⟩] scope pos) 0 it acc env=(fR iter.pos >>= λzz=>jJ it >>= λr=>match r with
   |none=>pure (.done .next)
   |some v=>fc target it v >>= λzz=>ik target env v >>= λzz =>
    (forIn [c] true λc r=>if r=true then do let ok ←PySem.isTrue c env (eval c env);pure (dD ok)else pure (dD r)) >>= λok =>
    (if ok=true then kV elt acc env >>= λzz =>
     again (.compLoop (.ListComp elt [⟨target,iter,[c],0⟩] scope pos) 0 it acc env)else again (.compLoop (.ListComp elt [⟨target,iter,[c],0⟩] scope pos) 0 it acc env))):=by rfl
theorem mK(elt target iter:Expr)(scope:iK)(pos:Pos)(it acc:af)(env:Env):
  ki (.ListComp elt [⟨target,iter,[],0⟩] scope pos) 0 it acc env=ka target iter it env (kV elt acc env) (again (.compLoop (.ListComp elt [⟨target,iter,[],0⟩] scope pos) 0 it acc env)):=by rfl
theorem tu(c:Expr)(st:af->Env->Sem Unit)(acc:af)(env:Env)(back:Sem Fin):
  ((forIn [c] true λc r=>if r=true then do let ok ←PySem.isTrue c env (eval c env);pure (dD ok)else pure (dD r)) >>= λok=>(if ok=true then st acc env >>= λzz=>back else back))=(pQ c st acc env >>= λzz=>back):=by
 unfold pQ;rw[c8,bind_assoc,bind_assoc,if_pos rfl,bind_assoc]
 congr 1;funext ok
 rw[pure_bind];dsimp only;rw[List.forIn_nil,pure_bind];cases ok
 ·rw[if_neg aJ,if_neg aJ,pure_bind]
 ·rw[if_pos rfl,if_pos rfl]
theorem D5(elt target iter c:Expr)(scope:iK)(pos:Pos)(it acc:af)(env:Env):
  ki (.ListComp elt [⟨target,iter,[c],0⟩] scope pos) 0 it acc env=ka target iter it env (pQ c (kV elt) acc env) (again (.compLoop (.ListComp elt [⟨target,iter,[c],0⟩] scope pos) 0 it acc env)):=by
 rw[D4];unfold ka
 congr 1;funext _;congr 1;funext r
 cases r with
 |none=>rfl
 |some v =>
  dsimp only
  congr 1;funext _;congr 1;funext _
  exact tu c (kV elt) acc env _
theorem Nz(elt target iter:Expr)(g:cg)(scope:iK)(pos:Pos)(it acc:af)(env:Env):
  ki (.ListComp elt [g,⟨target,iter,[],0⟩] scope pos) 1 it acc env=ka target iter it env (kV elt acc env) (again (.compLoop (.ListComp elt [g,⟨target,iter,[],0⟩] scope pos) 1 it acc env)):=by rfl
theorem D3(elt target iter c:Expr)(g:cg)(scope:iK)(pos:Pos)(it acc:af)(env:Env):
  ki (.ListComp elt [g,⟨target,iter,[c],0⟩] scope pos) 1 it acc env=(fR iter.pos >>= λzz=>jJ it >>= λr=>match r with
   |none=>pure (.done .next)
   |some v=>fc target it v >>= λzz=>ik target env v >>= λzz =>
    (forIn [c] true λc r=>if r=true then do let ok ←PySem.isTrue c env (eval c env);pure (dD ok)else pure (dD r)) >>= λok =>
    (if ok=true then kV elt acc env >>= λzz =>
     again (.compLoop (.ListComp elt [g,⟨target,iter,[c],0⟩] scope pos) 1 it acc env)else again (.compLoop (.ListComp elt [g,⟨target,iter,[c],0⟩] scope pos) 1 it acc env))):=by rfl
theorem Ny(elt target iter c:Expr)(g:cg)(scope:iK)(pos:Pos)(it acc:af)(env:Env):
  ki (.ListComp elt [g,⟨target,iter,[c],0⟩] scope pos) 1 it acc env=ka target iter it env (pQ c (kV elt) acc env) (again (.compLoop (.ListComp elt [g,⟨target,iter,[c],0⟩] scope pos) 1 it acc env)):=by
 rw[D3];unfold ka
 congr 1;funext _;congr 1;funext r
 cases r with
 |none=>rfl
 |some v =>
  dsimp only
  congr 1;funext _;congr 1;funext _
  exact tu c (kV elt) acc env _
theorem Lf(elt t0 i0:Expr)(target iter:Expr)(Z9:List Expr)(scope:iK)(pos:Pos)(it acc:af)(env:Env):
  ki (.ListComp elt [⟨t0,i0,[],0⟩,⟨target,iter,Z9,0⟩] scope pos) 0 it acc env=ka t0 i0 it env (nextOf (.ListComp elt [⟨t0,i0,[],0⟩,⟨target,iter,Z9,0⟩] scope pos) 1 iter acc env) (again (.compLoop (.ListComp elt [⟨t0,i0,[],0⟩,⟨target,iter,Z9,0⟩] scope pos) 0 it acc env)):=by
 unfold ka nextOf;simp only[bind_assoc,pure_bind];rfl
end
section
set_option backward.match.sparseCases false
mutual
noncomputable def l_(r:Nat->Nat):CV->CV
 |.none=>.none
 |.bool b=>.bool b
 |.int i=>.int i
 |.str x=>.str x
 |.val v=>.val v
 |.ref k=>.ref (r k)
 |.tup l=>.tup (cV r l)
noncomputable def cV(r:Nat->Nat):List CV->List CV
 |[]=>[]
 |c::cs=>l_ r c::cV r cs
end
noncomputable def U0(r:Nat->Nat):AO->AO
 |.list xs=>.list (cV r xs)
 |.cell c=>.cell (c.map (l_ r))
 |.i6 l i=>.i6 (r l) i
 |.qj j i=>.qj (r j) i
 |.zip i j=>.zip (r i) (r j)
 |.pr i j=>.pr (r i) (r j)
 |.cX C d xs=>.cX C (r d) (cV r xs)
 |.fn g=>.fn {g with clos:=g.clos.map λp=>(p.1,r p.2)}
 |o=>o
structure K5(r:Nat->Nat)(α β:AM):Prop where
 f:∀k a,α.f (r k)=some a->β.f k=some a
 t:∀a,α.off a->¬α.R a->β.off a/\¬β.R a
section
variable{G:Gv}{α β:AM}{r:Nat->Nat}{h:Heap}{σ:St}{i k m n:Nat}{ao':AO}
mutual
theorem VR.sV{r:Nat->Nat}(x:K5 r α β):∀(c:CV) {v:af},VR α h (l_ r c) v->VR β h c v
 |.none,_,q=>q
 |.bool _,_,q=>q
 |.int _,_,q=>q
 |.str _,_,q=>q
 |.val _,_,q=>q
 |.ref k,_,q=>q.imp λa q=>⟨q.1,x.f _ _ q.2⟩
 |.tup l,_,q=>by obtain⟨a,vs,n,e,f,u,g,q⟩:=q;exact⟨a,vs,n,e,(x.t a f u).1,(x.t a f u).2,g,dq.sV x l q⟩
theorem dq.sV{r:Nat->Nat}(x:K5 r α β):∀(cs:List CV) {vs:List af},dq α h (cV r cs) vs->dq β h cs vs
 |[],_,q=>q
 |c::cs,_,q=>by obtain⟨v,ws,e,u,q⟩:=q;exact⟨v,ws,e,VR.sV x c u,dq.sV x cs q⟩
end
theorem jm.sV(x:K5 r α β){l: List (Str×Nat)}:∀{cs},jm α (l.map λp=>(p.1,r p.2)) cs->jm β l cs:=by
 induction l with
 |nil=>exact λe=>e
 |cons p l ih=>rintro _ ⟨a,ds,e,h,q⟩;exact⟨a,ds,e,x.f _ _ h,ih q⟩
theorem jV.sV(x:K5 r α β){cv q}(c:jV α h cv q):jV β h cv q:=⟨c.1,λa e=>x.t a (c.2 a e).1 (c.2 a e).2⟩
def C6(r:Nat->Nat)(m:List (Str×CV)):List (Str×CV)->Prop
 |[]=>True
 |(x,c)::l=>m.lookup x=some (l_ r c)/\C6 r m l
theorem C6.look{m: List (Str×CV)}{x: Str}{c: CV}:∀{m':List (Str×CV)},C6 r m m'->m'.lookup x=some c->m.lookup x=some (l_ r c):=by
 intro m'
 induction m' with
 |nil=>exact λzz h=>nomatch h
 |cons p m' ih =>
  obtain⟨y,d⟩:=p;intro q h;rw[aR]at h;cases z:x==y with
  |true=>rw[z]at h;cases h;rw[beq_iff_eq.mp z];exact q.1
  |false=>rw[z]at h;exact ih q.2 h
def jt(r:Nat->Nat)(ao:AO):AO->Prop
 |.frame m'=>∃m,ao=.frame m/\C6 r m m'
 |.any=>True
 |o=>ao=U0 r o
theorem OI.sV(x:K5 r α β){a: Nat}{ao: AO}(q:jt r ao ao')(o:OI G α h a ao):OI G β h a ao':=by
 cases ao' with
 |frame m' =>
  obtain⟨m,rfl,q⟩:=q;obtain⟨mf,n,k⟩:=o;refine⟨mf,n,λy c hx=>?_⟩;refine aH (k y _ (q.look hx)) λv hv w=>?_;exact⟨v,hv,w.sV x⟩
 |any=>exact o.live
 |list xs=>cases q;obtain⟨vs,n,e,w⟩:=o;exact⟨vs,n,e,w.sV x⟩
 |cell c =>
  cases q;refine kK (o) λv ic n w=>?_;refine⟨v,ic,λhc=>n (by rw[hc];rfl),λd hd=>?_⟩;refine aH (w (l_ r d) (by rw[hd];rfl)) λu hu w=>?_;exact⟨u,hu,w.sV x⟩
 |gQ i j k=>cases q;exact o
 |i6 l i=>cases q;exact o.imp λb o=>⟨x.f _ _ o.1,o.2⟩
 |itR i j k=>cases q;exact o
 |nU y i=>cases q;exact o
 |qj it i=>cases q;obtain⟨b,old,hb,e⟩:=o;exact⟨b,old,x.f _ _ hb,e⟩
 |zip i j=>cases q;obtain⟨b,c,h1,h2,e⟩:=o;exact⟨b,c,x.f _ _ h1,x.f _ _ h2,e⟩
 |pr i j=>cases q;obtain⟨b,c,h1,h2,e⟩:=o;exact⟨b,c,x.f _ _ h1,x.f _ _ h2,e⟩
 |two=>cases q;exact o
 |cX C d xs=>cases q;obtain⟨b,vs,n,hb,e,w⟩:=o;exact⟨b,vs,n,x.f _ _ hb,e,w.sV x⟩
 |size k=>cases q;exact o
 |bare=>cases q;exact o
 |xN f=>cases q;exact o
 |tab P t=>cases q;obtain⟨p,ps,e,t,k⟩:=o;exact⟨p,ps,e,t,λpos cv hc=>(k pos cv hc).sV x⟩
 |fn g=>cases q;obtain⟨o,cl,pm,cv,vg,e,d,c,k⟩:=o;exact⟨o,cl,pm,cv,vg,e,d,c.sV x,k.sV x⟩
end
noncomputable def eE:List (Nat×Nat)->Nat->Nat->Nat
 |[],_,d=>d
 |(k,j)::l,i,d=>match aU i k with
  |true=>j
  |false=>eE l i d
noncomputable def pX(m d:Nat)(l:List (Nat×Nat))(k:Nat):Nat:=match a9 k m with
 |true=>k
 |false=>eE l k d
def vH(r:Nat->Nat)(σ:St):List (Nat×AO)->Prop
 |[]=>True
 |(k,ao')::l=>(∃ao,σ.get (r k)=some ao/\jt r ao ao')/\vH r σ l
theorem vH.look{r:Nat->Nat}:∀{l:List (Nat×AO)},vH r σ l->cL l k=some ao'->∃ao,σ.get (r k)=some ao/\jt r ao ao':=by
 intro l
 induction l with
 |nil=>exact λzz h=>nomatch h
 |cons p l ih =>
  obtain⟨i,o⟩:=p;intro q h;unfold cL at h;cases z:aU k i with
  |true=>rw[z]at h;cases h;rw[aO z];exact q.1
  |false=>rw[z]at h;exact ih q.2 h
noncomputable def hV(m n:Nat):List (Nat×Nat)->Bool
 |[]=>true
 |(k,j)::l=>a9 k n&&dv m j&&(l.all λp=>!(aU p.2 j))&&hV m n l
theorem mz{d: Nat}:∀{l:List (Nat×Nat)},hV m n l=true->eE l i d=d∨(i,eE l i d)∈l/\i<n/\m<=eE l i d:=by
 intro l
 induction l with
 |nil=>exact λzz=>.inl rfl
 |cons p l ih =>
  obtain⟨k,j⟩:=p;intro h;unfold hV at h;rw[aK,aK,aK]at h;unfold eE;cases z:aU i k with
  |true =>
   cases aO z;exact .inr ⟨.head _,Nat.blt_eq.mp h.1.1.1,a_ h.1.1.2⟩
  |false=>exact(ih h.2).imp id λq=>⟨.tail _ q.1,q.2⟩
theorem nR{j: Nat}:∀{l:List (Nat×Nat)},hV m n l=true->(i,j)∈l->(k,j)∈l->i=k:=by
 intro l
 induction l with
 |nil=>exact λzz h=>nomatch h
 |cons p l ih =>
  obtain⟨q,u⟩:=p;intro h h1 h2;unfold hV at h;rw[aK,aK,aK]at h;have no:∀{w},(w,j)∈l->j=u->False:=λhw e=>by
   have:=List.all_eq_true.mp h.1.2 _ hw;rw[e,bL]at this;cases this
  rcases List.mem_cons.mp h1 with e1|g1
  ·rcases List.mem_cons.mp h2 with e2|g2
   ·cases e1;cases e2;rfl
   ·cases e1;exact(no g2 rfl).elim
  ·rcases List.mem_cons.mp h2 with e2|g2
   ·cases e2;exact(no g1 rfl).elim
   ·exact ih h.2 g1 g2
theorem fz.mk{objs: List (Nat×AO)}(l:List (Nat×Nat))(hm:dv m n=true)(hl:hV m n l=true)(h:vH (pX m σ.n l) σ objs):fz m σ ⟨objs,n⟩:=by
 intro G α s g;have lr:α.f σ.n=none:=g.new _ (aG _);have cs:∀k,(k<m/\pX m σ.n l k=k)∨(m<=k/\(pX m σ.n l k=σ.n∨(k,pX m σ.n l k)∈l/\k<n/\m<=pX m σ.n l k)):=λk=>by
  unfold pX;cases z:a9 k m with
  |true=>exact .inl ⟨Nat.blt_eq.mp z,rfl⟩
  |false=>exact .inr ⟨iC λq=>(by rw[Nat.blt_eq.mpr q]at z;cases z),mz hl⟩
 have rr:K5 (pX m σ.n l) α ⟨λk=>α.f (pX m σ.n l k),α.O,α.R⟩:=⟨λzz zz e=>e,λzz f u=>⟨f,u⟩⟩;refine⟨⟨λk=>α.f (pX m σ.n l k),α.O,α.R⟩,⟨λk lt a e=>?_,λa e=>.inl e,rfl,λzz zz zz e=>e⟩,λk ao e=>?_,λk ao a e ha=>?_,g.base,λj k ao ao' a e1 e2 h1 h2=>?_,λk hk=>?_,g.lt,g.pW,g.os,g.bare⟩
 ·rcases cs k with⟨_,q⟩|⟨q,_⟩
  ·show α.f (pX m σ.n l k)=some a;rw[q];exact e
  ·exact absurd lt (Nat.not_lt.mpr q)
 ·refine aH (h.look e) λo ho q=>?_
  refine aH (g.own _ _ ho) λa ha r=>?_;exact⟨a,ha,r.sV rr q⟩
 ·refine aH (h.look e) λo ho q=>?_
  exact g.ow _ _ _ ho ha
 ·refine aH (h.look e1) λo1 q1 zz=>?_
  refine aH (h.look e2) λo2 q2 zz=>?_;have h1:α.f (pX m σ.n l j)=some a:=h1;have h2:α.f (pX m σ.n l k)=some a:=h2;have e:=g.inj _ _ _ _ _ q1 q2 h1 h2;rcases cs j with⟨a1,b1⟩|⟨a1,b1⟩
  ·rcases cs k with⟨a2,b2⟩|⟨a2,b2|b2⟩
   ·rw[←b1,←b2];exact e
   ·rw[b2,lr]at h2;cases h2
   ·rw[b1]at e;rw[←e]at b2;exact absurd a1 (Nat.not_lt.mpr b2.2.2)
  ·rcases b1 with b1|b1
   ·rw[b1,lr]at h1;cases h1
   ·rcases cs k with⟨a2,b2⟩|⟨a2,b2|b2⟩
    ·rw[b2]at e;rw[e]at b1;exact absurd a2 (Nat.not_lt.mpr b1.2.2)
    ·rw[b2,lr]at h2;cases h2
    ·rw[e]at b1;exact nR hl b1.1 b2.1
 ·rcases cs k with⟨a1,_⟩|⟨_,b1|b1⟩
  ·exact absurd (ak (a_ hm) hk) (Nat.not_le.mpr a1)
  ·show α.f (pX m σ.n l k)=none;rw[b1];exact lr
  ·exact absurd hk (Nat.not_le.mpr b1.2.1)
theorem y9(r:Nat->Nat)(ns:List Int):cV r (ns.map .int)=ns.map .int:=by
 induction ns with
 |nil=>rfl
 |cons n ns ih=>exact congrArg (CV.int n::·) ih
theorem av{r:Nat->Nat}{ns: List Int}:jt r (.list (ns.map .int)) (.list (ns.map .int)):=congrArg AO.list (y9 r ns).symm
end
section
open Classical in
noncomputable def oN(h:Heap)(P:Nat->Prop):Heap:=⟨h.objs.mapIdx λi o=>if P i then {o with data:=.freed}else o,h.life⟩
open Classical in
theorem fe{h:Heap}{P:Nat->Prop}{b:Nat}{o:Obj}:(oN h P).get? b=some o ↔ ¬P b/\h.get? b=some o:=by
 unfold oN;rw[Heap.get?_some_iff,Heap.get?_some_iff];dsimp only;rw[Array.getElem?_mapIdx];by_cases p:P b
 ·refine⟨λq=>?_,λq=>absurd p q.1⟩
  rw[show(λo:Obj=>if P b then {o with data:=.freed}else o)=λo=>{o with data:=.freed}from funext λo=>if_pos p]at q;obtain⟨q,f⟩:=q;cases e:h.objs[b]? with
  |none=>rw[e]at q;cases q
  |some u=>rw[e]at q;cases q;cases f
 ·rw[show(λo:Obj=>if P b then {o with data:=.freed}else o)=id from funext λo=>if_neg p,Option.map_id]
  exact⟨λq=>⟨p,q⟩,λq=>q.2⟩
noncomputable def ext(G:Gv)(h:Heap):Gv:={G with h₀:=h}
theorem OI.ext{G:Gv}{h₀:Heap}{α h a ao}(r:OI G α h a ao):OI (Mine.ext G h₀) α h a ao:=by cases ao<;>exact r
theorem OI.Tj{G:Gv}{h₀:Heap}{α h a ao}(r:OI (Mine.ext G h₀) α h a ao):OI G α h a ao:=by cases ao<;>exact r
noncomputable def dY(l:List (Nat×Nat)):List (Nat×Nat):=l.map λp=>(p.2,p.1)
structure Pass(σ τ0 τ1:St)(l l2:List (Nat×Nat))(σ':St):Prop where
 a:hV 0 τ0.n (dY l)=true
 b:(l.all λp=>(τ0.get p.2).isSome&&a9 p.1 σ.n)=true
 c:hV 0 σ'.n (l++l2)=true
 d:(l2.all λp=>dv σ.n p.1)=true
 e:dv σ.n σ'.n=true
 into:vH (λj=>eE (dY l) j σ.n) σ τ0.objs
 out:∀k ao,σ'.get k=some ao->((∀j,(k,j) ∉ l)/\σ.get k=some ao)∨∃o,τ1.get (eE (l++l2) k τ1.n)=some o/\jt (λk=>eE (l++l2) k τ1.n) o ao
theorem pY{l:List (Nat×Nat)}{j d:Nat}:eE (dY l) j d=d∨(eE (dY l) j d,j)∈l:=by
 induction l with
 |nil=>exact .inl rfl
 |cons p l ih =>
  obtain⟨k,i⟩:=p;have e:eE (dY ((k,i)::l)) j d=match aU j i with|true=>k|false=>eE (dY l) j d:=rfl
  rw[e];cases z:aU j i with
  |true=>cases aO z;exact .inr (.head _)
  |false=>exact ih.imp id λq=>.tail _ q
theorem Aq{l:List (Nat×Nat)}{k j m n d:Nat}(h:hV m n (dY l)=true)(q:(k,j)∈l)(u:∀i,(i,j)∈l->i=k):eE (dY l) j d=k:=by
 induction l with
 |nil=>cases q
 |cons p l ih =>
  obtain⟨k',i⟩:=p;have e:eE (dY ((k',i)::l)) j d=match aU j i with|true=>k'|false=>eE (dY l) j d:=rfl
  rw[e];cases z:aU j i with
  |true=>cases aO z;exact u _ (.head _)
  |false =>
   rcases List.mem_cons.mp q with e|q
   ·cases e;rw[bL]at z;cases z
   ·refine ih ?_ q λi hi=>u i (.tail _ hi)
    have h:hV m n ((i,k')::dY l)=true:=h;unfold hV at h;rw[aK]at h;exact h.2
variable{G:Gv}{σ τ0 τ1:St}{c c0:CV}{cs ks cs0 ks0:List CV}{l l2:List (Nat×Nat)}{σ':St}{j k:Nat}
theorem pJ.pass{C C0:AM->Prop}{f:List af->List af->Sem af}(P:Pass σ τ0 τ1 l l2 σ')(hC:∀α yf:AM,C α->(∀j,yf.f j=α.f (eE (dY l) j σ.n))->C0 yf)(spec:∀h₀,(∀b o,G.h₀.get? b=some o->h₀.get? b=some o)->pJ (ext G h₀) C0 f cs0 ks0 τ0 c0 τ1)
  (sf:cs=cV (λj=>eE (dY l) j σ.n) cs0) (Ki:ks=cV (λj=>eE (dY l) j σ.n) ks0)
  (hr:c0=l_ (λk=>eE (l++l2) k τ1.n) c):pJ G C f cs ks σ c σ':=by
 intro α s vs ws E aaC g rv Y_
 let u:Nat->Nat:=λj=>eE (dY l) j σ.n
 let O':Nat->Prop:=λa=>∃j ao,τ0.get j=some ao/\α.f (u j)=some a
 let yf:AM:=⟨λj=>α.f (u j),O',λa=>α.R a∨(α.O a/\¬O' a)⟩
 have lr:α.f σ.n=none:=g.new _ (aG _);have zZ:∀a,O' a->α.O a:=λa h=>by
  refine kJ (h) λj ao e ha=>?_;refine aH (P.into.look e) λo ho zz=>?_;exact g.ow _ _ _ ho ha
 have R1:K5 u α yf:=⟨λzz zz e=>e,λa f nr=>⟨λh=>f (zZ a h),λh=>h.elim nr λq=>f q.1⟩⟩;have bs:∀b o,G.h₀.get? b=some o->(oN s.heap O').get? b=some o:=λb o e=>fe.mpr ⟨λh=>(g.base b o e).1 (zZ b h),(g.base b o e).2⟩;have g0:GS (ext G (oN s.heap O')) yf τ0 s:=by
  refine⟨λj ao e=>?_,λj ao a e ha=>⟨j,ao,e,ha⟩,λb o e=>?_,λi j o1 o2 a e1 e2 h1 h2=>?_,λj hj=>?_,λa h=>g.lt a (zZ a h),λa h=>?_,g.os,g.bare⟩
  ·refine aH (P.into.look e) λo ho q=>?_
   refine aH (g.own _ _ ho) λa ha r=>?_;exact⟨a,ha,(r.sV R1 q).ext⟩
  ·refine gM (fe.mp e) λh1 h2=>?_
   exact⟨h1,h2⟩
  ·refine aH (P.into.look e1) λp1 q1 zz=>?_
   refine aH (P.into.look e2) λp2 q2 zz=>?_;have e:=g.inj _ _ _ _ _ q1 q2 h1 h2;rcases pY (l:=l) (j:=i) (d:=σ.n)with z|z
   ·have h1:α.f (u i)=some a:=h1
    rw[show u i=σ.n from z,lr]at h1;cases h1
   ·rcases pY (l:=l) (j:=j) (d:=σ.n)with z2|z2
    ·have h2:α.f (u j)=some a:=h2
     rw[show u j=σ.n from z2,lr]at h2;cases h2
    ·rw[e]at z
     exact nR P.a (List.mem_map.mpr ⟨_,z,rfl⟩) (List.mem_map.mpr ⟨_,z2,rfl⟩)
  ·rcases mz (i:=j) (d:=σ.n) P.a with z|z
   ·show α.f (u j)=none;rw[show u j=σ.n from z];exact lr
   ·exact absurd hj (Nat.not_le.mpr z.2.1)
  ·rcases h with h|h
   ·refine aH (g.pW a h) λo ho f=>?_
    exact⟨o,ho,λq=>f (zZ a q)⟩
   ·refine dX (g.lt a h.1) λo ho=>?_
    exact⟨o,ho,h.2⟩
 have v0:=dq.sV R1 cs0 (sf▸rv);have w0:=dq.sV R1 ks0 (Ki▸Y_);refine jb (spec _ bs yf s vs ws E (hC α yf aaC λzz=>rfl) g0 v0 w0) λBt v s' le g' q=>?_
 let r:Nat->Nat:=λk=>eE (l++l2) k τ1.n
 let β:AM:=⟨λk=>match a9 k σ.n with|true=>α.f k|false=>Bt.f (r k),λa=>Bt.O a∨(α.O a/\¬O' a),α.R⟩
 have Ym:∀{k},k<σ.n->β.f k=α.f k:=λh=>by show(match a9 _ σ.n with|true=>_|false=>_)=_;rw[Nat.blt_eq.mpr h]
 have βn:∀{k},σ.n<=k->β.f k=Bt.f (r k):=λh=>by
  show(match a9 _ σ.n with|true=>_|false=>_)=_;cases z:a9 _ σ.n with
  |true=>exact absurd h (Nat.not_le.mpr (Nat.blt_eq.mp z))
  |false=>rfl
 have bk:∀b o,¬O' b->s.heap.get? b=some o->Bt.off b/\s'.heap.get? b=some o:=λb o n e=>g'.base b o (fe.mpr ⟨n,e⟩);have US:Bt.f τ1.n=none:=g'.new _ (aG _);have inl:∀{k j},(k,j)∈l->k<σ.n/\∃a,α.f k=some a/\Bt.f j=some a/\O' a:=λ{k j} h=>by
  have:=List.all_eq_true.mp P.b _ h;rw[aK]at this;refine dX (Option.isSome_iff_exists.mp this.1) λao e=>?_;refine aH (g0.own _ _ e) λa ha zz=>?_;have hu:u j=k:=Aq P.a h λi hi=>nR P.c (List.mem_append_left _ hi) (List.mem_append_left _ h);have Ko:α.f (u j)=some a:=ha;exact⟨Nat.blt_eq.mp this.2,a,hu▸Ko,le.le _ trivial _ ha,j,ao,e,ha⟩
 have hR:Bt.R=yf.R:=le.rs;have LE:Le α s.heap β s'.heap:=by
  refine⟨λk zz a e=>(Ym ?_).trans e,λa h=>h.elim (λq=>(le.new a q).imp (zZ a) id) λq=>.inl q.1,rfl,λb o f e=>le.keep b o (λh=>f (zZ b h)) e⟩;cases iB k σ.n with
  |inl q=>exact q
  |inr q=>rw[g.new k q]at e;cases e
 have listed:∀{k a},Bt.f (r k)=some a->(k,r k)∈l++l2/\k<σ'.n:=λ{k a} h=>by
  rcases mz (i:=k) (d:=τ1.n) P.c with z|z
  ·rw[show r k=τ1.n from z,US]at h;cases h
  ·exact⟨z.1,z.2.1⟩
 have RR:K5 r Bt β:=by
  refine⟨λk a h=>?_,λa f nr=>⟨λh=>h.elim f λq=>nr (hR ▸ .inr q),λq=>nr (hR ▸ .inl q)⟩⟩;rcases List.mem_append.mp (listed h).1 with z|z
  ·obtain⟨lt,b,h1,h2,_⟩:=inl z
   rw[Ym lt,h1];exact h2.symm.trans h
  ·exact(βn (a_ (List.all_eq_true.mp P.d _ z))).trans h
 have cls:∀{k ao},σ'.get k=some ao->(∃a,α.f k=some a/\β.f k=some a/\σ.get k=some ao/\α.O a/\¬O' a/\OI G β s'.heap a ao)∨∃a o,Bt.f (r k)=some a/\β.f k=some a/\τ1.get (r k)=some o/\Bt.O a/\OI G β s'.heap a ao:=λ{k ao} e=>by
  rcases P.out _ _ e with⟨nl,e'⟩|⟨o,ho,q⟩
  ·refine aH (g.own _ _ e') λa ha w=>?_
   have lt:k<σ.n:=Nat.lt_of_not_le λh=>by rw[g.new k h]at ha;cases ha
   have nO:¬O' a:=λ⟨j,o,ej,hj⟩=>by
    refine aH (P.into.look ej) λp hp zz=>?_;have:=g.inj _ _ _ _ _ hp e' hj ha;rcases pY (l:=l) (j:=j) (d:=σ.n)with z|z
    ·rw[show u j=σ.n from z,lr]at hj;cases hj
    ·exact nl j (this▸z)
   exact .inl ⟨a,ha,(Ym lt).trans ha,e',g.ow _ _ _ e' ha,nO,w.mono LE λo h=>(bk a o nO h).2⟩
  ·refine aH (g'.own _ _ ho) λa ha w=>?_
   exact .inr ⟨a,o,ha,RR.f _ _ ha,ho,g'.ow _ _ _ ho ha,w.Tj.sV RR q⟩
 have Dc:∀{a},α.O a->¬O' a->Bt.O a->False:=λh1 h2 h3=>by obtain⟨o,ho⟩:=g.lt _ h1;exact(bk _ o h2 ho).1 h3
 refine⟨β,LE,⟨λk ao e=>?_,λk ao a e ha=>?_,λb o e=>?_,λj k o1 o2 a e1 e2 h1 h2=>?_,λk hk=>?_,λa h=>?_,λa h=>?_,g'.os,g'.bare⟩,VR.sV RR c (hr▸q)⟩
 ·rcases cls e with⟨a,_,h,_,_,_,w⟩|⟨a,_,_,h,_,_,w⟩
  ·exact⟨a,h,w⟩
  ·exact⟨a,h,w⟩
 ·rcases cls e with⟨b,_,h,_,h1,h2,_⟩|⟨b,_,_,h,_,h1,_⟩
  ·cases h.symm.trans ha;exact .inr ⟨h1,h2⟩
  ·cases h.symm.trans ha;exact .inl h1
 ·have nO:¬O' b:=λh=>(g.base b o e).1 (zZ b h)
  have:=bk b o nO (g.base b o e).2;exact⟨λh=>h.elim this.1 λq=>(g.base b o e).1 q.1,this.2⟩
 ·rcases cls e1 with⟨b,x1,x2,x3,x4,x5,_⟩|⟨b,p,x1,x2,x3,x4,_⟩
  ·cases x2.symm.trans h1
   rcases cls e2 with⟨b2,y1,y2,y3,_⟩|⟨b2,p2,y1,y2,y3,y4,_⟩
   ·cases y2.symm.trans h2;exact g.inj _ _ _ _ _ x3 y3 x1 y1
   ·cases y2.symm.trans h2;exact(Dc x4 x5 y4).elim
  ·cases x2.symm.trans h1
   rcases cls e2 with⟨b2,y1,y2,y3,y4,y5,_⟩|⟨b2,p2,y1,y2,y3,y4,_⟩
   ·cases y2.symm.trans h2;exact(Dc y4 y5 x4).elim
   ·cases y2.symm.trans h2
    have:=g'.inj _ _ _ _ _ x3 y3 x1 y1;have z:=(listed x1).1;rw[this]at z;exact nR P.c z (listed y1).1
 ·have h0:σ.n<=k:=ak (a_ P.e) hk
  rw[βn h0];cases q:Bt.f (r k)with
  |none=>rfl
  |some a=>exact absurd hk (Nat.not_le.mpr (listed q).2)
 ·rcases h with h|h
  ·exact g'.lt a h
  ·obtain⟨o,ho⟩:=g.lt a h.1;exact⟨o,(bk a o h.2 ho).2⟩
 ·refine aH (g'.pW a (hR ▸ .inl h)) λo ho f=>?_
  refine aH (g.pW a h) λzz zz f2=>?_;exact⟨o,ho,λq=>q.elim f λq=>f2 q.1⟩
theorem SK.pass{f:List af->List af->Sem af}(P:Pass σ τ0 τ1 l l2 σ')(spec:∀h₀,(∀b o,G.h₀.get? b=some o->h₀.get? b=some o)->SK (ext G h₀) f cs0 ks0 τ0 c0 τ1)
  (sf:cs=cV (λj=>eE (dY l) j σ.n) cs0) (Ki:ks=cV (λj=>eE (dY l) j σ.n) ks0)
  (hr:c0=l_ (λk=>eE (l++l2) k τ1.n) c):SK G f cs ks σ c σ':=λα s vs ws E =>
 pJ.pass (C:=λzz=>True) (C0:=λzz=>True) P (λzz zz zz zz=>trivial) (λh b α s vs ws E zz=>spec h b α s vs ws E) sf Ki hr α s vs ws E trivial
def Yi(r:Nat->Nat)(σ' τ:St):List (Nat×Nat)->Prop
 |[]=>True
 |(k,j)::l=>(∃ao o,σ'.get k=some ao/\τ.get j=some o/\jt r o ao)/\Yi r σ' τ l
theorem Yi.look{r:Nat->Nat}:∀{l:List (Nat×Nat)},Yi r σ' τ1 l->(k,j)∈l->∃ao o,σ'.get k=some ao/\τ1.get j=some o/\jt r o ao:=by
 intro l
 induction l with
 |nil=>intro _ h;cases h
 |cons p l ih =>
  intro x h;rcases List.mem_cons.mp h with e|h
  ·cases e;exact x.1
  ·exact ih x.2 h
theorem SK.tH{f:List af->List af->Sem af}(a:hV 0 τ0.n (dY l)=true)(b:(l.all λp=>(τ0.get p.2).isSome&&a9 p.1 σ.n)=true)(c':hV 0 σ.n l=true)(into:vH (λj=>eE (dY l) j σ.n) σ τ0.objs)
  (hn:σ'.n=σ.n) (keep:∀k ao,σ'.get k=some ao->(∀j,(k,j) ∉ l)->σ.get k=some ao) (ro:Yi (λk=>eE l k τ1.n) σ' τ1 l)
  (spec:∀h₀,(∀b o,G.h₀.get? b=some o->h₀.get? b=some o)->SK (ext G h₀) f cs0 ks0 τ0 c0 τ1)
  (sf:cs=cV (λj=>eE (dY l) j σ.n) cs0) (Ki:ks=cV (λj=>eE (dY l) j σ.n) ks0) (hr:c0=l_ (λk=>eE l k τ1.n) c):SK G f cs ks σ c σ':=by
 have e:=bV l;refine SK.pass (l:=l) (l2:=[]) ⟨a,b,by rw[e,hn];exact c',rfl,hn▸Nat.ble_self_eq_true _,into,λk ao h=>?_⟩ spec sf Ki (by rw[e];exact hr);rw[e];refine(Classical.em (∃j,(k,j)∈l)).symm.imp (λn=>⟨λj hj=>n ⟨j,hj⟩,keep k ao h λj hj=>n ⟨j,hj⟩⟩) λ⟨j,hj⟩=>?_;refine fu (ro.look hj) λao' o h1 h2 h3=>?_;cases h1.symm.trans h;have sw:dY (dY l)=l:=by unfold dY;rw[bq];exact List.map_id _
 have hk:eE l k τ1.n=j:=by
  have:=Aq (l:=dY l) (m:=0) (n:=σ.n) (d:=τ1.n) (k:=j) (j:=k) (sw.symm▸c') (List.mem_map.mpr ⟨_,hj,rfl⟩) λi hi=>nR a hi (List.mem_map.mpr ⟨_,hj,rfl⟩)
  rwa [sw]at this
 exact⟨o,by rw[hk];exact h2,h3⟩
theorem rZ{k0 j0: Nat}{ao0: AO}(h:(k0,j0)∈l)(k:Nat)(ao:AO)(e:(σ.set k0 ao0).get k=some ao)(n:∀j,(k,j) ∉ l):σ.get k=some ao:=by
 have e:cL (mX σ.objs k0 ao0) k=some ao:=e;have ne:k≠k0:=λq=>by cases q;exact n j0 h
 rw[dc,if_neg ne]at e;exact e
end
section
variable{G:Gv}{m:Nat}{e:Env}{σ σ1 σ2 σ3 pL τ:St}{a b c d:CV}{f:CF}{cs ks:List CV}{x y:Str}{body:Expr}{p pos:Pos}{it acc i l:Nat}{scope:iK}{params:Arguments}
theorem mT{rN: Pos}{c v: af}:∀(l:List af),TriplesOk l->h_ rN (l++[d5 pos.line,d5 pos.col,c])=some v->h_ rN l=some v∨(v=c/\rN.line=pos.line/\rN.col=pos.col):=by
 intro l h e
 fun_induction TriplesOk l with
 |case1 =>
  simp only[List.nil_append,h_,d5]at e
  split at e
  ·rename_i hc
   cases e;simp only[aK,beq_iff_eq]at hc;exact .inr ⟨rfl,by lia,by lia⟩
  ·cases e
 |case2 a t b u x bM ih =>
  simp only[fo,h_]at e ⊢
  split
  ·rename_i hc;rw[if_pos hc]at e;exact .inl e
  ·rename_i hc;rw[if_neg hc]at e;exact ih h e
 |case3 l h1 h2=>exact h.elim
theorem aV.rY{c P k: Nat}{clos: List (Str×Nat)}{mg:Str->Option af}{q:Nat->Nat->Str}(G4:oB e scope.names []=some clos)(Qj:e.globals=3)(hg:G.h₀.Ns fG mg)(A4:e.code=.ref c)(C:CodeHd G.h₀ c P)(hb:G.h₀.BuiltinsAt mg P)
  (hm:σ.get k=some (.tab P q)) (hq:q pos.line pos.col=e.qual++"<lambda>") (aav:∀env,defaultsOf params env=([],[]):=by intro _;rfl):
  aV G e (.Lambda params body scope pos) σ (.ref σ.n) (σ.push (.fn ⟨e.qual++"<lambda>",params,body,scope,clos⟩)):=by
 intro α s env E i g;refine c_ λj7 ef=>?_;obtain⟨P',hP,rfl,ps,eP,ht,rec⟩:=g.own _ _ hm;refine ef ?_;have kp:=λb o eb=>(g.base b o eb).2;refine aH (vm i G4) λcl X8 hc2=>?_;have hg':=hg.keeps kp;have C':=C.keeps kp;have OP:=g.ow _ _ _ hm hP;have hgP:fG≠P':=λq=>by
  refine z_ (hg) λo es ep eg zz=>?_;exact(g.base _ _ eg).1 (q▸OP)
 have C_:=hb.keeps kp;refine kla_eval (aav env) ?_;rw[i.qual];cases hf:h_ pos ps.toList with
 |some cv =>
  refine kla_makeFunctionHit X8 (i.globals.trans Qj) hg' (i.code.trans A4) C' eP ht hf C_ λvg h' tk hk hsz=>?_;have t:=g.same (h':=h') hk tk;refine W.trans t.1 (t.2.yU (ao:=.fn ⟨e.qual++"<lambda>",params,body,scope,clos⟩) (λle=>⟨_,cl,_,cv,vg,aM _ rfl,rfl,(hc2.mono λk=>t.1.le k trivial).mono λk=>le.le k trivial,?_⟩) tk);have:=rec pos cv hf;rw[hq]at this;exact(this.mono t.1).mono le
 |none =>
  refine kla_makeFunction X8 (i.globals.trans Qj) hg' (i.code.trans A4) C' eP ht hf hgP C_ λc' vg h' tk hx XX hhi hrc hP'=>?_;have off:jV α h' (.ref c') (e.qual++"<lambda>"):=by
   have nn:s.heap.get? c'=bB:=by
    cases z:s.heap.get? c' with
    |none=>rfl
    |some o=>exact absurd (bJ z) (Nat.not_lt.mpr XX)
   refine⟨hrc,λc2 z=>?_⟩;cases z;exact⟨λh=>(by obtain⟨o,z⟩:=g.lt _ h;rw[nn]at z;cases z),λh=>(by obtain⟨o,z,_⟩:=g.pW _ h;rw[nn]at z;cases z)⟩
  have t:=g.turn (h':=h') (ao':=.tab P' q) hm hP hx (λle=>⟨rfl,_,hP',by simpa using TriplesOk_snoc pos.line pos.col (.ref c') ps.toList ht,λrN cv VN=>?_⟩) tk
  ·rw[St.set_same hm]at t
   refine W.trans t.1 (t.2.yU (ao:=.fn ⟨e.qual++"<lambda>",params,body,scope,clos⟩) (λle=>⟨_,cl,_,.ref c',vg,aM _ rfl,rfl,(hc2.mono λk=>t.1.le k trivial).mono λk=>le.le k trivial,off.mono le⟩) tk)
  ·rw[show(ps++#[d5 pos.line,d5 pos.col,.ref c']).toList=ps.toList++[d5 pos.line,d5 pos.col,.ref c'] by simp]at VN
   rcases mT _ ht VN with h1|⟨rfl,h2,h3⟩
   ·exact(rec rN cv h1).mono le
   ·rw[h2,h3,hq];exact off
noncomputable def PY(g:n3)(n:Nat)(cv:af):Env:=newEnv g.scope n 3 g.clos (g.q++".<locals>.") none cv none 0
theorem SF.rY{n: Nat}{g: n3}{rb: List (Str×CV)}(room:G.A.depth<b9)(kS:G.h₀.NoLimit)(hm:σ.get n=some (.fn g))
  (j3:∀α s vs cl pm cv vg,dq α s.heap cs vs->∃dh,bW s (kla_fn "<lambda>" g.q g.params g.body g.scope cl pm cv vg) ⟨vs,[]⟩ dh/\dh.reverse.map (·.1)=rb.map (·.1)/\dq α s.heap (rb.map (·.2)) (dh.reverse.map (·.2)))
  (hk:(rb.all λp=>g.scope.names.lookup p.1==some .local)=true) (nE:(g.scope.names.all λx=>x.2 != .cell)=true)
  (h:∀env cv,aV (deep G env) (PY g σ.n cv) g.body (σ.push (.frame rb)) c σ1) (zv:g.scope.isCoroutine=false:=by rfl) (zu:g.scope.isGenerator=false:=by rfl) (tV:g.scope.kind=.function:=by rfl):SF G n cs σ c σ1:=by
 intro α s a vs E g0 ha rv;refine c_ λj7 ef=>?_;obtain⟨a',qZ,o,cl,pm,cv,vg,eo,hd,hc,off⟩:=g0.own _ _ hm;cases qZ.symm.trans ha;refine ef ?_;refine kK (j3 α s vs cl pm cv vg rv) λdh hb he hv=>?_;have kp:=λb o eb=>(g0.base b o eb).2;refine iH (kla_callFunE room eo hd zv zu rfl off.1 (hb _ _ _ _ ?_));refine wpAny_newFunctionEnv (λx hx=>?_) (λx hx=>?_) (λh1 qi XU=>⟨(kS.keeps kp).fresh _ XU,kla_codeExpr ?_⟩) tV
 ·have:=List.all_eq_true.mp nE x hx
  intro q;rw[q]at this;cases this
 ·have:x.1∈rb.map (·.1):=he▸List.mem_map.mpr ⟨x,List.mem_reverse.mpr hx,rfl⟩
  refine aH (List.mem_map.mp this) λy hy e=>?_;rw[←e];exact beq_iff_eq.mp (List.all_eq_true.mp hk y hy)
 ·have t:=g0.more (h':=h1) (ao:=.frame rb) (λb o eb=>XU.extBut b o (cR (bJ eb)) (aw _ eb)) (eG _)
   (λle=>⟨_,qi,λy c hy=>by obtain⟨v,Qb,r⟩:=(dq.lookup (x:=y) he hv).2 c hy;exact⟨v,Qb,r.mono le⟩⟩) (s.toks+dh.length)
  refine jb (h _ cv _ _ _ _ ⟨AM.d7 _ _ _,(hc.mono λk=>t.1.le k trivial).og,rfl,rfl,rfl,rfl,rfl⟩ (t.2.deep _)) λβ v s2 x2 g2 r2=>?_;exact⟨β,t.1.trans x2,g2.uj,r2⟩
end
section
set_option backward.match.sparseCases false
variable{G:Gv}{m:Nat}{e:Env}{σ σ1 σ2 σ3 pL Ir R4 τ:St}{a b c d:CV}{f:CF}{cs ks:List CV}{x y:Str}{body:Expr}{p pos:Pos}{it acc i l:Nat}{j:Int}{v:af}
theorem SS.yx{qQ: Expr}{body: List Stmt}(I:Nat->St->Prop)(n:Nat)(h0:I n σ)(hb:EB m e=true)
  (turn:∀k σ,I k σ->cD G e qQ σ false σ1∨∃τ1 tj σ' k',cD G e qQ σ true τ1/\eA G m e body τ1 .next tj/\fz m tj σ'/\k'<k/\I k' σ'):SS G m e (.While qQ body [] pos) σ .next σ1:=by
 intro α s env E i g;refine wpAny_While ?_;refine codeAny_whileLoop (λk s'=>∃σ' β,I k σ'/\z0 m α s.heap β s'.heap/\GS G β σ' s') (λk s1=>?_) n ⟨σ,α,h0,qt.refl _ _,g⟩;intro SN;refine fu (SN) λσ' β hI le g1=>?_;have i1:=i.oq le hb;rcases turn k σ' hI with last|⟨τ1,tj,Yl,k',h1,h2,h3,hk,hI'⟩
 ·refine yv (last β s1 env _ i1 g1) λγ s2 x g2=>?_
  exact wpAny_execs_nil ⟨γ,le.trans x.mL,g2,rfl⟩
 ·refine yv (h1 β s1 env _ i1 g1) λγ s2 x g2=>?_
  refine SW (h2 γ s2 env _ (i1.mono x) g2) λδ s3 y g3=>?_;refine aH (h3 G δ s3 g3) λε z g4=>?_;exact⟨k',hk,Yl,ε,hI',((le.trans x.mL).trans y).trans z,g4⟩
theorem kN:bH G (bO .Is) .none .none σ (.bool true) σ:=by
 rintro α s _ _ E g rfl rfl;exact PyProof.Rows.is_none_none (g.here rfl)
theorem lJ:bH G (bO .IsNot) .none .none σ (.bool false) σ:=by
 rintro α s _ _ E g rfl rfl;exact PyProof.Rows.isnot_none_none (g.here rfl)
noncomputable def uK:CV->Bool
 |.none=>false
 |.val v=>v != .none
 |_=>true
theorem VR.AI{α h v}(r:VR α h c v)(n:uK c=true):v≠.none:=by
 rintro rfl;cases c with
 |none=>cases n
 |bool b=>cases r
 |int i=>obtain⟨t,r⟩:=r;cases r
 |str x=>obtain⟨t,r⟩:=r;cases r
 |tup l=>obtain⟨a,_,_,r,_⟩:=r;cases r
 |ref k=>obtain⟨a,r,_⟩:=r;cases r
 |val v=>cases r;exact absurd n (by decide)
theorem mB(n:uK c=true):bH G (bO .Is) c .none σ (.bool false) σ:=by
 rintro α s v _ E g r rfl;exact PyProof.Rows.is_none_ne (r.AI n) (g.here rfl)
theorem sW(n:uK c=true):bH G (bO .IsNot) c .none σ (.bool true) σ:=by
 rintro α s v _ E g r rfl;exact PyProof.Rows.isnot_none_ne (r.AI n) (g.here rfl)
theorem lK{a b: Bool}:bH G (bO .IsNot) (.bool a) (.bool b) σ (.bool (a != b)) σ:=by
 rintro α s _ _ E g rfl rfl;exact isnot_bool (g.here rfl)
theorem part_of{i: Option Int}(h:IsPart v i):∃l:Option (Int×Tok),partValue l=v/\l.map (·.1)=i:=by
 cases h with
 |none=>exact⟨none,rfl,rfl⟩
 |int i t=>exact⟨some (i,t),rfl,rfl⟩
theorem tw{lo hi: Option Int}(hf:x.length<=bC):dk G (.str x) lo hi bB σ (.str (Txt.slice x lo hi)) σ:=by
 intro α s _ sl E vl vu vk g SV hs p1 p2 p3;refine dX (SV) λt ja=>?_;obtain rfl:=ja;refine⟨⟨_,_,gN _ _ _,PyProof.Rows.slot_str_getitem.lookup⟩,?_⟩;refine aH (part_of p1) λl DA SI=>?_;obtain rfl:=DA;obtain rfl:=SI;refine aH (part_of p2) λu rj iu=>?_;obtain rfl:=rj;obtain rfl:=iu;cases p3;refine wpAny_getItem_str_slice (l:=l) (u:=u) (st:=bB) hs rfl ?_;exact post_val_or_str ⟨ak (Txt.slice_le x _ _) hf,λt' k=>g.gx ⟨_,rfl⟩⟩
def Rj(G:Gv)(o i v:CV)(σ σ':St):Prop:=∀α s E a b c,GS G α σ s->VR α s.heap o a->VR α s.heap i b->VR α s.heap v c->ay G.M G.A (setItem a b c) (W RU G α s.heap () σ') E s
theorem dq.set{α h}(r:VR α h c v):∀{vs} (k:Nat),dq α h cs vs->dq α h (cs.set k c) (vs.set k v):=by
 induction cs with
 |nil=>rintro _ k rfl;rfl
 |cons d cs ih =>
  intro _ k oT;refine fu (oT) λw ws iu q qs=>?_;obtain rfl:=iu;cases k with
  |zero=>exact⟨v,ws,rfl,r,qs⟩
  |succ k=>exact⟨w,_,rfl,q,ih k qs⟩
theorem En{xs: List CV}{k: Int}(e:σ.get l=some (.list xs))(h0:0<=k)(hn:k<xs.length)(hf:xs.length<2^62):Rj G (.ref l) (.int k) c σ (σ.set l (.list (xs.set k.toNat c))):=by
 rintro α s E va _ vc g ra ⟨tk,rfl⟩ rc;obtain⟨a,vs,n,rfl,ha,eh,q,sz⟩:=g.getL e ra;have n5:=fitsIndex_of h0 (show k<2^63 by lia);clear hf;have hl:s.heap.IsList a vs.toArray:=⟨_,eh,rfl,_,rfl⟩;unfold setItem
 try with_reducible refine aX ?_
 first|refine aa (ag ?_)|skip
 refine aa (wpAny_sequenceKey hl.typeIs (by decide) ?_);refine aa (eX (name:=aE "__setitem__") hl.typeIs slot_list_setitem
  (cP slot_list_setitem hl.typeIs entry_list_setitem ?_ (args_list_setitem _ _ _)))
 show ay _ _ (Builtin.List.listSubscript? (.int k tk) >>= _) _ _ s;refine aa (wpAny_listSubscript_int n5 ?_);clear n5;refine c_ λDd up1=>?_;obtain⟨j,rfl⟩:=cu h0;refine up1 ?_;have hj:j<vs.length:=by rw[q.length];lia
 have gt:=g.uy (f:=λa:Array af=>a.setIfInBounds j vc) (ws:=vs.set j vc) e ha eh (by simp) (q.set rc j) s.toks;have hx':vs.toArray[j]?=some vs[j]:=by simp[hj]
 show ay _ _ ((seqItemAt a j >>= λr=>pure (r.map (j,·))) >>= _) _ _ s;refine aa (aa (wpAny_seqItemAt eh rfl (ag ?_)));rw[hx'];show ay _ _ (setSeqItemAt a j _ >>= _) _ _ s;have fin:W RU G α s.heap () (σ.set l (.list (xs.set j c))) () {s with heap:=s.heap.update a (cA (·.setIfInBounds j vc))}:=⟨α,gt.1,gt.2,trivial⟩;refine aa (wpAny_setSeqItemAt eh rfl ?_)
 first
  |exact aa (ag (ag ⟨.none,rfl,ag fin⟩))
  |exact ag ⟨.none,rfl,ag fin⟩
theorem SS.Q5{o i value: Expr}{qP pos: Pos}{op:Operator}{old new: CV}(h1:aV G e o σ a σ1)(h2:aV G e i σ1 b σ2)(h3:bH G iq a b σ2 old σ3)(h4:aV G e value σ3 c pL)(h5:bH G (inplaceOp op) old c pL new Ir)(h6:Rj G a b new Ir R4)
  (hi:∀ov iv new,augStore i ov iv new=(do iY [new,ov,iv] (setItem ov iv new);release [new,ov,iv] [];bA .next):=by intros;rfl):
  SS G m e (.AugAssign (.Subscript o i qP) op value pos) σ .next R4:=by
 intro α s env E ei g;refine wpAny_AugAssign_Subscript_any (jb (h1 α s env E ei g) λβ va s1 x1 g1 r1=>?_) hi;refine jb (h2 β s1 env E (ei.mono x1) g1) λγ vb s2 x2 g2 r2=>?_;refine jb (h3 γ s2 va vb E g2 (r1.mono x2) r2) λδ vo s3 x3 g3 r3=>?_;have Ro:=(x1.trans x2).trans x3;refine jb (h4 δ s3 env E (ei.mono Ro) g3) λε vv s4 x4 g4 r4=>?_;refine jb (h5 ε s4 vo vv E g4 (r3.mono x4) r4) λζ vn s5 x5 g5 r5=>?_;have y:=x4.trans x5;refine Ib (h6 ζ s5 E va vb vn g5 ((r1.mono (x2.trans x3)).mono y) ((r2.mono x3).mono y) r5) λη s6 x6 g6=>?_;exact⟨η,((Ro.trans y).trans x6).mL,g6,rfl⟩
theorem max2{i: Int}(hh:G.A.handled=bB):bN G (λvs=>call (.builtin "max") vs) [.int i,.int j] σ (.int (if j>i then j else i)) σ:=
 OA λα s t u E g=>max_two_ints hh λh' tk hk=>by
  have t:=g.same hk tk;by_cases q:j>i
  ·rw[if_pos q,if_pos q];exact⟨α,t.1,t.2,_,rfl⟩
  ·rw[if_neg q,if_neg q];exact⟨α,t.1,t.2,_,rfl⟩
theorem ZK{i: Int}(hh:G.A.handled=bB):bN G (λvs=>call (.builtin "min") vs) [.int i,.int j] σ (.int (if j<i then j else i)) σ:=
 OA λα s t u E g=>min_two_ints hh λh' tk hk=>by
  have t:=g.same hk tk;by_cases q:j<i
  ·rw[if_pos q,if_pos q];exact⟨α,t.1,t.2,_,rfl⟩
  ·rw[if_neg q,if_neg q];exact⟨α,t.1,t.2,_,rfl⟩
noncomputable def di(l:List Int):Int:=l.foldl (λa b=>if a<b then b else a) (l.headD 0)
theorem foldl_max:∀(l:List Int)(a:Int),a<=l.foldl (λa b=>if a<b then b else a) a/\(∀x∈l,x<=l.foldl (λa b=>if a<b then b else a) a)/\(l.foldl (λa b=>if a<b then b else a) a=a∨l.foldl (λa b=>if a<b then b else a) a∈l):=by
 intro l
 induction l with
 |nil=>exact λa=>⟨bD _,λx h=>(nomatch h),.inl rfl⟩
 |cons b l ih =>
  intro a;rw[List.foldl_cons];refine ri (ih (if a<b then b else a)) λh1 h2 h3=>?_;have Il:a<=(if a<b then b else a)/\b<=(if a<b then b else a):=by by_cases q:a<b<;>simp only[q,if_true,if_false]<;>lia
  refine⟨aQ Il.1 h1,λx hx=>?_,?_⟩
  ·rcases List.mem_cons.mp hx with rfl|hx
   ·exact aQ Il.2 h1
   ·exact h2 x hx
  ·rcases h3 with h3|h3
   ·rw[h3]
    by_cases q:a<b
    ·rw[if_pos q];exact .inr (.head _)
    ·rw[if_neg q];exact .inl rfl
   ·exact .inr (.tail _ h3)
theorem JT{l: List Int}{M: Int}(h1:M∈l)(h2:∀x∈l,x<=M):M=di l:=by
 refine ri (foldl_max l (l.headD 0)) λa1 a2 a3=>?_;have h3:di l∈l:=by
  rcases a3 with h|h
  ·unfold di;rw[h]
   cases l with
   |nil=>cases h1
   |cons x l=>exact .head _
  ·exact h
 exact Int.le_antisymm (a2 _ h1) (h2 _ h3)
theorem max_list{k}{ns: List Int}(hh:G.A.handled=bB)(e:σ.get k=some (.list (ns.map .int)))(mQ:0<ns.length):bN G (λvs=>call (.builtin "max") vs) [.ref k] σ (.int (di ns)) σ:=by
 refine RD e λα s a vs n E g ha eh q sz=>?_;have hi:=q.ints;have hl:s.heap.IsList a vs.toArray:=⟨_,eh,rfl,_,rfl⟩;refine dX (hi.allInts.items) λxs e=>?_;have qi:ns=xs.toList.map (·.1):=by rw[←hi.numsOf,←nums_intItems,←e]
 have hsz:0<xs.size:=by rw[qi,aj,dM]at mQ;exact mQ
 rw[e]at hl;refine max_intList hh hl hsz λv h' tk hv hk=>?_;refine dX (intItems_at hv) λt Dw=>?_;obtain rfl:=Dw;refine gM (argBest_gt (numAt xs) (xs.size-1)) λh1 h2=>?_;have tt:=g.same hk tk;refine⟨α,tt.1,tt.2,t,?_⟩;refine congrArg (Value.int · t) (JT ?_ λa ha=>?_)
 ·rw[qi,numAt_eq];exact getD_mem (by rw[aj,dM];exact bc h1 (Nat.sub_lt hsz Nat.one_pos))
 ·rw[qi]at ha
  refine aH (mem_getD ha) λj hj MP=>?_;obtain rfl:=MP;rw[aj,dM]at hj;rw[←numAt_eq];exact h2 j (Nat.le_sub_one_of_lt hj)
end
section
variable{G:Gv}{m:Nat}{e:Env}{σ σ1 σ2 σ3 pL Ir R4 σ7 τ:St}{a b c d:CV}{f:CF}{cs ks:List CV}{x y:Str}{body:Expr}{p pos:Pos}{it acc i l:Nat}{da db:km}{α:AM}{t:Bool}{xs:List Str}{h:Heap}{ds:List km}
def Rd(G:Gv)(σ:St)(c:CV)(d:km):Prop:=∀α s v,GS G α σ s->VR α s.heap c v->∃as,Reads s.heap v d as
def K6(G:Gv)(σ:St)(cs:List CV)(ds:List km):Prop:=∀α s vs,GS G α σ s->dq α s.heap cs vs->∃as,ReadsAll s.heap vs ds as
theorem Rd.none:Rd G σ .none .none:=by rintro α s _ g rfl;exact⟨_,.none⟩
theorem Rd.int{i: Int}:Rd G σ (.int i) (.int i):=by rintro α s _ g ⟨t,rfl⟩;exact⟨_,.int i t⟩
theorem Rd.str:Rd G σ (.str x) (.str x):=by rintro α s _ g ⟨t,rfl⟩;exact⟨_,.str x t⟩
theorem K6.nil:K6 G σ [] []:=by rintro α s _ g rfl;exact⟨_,.nil⟩
theorem K6.cons{d: km}(h:Rd G σ c d)(k:K6 G σ cs ds):K6 G σ (c::cs) (d::ds):=by
 intro α s _ g DM;refine fu (DM) λv vs rp r q=>?_;obtain rfl:=rp;obtain⟨as,ra⟩:=h α s v g r;obtain⟨bs,rb⟩:=k α s vs g q;exact⟨_,.cons ra rb⟩
theorem Rd.tup(h:K6 G σ cs ds):Rd G σ (.tup cs) (.tuple ds):=by
 intro α s _ g DM;refine z9 (DM) λa vs n vP zz zz e q=>?_;obtain rfl:=vP;obtain⟨as,ra⟩:=h α s vs g q;exact⟨as,.tuple e rfl rfl (by rw[List.toList_toArray];exact ra)⟩
theorem Rd.list{k xs}(e:σ.get k=some (.list xs))(h:K6 G σ xs ds):Rd G σ (.ref k) (.list ds):=by
 intro α s v g r;obtain⟨a,vs,n,rfl,ha,eh,q,sz⟩:=g.getL e r;obtain⟨as,ra⟩:=h α s vs g q;exact⟨_,.list eh rfl rfl (by rw[List.toList_toArray];exact ra)⟩
theorem K6.map{β:Type}{g:β->CV}{h:β->km}(hd:∀b,Rd G σ (g b) (h b))(l:List β):K6 G σ (l.map g) (l.map h):=by
 induction l with
 |nil=>exact .nil
 |cons b l ih=>exact .cons (hd b) ih
theorem B8(ha:Rd G σ a da)(hb:Rd G σ b db)(ca:da.canLay0=true)(cb:db.canLay0=true)(hu:G.A.units+min da.depth db.depth<cLine)(ht:iU da db=t):
  bH G (bO .Eq) a b σ (.bool t) σ:=by
 intro α s v w E g r1 r2;obtain⟨as,ra⟩:=ha α s v g r1;obtain⟨bs,rb⟩:=hb α s w g r2;exact SeqAt.compareEq_reads ra rb ca cb hu (by rw[ht];exact g.here rfl)
theorem qc(ha:Rd G σ a da)(hb:Rd G σ b db)(ca:da.canLay0=true)(cb:db.canLay0=true)(hu:G.A.units+min da.depth db.depth<cLine)(ht:(!iU da db)=t):
  bH G (bO .NotEq) a b σ (.bool t) σ:=by
 intro α s v w E g r1 r2;obtain⟨as,ra⟩:=ha α s v g r1;obtain⟨bs,rb⟩:=hb α s w g r2;exact SeqAt.neOverData G.prog G.w G.A E s v w da db as bs _ ra rb ca cb hu (by rw[ht];exact g.here rfl)
theorem list_remove{k}{ns: List Int}{i: Int}{j: Nat}(e:σ.get k=some (.list (ns.map .int)))(hj:j<ns.length)(hit:ns[j]=i)(Vn:∀m (hm:m<ns.length),m<j->ns[m]≠i)(hf:ns.length<=bC):
  bN G (λvs=>call (.builtin "list.remove") vs) [.ref k,.int i] σ .none (σ.set k (.list ((ns.eraseIdx j).map .int))):=by
 refine Oz e λα s a vs n E w g ha eh q sz r2=>?_;obtain⟨t,rfl⟩:=r2;have hi:=q.ints;have hl:vs.length=ns.length:=by rw[←hi.length]
 have key:∀(i:Nat)(h1:i<vs.length),∃t,vs[i]=.int (ns[i]'(by lia)) t:=by
  intro i h1;have hn:i<ns.length:=by lia
  refine c_ λDd up1=>?_;obtain⟨v,hv,t,rv⟩:=q.get (i:=i) (c:=CV.int (ns[i]'hn)) (by rw[br,aD hn];rfl);refine up1 ?_;rw[aD h1]at hv;exact⟨t,(a8 hv).trans rv⟩
 refine gT PySem.F.slot_list_remove ⟨_,eh,rfl⟩ PySem.F.entry_list_remove (PySem.F.args_list_remove_2 _ _) (MeetsSeq.list_remove a vs.toArray n (.int i t) (isInt i) (λy hy=>eq_isInt i t hi y (by simpa using hy)) j (by simp;lia) ?_ ?_ (by simp;lia)) ⟨eh,?_⟩
 ·refine dX (key j (by lia)) λt' ht'=>?_
  simp[ht',isInt,hit]
 ·intro m hm hmj
  refine dX (key m (by simpa using hm)) λt' ht'=>?_;have:=Vn m (by simp at hm;lia) hmj;simp[ht',isInt,this]
 ·have er:(ns.map CV.int).eraseIdx j=(ns.eraseIdx j).map CV.int:=by rw[f7,f7,aY,kq,List.map_drop]
  have t:=g.uy (ws:=vs.eraseIdx j) (ys:=(ns.eraseIdx j).map .int) (f:=λxs=>xs.eraseIdxIfInBounds j) e ha eh (by simp[Array.eraseIdxIfInBounds];lia) (by
   rw[←er,f7,f7];exact(q.take _).append (q.drop _)) s.toks
  exact⟨α,t.1,t.2,rfl⟩
theorem cD.QI{l r1 r2 r3: Expr}{o1 o2 o3:CmpOp}{b1 b2 b3: Bool}(h1:aV G e l σ a σ1)(h2:aV G e r1 σ1 b σ2)(h3:bH G (bO o1) a b σ2 (.bool b1) σ3)
  (k:b1=true->aV G e r2 σ3 c pL/\bH G (bO o2) b c pL (.bool b2) Ir/\(b2=true->aV G e r3 Ir d R4/\bH G (bO o3) c d R4 (.bool b3) σ7))
  (s1:b1=true->b2=true->σ7=τ) (s2:b1=true->b2=false->Ir=τ) (s3:b1=false->σ3=τ)
  (hm:lastMarks [o1,o2,o3] [r1,r2,r3]=false:=by with_unfolding_all rfl):cD G e (.Compare l [o1,o2,o3] [r1,r2,r3] pos) σ (b1&&(b2&&b3)) τ:=by
 intro α s env E i g;refine isTrue_chain (jb (h1 α s env E i g) λβ va u1 x1 g1 ra=>?_) hm;refine test_link (jb (h2 β u1 env E (i.mono x1) g1) λγ vb u2 x2 g2 rb=>?_);refine wQ (h3 γ u2 va vb E g2 (ra.mono x2) rb) ?_;rintro _ u3 ⟨δ,x3,g3,rfl⟩;have Ro:=(x1.trans x2).trans x3;refine gb ?_;cases b1 with
 |false=>rw[←s3 rfl];exact⟨δ,Ro,g3,rfl⟩
 |true =>
  refine ri (k rfl) λh4 h5 k=>?_;refine test_link (jb (h4 δ u3 env E (i.mono Ro) g3) λε vc u4 x4 g4 rc=>?_);refine wQ (h5 ε u4 vb vc E g4 ((rb.mono x3).mono x4) rc) ?_;rintro _ u5 ⟨ζ,x5,g5,rfl⟩;have Yp:=(Ro.trans x4).trans x5;refine gb ?_;cases b2 with
  |false=>rw[←s2 rfl rfl];exact⟨ζ,Yp,g5,rfl⟩
  |true =>
   obtain⟨h6,h7⟩:=k rfl;refine test_last (jb (h6 ζ u5 env E (i.mono Yp) g5) λη vd u6 x6 g6 rd=>?_);refine wQ (h7 η u6 vc vd E g6 ((rc.mono x5).mono x6) rd) ?_;rintro _ u7 ⟨θ,x7,g7,rfl⟩;rw[←s1 rfl rfl];exact gb ⟨θ,(Yp.trans x6).trans x7,g7,rfl⟩
theorem yG:∀{vs:List af},dq α h (xs.map CV.str) vs->StrsAre vs xs:=by
 induction xs with
 |nil=>rintro _ rfl;exact .nil
 |cons x xs ih=>rintro _ ⟨_,ws,rfl,⟨t,rfl⟩,q⟩;exact .cons _ _ (ih q)
theorem yF{vs: List af}(q:StrsAre vs xs):dq α h (xs.map CV.str) vs:=by
 induction q with
 |nil=>rfl
 |cons x t h ih=>exact⟨_,_,rfl,⟨t,rfl⟩,ih⟩
theorem oX{k}{ys: List Str}(e:σ.get k=some (.list (xs.map .str)))(Qp:xs.length<64)(hu:∀zs,zs.Perm xs->sortedS zs=true->zs=ys):bN G (λvs=>call (.builtin "sorted") vs) [.ref k] σ (.ref σ.n) (σ.push (.list (ys.map .str))):=by
 refine RD e λα s a vs n E g ha eh q sz=>?_;have hl:vs.length=xs.length:=by rw[q.length,aj]
 refine sorted_strs (vs:=vs) ⟨_,eh,rfl,_,rfl⟩ (yG q) (by lia) λout ss' h1 h2 h3=>?_;obtain rfl:=hu ss' h2 h3;obtain⟨ee,he⟩:=sortedAll_at s.heap vs out;have t:=g.more (h':=sortedAll s.heap vs out) (ao:=.list (ss'.map .str)) (a:=s.heap.objs.size+1) (λb o=>sortedAll_old) (by
  cases z:s.heap.get? (s.heap.objs.size+1)with
  |none=>rfl
  |some o=>exact absurd (bJ z) (Nat.not_lt.mpr (ip _))) (λle=>⟨out.toList,ee,he,yF h1⟩) s.toks
 exact⟨_,t.1,t.2,_,rfl,AM.d7 _ _ _⟩
end
section
set_option maxHeartbeats 2000000
section
variable{prog:dW}{w:dj}{A:b_}{E:af->aq->Prop}{s:aq}
theorem H3{cmp:Nat->Nat->(Bool->aq->Prop)->aq->Prop}{n:Nat}{Q:Nat->aq->Prop}(hc:∀i C,i+1<n->C false s->cmp (i+1) i C s):∀f k,1<=k->k+f=n->Q n s->(kas_asc (jA (az n)) f k).kasWp cmp Q s
 |0,k,_,e,h=>by
  have:k=n:=by lia
  subst this;exact h
 |f+1,k,h1,e,h=>by
  have e1:(jA (az n)).getD k 0=k:=by
   have:k<n:=by lia
   simp[Array.getD,this]
  have e2:(jA (az n)).getD (k-1) 0=k-1:=by
   have:k-1<n:=by lia
   simp[Array.getD,this]
  unfold kas_asc;show cmp ((jA (az n)).getD k 0) ((jA (az n)).getD (k-1) 0) _ s;rw[e1,e2];obtain⟨j,rfl⟩:∃j,k=j+1:=⟨k-1,by lia⟩;refine hc j _ (by lia) ?_;exact H3 hc f (j+1+1) (by lia) (by lia) h
theorem Jc{cmp:Nat->Nat->(Bool->aq->Prop)->aq->Prop}{n:Nat}{Q:Array Nat->aq->Prop}(hc:∀i C,i+1<n->C false s->cmp (i+1) i C s)(h2:2<=n)(h:Q (jA (az n)) s):(kas_sort n).kasWp cmp Q s:=by
 unfold kas_sort kas_count;rw[KasT.kasWp_bind,KasT.kasWp_bind];refine H3 hc _ _ (by lia) (by lia) ?_;rw[if_pos (by simp)];show KasT.kasWp cmp (if n<n then _ else _) Q s;rw[if_neg (by lia)];exact h
theorem BL{a:Addr}{vs:List af}{n:Nat}{P:PySem.Fin->aq->Prop}(ho:s.heap.get? a=some (gP "list" vs.toArray n))(Qp:vs.length<64)
  (hk:2<=vs.length->∀h',(∀b o,b≠a->s.heap.get? b=some o->h'.get? b=some o)->∃κ,(∀(Q:SortKind->aq->Prop),Q κ {s with heap:=h'}->ay (aZ prog w) A (keyKind' vs.toArray) Q (λzz zz=>False) {s with heap:=h'}) /\
   ∀i C,i+1<vs.length->C false {s with heap:=h'}->kas_ask prog w A κ vs (i+1) i C {s with heap:=h'})
  (h:P (.done (.ret .none)) {s with heap:=sortedHeap s.heap a vs vs.toArray}):ay (aZ prog w) A (de.«list.sort» ⟨[.ref a],[]⟩) P E s:=by
 rw[list_sort_plain];have ha:a<s.heap.objs.size:=bJ ho;have hsl:vs.length<=bC:=by rw[gK];lia
 refine aa (listItems_at ho rfl ?_);refine aa (k_ ho rfl ?_ (by rw[dJ];exact hsl) (aW _));obtain⟨e1,ho1⟩:∃e1,(s.heap.update a (cA λzz=>#[])).get? a=some (gP "list" #[] e1):=⟨_,get?_update_seq ho (λzz=>#[])⟩;refine aa (seqEpoch_at ho1 rfl ?_);refine aa (wpAny_newTuple ?_ (by show vs.length<=_;exact hsl));refine aa (wpAny_newList ?_ (aW _));refine aX ?_;have XW:(((s.heap.update a (cA λzz=>#[])).push (gP "tuple" vs.toArray 0)).push (gP "list" #[] 0)).get? a=some (gP "list" #[] e1):=by
  rw[Heap.get?_push_ne _ _ _ (by rw[size_push',Heap.size_update];exact cR (eI ha)),Heap.get?_push_ne _ _ _ (by rw[Heap.size_update];exact cR ha)];exact ho1
 have keep:∀b o,b≠a->s.heap.get? b=some o->(((s.heap.update a (cA λzz=>#[])).push (gP "tuple" vs.toArray 0)).push (gP "list" #[] 0)).get? b=some o:=by
  intro b o hb e;refine aw _ (aw _ ?_);rw[Heap.get?_update_ne _ _ _ _ hb];exact e
 show ay (aZ prog w) A _ P E {s with heap:=((s.heap.update a (cA λzz=>#[])).push (gP "tuple" vs.toArray 0)).push (gP "list" #[] 0)};dsimp only;have hsz:vs.toArray.size=vs.length:=by simp
 have hz:∀κ,(arrOf (SortSt.mk' κ (vs.toArray.zip vs.toArray) #[] 7 none)).map (·.2)=vs.toArray:=λκ=>by
  apply Array.toList_inj.mp;show((vs.toArray.zip vs.toArray).map (·.2)).toList=vs;simp[List.map_snd_zip]
 by_cases h2:vs.toArray.size<2
 ·rw[if_pos h2,if_pos h2]
  refine aa (ag ?_);rw[StateT.run_pure];refine aa (ag ?_);dsimp only;rw[hz];refine aa (seqEpoch_at XW rfl ?_);refine aa (k_ XW rfl ?_ (aW _) (by rw[hsz];lia));show ay _ _ (match(none:Option af)with|_=>_) _ _ _;simp only[bne_self_eq_false,d4,if_false];exact ag h
 ·rw[if_neg h2,if_neg h2]
  refine aH (hk (by lia) _ keep) λκ k1 k2=>?_;generalize hs0:({s with heap:=((s.heap.update a (cA λzz=>#[])).push (gP "tuple" vs.toArray 0)).push (gP "list" #[] 0)}:aq)=s0 at k1 k2;refine aa (df (k1 (λκ' s'=>κ'=κ/\s'=s0) ⟨rfl,rfl⟩) (λκ' s' xv=>?_) λzz zz x=>x.elim);obtain⟨rfl,rfl⟩:=xv;refine aa (df (kat_run (vs:=vs) (ks:=vs) (Q:=λRv BR=>(arrOf Rv).map (·.2)=vs.toArray/\failedOf Rv=none/\BR=s') (G:=λp BR=>p=jA (az vs.length)/\BR=s') rfl (by lia) Qp
   (λp Rv BR hp har hf hg=>?_) (Jc k2 (by lia) ⟨rfl,rfl⟩)) ?_ λzz zz x=>x)
  ·refine gM (hg) λMF ME=>?_
   obtain rfl:=MF;obtain rfl:=ME;refine⟨?_,hf,rfl⟩;rw[kat_snds rfl har];apply congrArg;apply List.ext_getElem
   ·simp
   ·intro i h1 h2
    simp at h1;simp[h1]
  ·intro Nc BR Nb
   refine c_ λXh2 XE=>?_;obtain⟨⟨⟩,Rv⟩:=Nc;refine XE ?_;refine ri (Nb) λe1 e2 MD=>?_;obtain rfl:=MD;subst hs0;dsimp only at e1 e2 ⊢;rw[e1];refine aa (seqEpoch_at XW rfl ?_);refine aa (k_ XW rfl ?_ (aW _) (by rw[hsz];lia));rw[e2];simp only[bne_self_eq_false,d4,if_false];exact ag h
theorem v8{l:Addr}{vs:List af}{Q:af->aq->Prop}(hl:s.heap.IsList l vs.toArray)(Qp:vs.length<64)
  (hk:2<=vs.length->∀A h',(∀b o,s.heap.get? b=some o->h'.get? b=some o)->∃κ,(∀(Q:SortKind->aq->Prop),Q κ {s with heap:=h'}->ay (aZ prog w) A (keyKind' vs.toArray) Q (λzz zz=>False) {s with heap:=h'}) /\
   ∀i C,i+1<vs.length->C false {s with heap:=h'}->kas_ask prog w A κ vs (i+1) i C {s with heap:=h'})
  (h:Q (.ref (s.heap.objs.size+1)) {s with heap:=sortedAll s.heap vs vs.toArray}):
  ay (aZ prog w) A (call (.builtin "sorted") [.ref l]) Q E s:=by
 refine Calls.call_function_entry kind_sorted plain_sorted entry_sorted (args_sorted1 _) ?_;unfold de.«sorted»;refine aa (m:=checkCount "sorted" 1 1 _) (ag ?_);refine aa (collect_list hl ?_ (by rw[gK];lia));refine aa (wpAny_newList ?_ (by rw[gK];lia));have hsz:((s.heap.push (gP "list" #[] 0)).update s.heap.objs.size (cA (·++vs.toArray))).objs.size=s.heap.objs.size+1:=by
  rw[Heap.size_update,size_push']
 have hoL:(((s.heap.push (gP "list" #[] 0)).update s.heap.objs.size (cA (·++vs.toArray))).push (gP "list" vs.toArray 0)).get? (s.heap.objs.size+1)=some (gP "list" vs.toArray 0):=by
  rw[←hsz];exact aM _ rfl
 have keep:∀b o,s.heap.get? b=some o->b≠s.heap.objs.size+1/\(((s.heap.push (gP "list" #[] 0)).update s.heap.objs.size (cA (·++vs.toArray))).push (gP "list" vs.toArray 0)).get? b=some o:=λb o q=>by
  have ij:b<s.heap.objs.size:=bJ q;refine⟨cR (eI ij),?_⟩;rw[Heap.get?_push_ne _ _ _ (by rw[hsz];exact cR (eI ij)),Heap.get?_update_ne _ _ _ _ (cR ij),Heap.get?_push_ne _ _ _ (cR ij)];exact q
 show ay _ _ _ _ _ {s with heap:=((s.heap.push (gP "list" #[] 0)).update s.heap.objs.size (cA (·++vs.toArray))).push (gP "list" vs.toArray 0)};rw[hsz];refine aa (aX (cP slot_list_sort ⟨_,hoL,rfl⟩ entry_list_sort ?body (args_list_sort _)))
 case body =>
  refine BL (s:={s with heap:=((s.heap.push (gP "list" #[] 0)).update s.heap.objs.size (cA (·++vs.toArray))).push (gP "list" vs.toArray 0)}) hoL Qp
   (λh2 h' xv=>hk h2 _ h' λb o e=>xv b o (keep b o e).1 (keep b o e).2) ⟨_,rfl,ag ⟨_,rfl,h⟩⟩
end
variable{G:Gv}{σ:St}{vs:List af}{h:Heap}{ws:List (Int×Int)}{α:AM}
noncomputable def gw(p:Int×Int):CV:=.tup [.int p.1,.int p.2]
noncomputable def XN(p q:Int×Int):Bool:=decide (p.1<q.1∨(p.1=q.1/\p.2<q.2))
theorem Ax{v: af}{p: Int×Int}(r:VR α h (gw p) v):∃a t u n,v=.ref a/\h.get? a=some (uk [.int p.1 t,.int p.2 u] n):=by
 refine c_ λj7 ef=>?_;obtain⟨a,vs,n,ev,_,_,e,_,_,rfl,⟨t,rfl⟩,_,_,rfl,⟨u,rfl⟩,rfl⟩:=r;refine ef ?_;exact Si a t u n ⟨ev,e⟩
theorem B3{h': Heap}(k:∀b o,h.get? b=some o->h'.get? b=some o):∀{vs:List af},dq α h (ws.map gw) vs->∃fs,fs.length=ws.length/\KatTups h' vs fs/\∀v∈fs,∃n t,v=.int n t:=by
 induction ws with
 |nil=>rintro _ rfl;exact⟨[],rfl,.nil,λzz h=>nomatch h⟩
 |cons p ws ih =>
  intro _ vR;refine fu (vR) λv vs iu r1 r2=>?_;obtain rfl:=iu;refine z8 (Ax r1) λa t u n Dz e=>?_;obtain rfl:=Dz;refine kK (ih r2) λfs hl hk hi=>?_;refine⟨.int p.1 t::fs,congrArg (·+1) hl,.cons (k _ _ e) rfl rfl (by simp) hk,λv hv=>?_⟩;rcases List.mem_cons.mp hv with rfl|hv
  ·exact qw _ _ rfl
  ·exact hi v hv
theorem pairs_at(q:dq α h (ws.map gw) vs){i: Nat}(hi:i<ws.length):∃a t u n,vs.getD i .none=.ref a/\h.get? a=some (uk [.int (ws.getD i (0,0)).1 t,.int (ws.getD i (0,0)).2 u] n):=by
 refine aH (q.get (i:=i) (c:=gw (ws.getD i (0,0))) (by rw[br,aD hi,aB,aD hi];rfl)) λv hv r=>?_;refine z8 (Ax r) λa t u n m8 e=>?_;obtain rfl:=m8;exact Si a t u n ⟨by rw[aB,hv];rfl,e⟩
theorem uv{k}(e:σ.get k=some (.list (ws.map gw)))(Qp:ws.length<64)(ho:∀i,i+1<ws.length->XN (ws.getD (i+1) (0,0)) (ws.getD i (0,0))=false):
  bN G (λvs=>call (.builtin "sorted") vs) [.ref k] σ (.ref σ.n) (σ.push (.list (ws.map gw))):=by
 refine RD e λα s a vs n E g ha eh q sz=>?_;have cx:vs.length=ws.length:=by rw[q.length,aj]
 refine v8 (vs:=vs) ⟨_,eh,rfl,_,rfl⟩ (by lia) (λh2 A h' k=>?_) ?_
 ·refine kK (B3 k q) λfs hfl XY VH=>?_
  refine⟨_,λQ hQ=>kat_kind (T:=.type "int") XY (by lia) (λv hv=>?_) rfl hQ,λi C hi hC=>?_⟩
  ·refine Du (VH v hv) λn t Dy=>?_
   obtain rfl:=Dy;exact .now
  ·refine z8 (pairs_at q (i:=i+1) (by lia)) λa1 t1 u1 n1 v1 e1=>?_
   refine z8 (pairs_at q (i:=i) (by lia)) λa0 t0 u0 n0 v0 e0=>?_;have ij:=ho i (by lia);generalize ws.getD (i+1) (0,0)=p1 at ij e1;generalize ws.getD i (0,0)=p0 at ij e0;unfold kas_ask;rw[v1,v0];refine kat_lt (k _ _ e1) rfl (k _ _ e0) rfl (kat_cons (wpAny_eqBool_int ?_));unfold XN at ij;simp only[decide_eq_false_iff_not,not_or,not_and]at ij;by_cases hp:p1.1=p0.1
   ·rw[show(p1.1==p0.1)=true by simpa using hp]
    refine kat_yes (kat_cons (wpAny_eqBool_int ?_));by_cases hp2:p1.2=p0.2
    ·rw[show(p1.2==p0.2)=true by simpa using hp2]
     exact kat_yes (kat_nil hC)
    ·rw[show(p1.2==p0.2)=false by simpa using hp2]
     refine kat_no (kat_one _ _ (P.lt_int ?_));rw[decide_eq_false (ij.2 hp)];exact hC
   ·rw[show(p1.1==p0.1)=false by simpa using hp]
    refine kat_no (oneLt_int ?_);rw[decide_eq_false ij.1];exact hC
 ·refine dX (sortedAll_at s.heap vs vs.toArray) λc hc=>?_
  have t:=g.more (h':=sortedAll s.heap vs vs.toArray) (ao:=.list (ws.map gw)) (a:=s.heap.objs.size+1) (λb o=>sortedAll_old) (by
   cases z:s.heap.get? (s.heap.objs.size+1)with
   |none=>rfl
   |some o=>exact absurd (bJ z) (Nat.not_lt.mpr (ip _))) (λle=>⟨vs,c,hc,q.mono le⟩) s.toks
  exact⟨_,t.1,t.2,_,rfl,AM.d7 _ _ _⟩
end
section
variable{G:Gv}{m:Nat}{e:Env}{σ σ1 σ2 σ3 pL τ:St}{a b c d:CV}{f:CF}{cs ks:List CV}{x y:Str}{body:Expr}{p pos:Pos}{it acc i l:Nat}{slice:Expr}
theorem n6(b:Bool)(y:Str)(u:Tok):Gives (de.«int.__rmul__» ⟨[.bool b,.str y u],[]⟩) (.val (Value.notImplemented)):=
 .of_wp λM A E s Q h=>by obtain⟨hp,g,d,tk,os⟩:=s;wp_walk;exact⟨_,rfl,h⟩
open Builtin Builtin.Str in
theorem oM(x:Str)(t:Tok)(b:Bool):Gives (de.«str.__mul__» ⟨[.str x t,.bool b],[]⟩) (if b then .val (.str x t)else .str gL):=by
 cases b
 ·show Gives (do rule "str.__mul__.none";retStr gL) (.str gL)
  exact .rule (.of_eq rfl)
 ·show Gives (do rule "str.__mul__.unchanged";ret (.str x t)) (.val (.str x t))
  exact .rule (.of_eq rfl)
theorem mN{b: Bool}:bH G (ft .Mult) (.str x) (.bool b) σ (.str (if b then x else gL)) σ:=by
 intro α s _ _ E g vS DL;refine dX (vS) λt ja=>?_;obtain rfl:=ja;obtain rfl:=DL;refine wpAny_binaryOp_repeat (T:="str") (U:="bool") (by decide) (λs'=>gN s' x t) (λs'=>rfl) noFill_str_mul PySem.F.fills_bool_mul PySem.F.slot_bool_rmul repeat_str PySem.F.slot_bool_index.lookup
  (call_gives PySem.F.slot_bool_rmul rfl PySem.F.entry_int_rmul (PySem.F.args_int_rmul_2 _ _) (n6 b x t)
   ⟨rfl,call_gives PySem.F.slot_str_mul (gN s x t) PySem.F.entry_str_mul (PySem.F.args_str_mul_2 _ _) (oM x t b) ?_⟩)
 cases b
 ·exact⟨by decide,g.gx ⟨_,rfl⟩⟩
 ·exact g.here ⟨_,rfl⟩
theorem sub_str_bool{value: Expr}{b: Bool}{k: Nat}(hx:x.cps[if b then 1 else 0]?=some k)(hs:∀a b,iI slice false a b=operate [a,b] (iq a b):=by intro _ _;with_unfolding_all rfl):
  bH G (jq value slice) (.str x) (.bool b) σ (.str ⟨#[k]⟩) σ:=by
 refine rD v3 ⟨_,PyProof.Rows.slot_str_getitem.lookup⟩ hs ?_;intro α s _ _ E g SU SR;refine dX (SU) λt DA=>?_;obtain rfl:=DA;obtain rfl:=SR;refine getItem_slot (gN _ x _) (by decide) slot_str_getitem (cP slot_str_getitem (gN _ x _) entry_str_getitem ?_ (args_str_getitem _ _));cases b with
 |true =>
  show ay _ _ (match(jQ ((1:Nat):Int) x.length).bind (x.cps[·]?)with
     |some c=>retStr ⟨#[c]⟩
     |none=>_) _ _ s
  have hx:x.cps[1]?=some k:=hx;rw[show jQ ((1:Nat):Int) x.length=some 1 from kB (Array.getElem?_eq_some_iff.mp hx).1,show(some 1).bind (x.cps[·]?)=some k from hx];exact aa (wpAny_mkStr (ag ⟨_,rfl,g.gx ⟨_,rfl⟩⟩))
 |false =>
  show ay _ _ (match(jQ ((0:Nat):Int) x.length).bind (x.cps[·]?)with
     |some c=>retStr ⟨#[c]⟩
     |none=>_) _ _ s
  have hx:x.cps[0]?=some k:=hx;rw[show jQ ((0:Nat):Int) x.length=some 0 from kB (Array.getElem?_eq_some_iff.mp hx).1,show(some 0).bind (x.cps[·]?)=some k from hx];exact aa (wpAny_mkStr (ag ⟨_,rfl,g.gx ⟨_,rfl⟩⟩))
theorem oJ(x:Str)(t:Tok)(prog:dW)(w:dj):(iL prog w).is x (.str x t)=true:=by
 show Value.isStrOf x (.str x t)=true;simp[Value.isStrOf]
def KV:List (Str×Int)->List (Str×af)->Prop
 |[],vL=>vL=[]
 |(x,i)::l,vL=>∃t r,vL=(x,.int i t)::r/\KV l r
theorem KV.keys{l: List (Str×Int)}:∀{vL},KV l vL->vL.map (·.1)=l.map (·.1):=by
 induction l with
 |nil=>rintro _ rfl;rfl
 |cons p l ih=>rintro _ ⟨t,r,rfl,q⟩;exact congrArg (p.1::·) (ih q)
theorem KV.look{l: List (Str×Int)}:∀{vL},KV l vL->(l.lookup x=none->valueAt vL x=none)/\∀i,l.lookup x=some i->∃t,valueAt vL x=some (.int i t):=by
 induction l with
 |nil=>rintro _ rfl;exact⟨λzz=>rfl,λzz h=>nomatch h⟩
 |cons p l ih =>
  obtain⟨y,j⟩:=p;intro _ DK;refine kJ (DK) λt r oS q=>?_;obtain rfl:=oS;unfold valueAt;rw[aR,List.find?_cons];by_cases h:y=x
  ·rw[beq_iff_eq.mpr h.symm,decide_eq_true h]
   exact⟨λh=>(nomatch h),λi h=>by cases h;exact⟨t,rfl⟩⟩
  ·rw[beq_eq_false_iff_ne.mpr (Ne.symm h),decide_eq_false h]
   exact ih q
theorem y6(more:List (Str×af)):∀(xs:List (Str×af)),(more.map (·.1)).Nodup->(∀p∈more,∀q∈xs,q.1≠p.1)->merged xs more=xs++more:=by
 induction more with
 |nil=>intro xs _ _;rw[bV];rfl
 |cons p more ih =>
  intro xs hn hd;rw[ba,List.nodup_cons]at hn;have e:stored xs p.1 p.2=xs++[p]:=by
   unfold stored;rw[if_neg];intro h;refine aH (List.any_eq_true.mp h) λq hq e=>?_;exact hd p (.head _) q hq (of_decide_eq_true e)
  show merged (stored xs p.1 p.2) more=_;rw[e,ih _ hn.2 λr hr q hq=>?_,a7];rfl;rcases List.mem_append.mp hq with hq|hq
  ·exact hd r (.tail _ hr) q hq
  ·obtain rfl:=List.mem_singleton.mp hq
   exact λe=>hn.1 (List.mem_map.mpr ⟨r,hr,e.symm⟩)
abbrev DE:Type:=(Str×Nat×Pos)×Int×Nat×Pos
noncomputable def zN(env:Env)(pos:Pos)(q:DE):Sem af×Sem af:=(eval (.Constant (.str q.1.1) q.1.2.1 q.1.2.2) env,do let x ←eval (.Constant (.int q.2.1) q.2.2.1 q.2.2.2) env;fR pos;bA x)
theorem Kx{env: Env}{E:af->aq->Prop}:∀(l:List DE)(s:aq) (Q:List (af×af)->aq->Prop),
  (∀vL vs tk,Carries (iL G.prog G.w) vs vL->KV (l.map λq=>(q.1.1,q.2.1)) vL->Q vs {s with toks:=tk})->ay G.M G.A (evalPairs (l.map (zN env pos))) Q E s:=by
 intro l
 induction l with
 |nil=>intro s Q h;exact evalPairs_nil (h [] [] s.toks trivial rfl)
 |cons q l ih =>
  intro s Q h;refine evalPairs_cons (Calls.Constant_str (aa (wpAny_Constant_int (aa (dQ (ag ?_))))));refine ih _ _ λvL vs tk h1 h2=>?_;exact h ((q.1.1,.int q.2.1 _)::vL) _ tk ⟨oJ _ _ _ _,rfl,h1⟩ ⟨_,_,rfl,h2⟩
theorem aV.dict{keys: List (Option Expr)}{DV: List Expr}(l:List DE)(h0:l.isEmpty=false)(hl:dv l.length 15=true)(hn:(l.map λq=>q.1.1).Nodup)
  (hs:∀env,(evalEachOpt keys env).zip ((evalEach DV env).map λv=>do let x ←v;fR pos;bA x)=(l.map (zN env pos)).map λp=>(some p.1,p.2):=by intro _;rfl):
  aV G e (.Dict keys DV pos) σ (.ref σ.n) (σ.push (.xN (l.map λq=>(q.1.1,q.2.1)))):=by
 intro α s env E i g;refine wpAny_Dict_pairs (knd:=iL G.prog G.w) (pairs:=l.map (zN env pos)) (hs env) (λh=>by cases l<;>cases h<;>cases h0) (by rw[aj];exact a_ hl) ?_;refine Kx l _ _ λvL vs tk h1 h2=>⟨vL,h1,Heap.DictOf.new _,λh' hd hs=>?_⟩;rw[y6 vL [] (by rw[h2.keys,bq];exact hn) (λzz zz zz h=>nomatch h),List.nil_append]at hd;exact g.fresh (ao:=.xN _) (λb ob eb=>(hs.2 b (cR (bJ eb))).trans (aw _ eb)) (λle=>⟨_,hd.mapOf,λx=>h2.look⟩) _
theorem GS.getD{α s k f}(g:GS G α σ s)(e:σ.get k=some (.xN f)){v: af}(r:VR α s.heap (.ref k) v):∃a F,v=.ref a/\α.O a/\s.heap.MapOf (iL G.prog G.w) a F/\∀x,(f.lookup x=none->F x=none)/\∀i,f.lookup x=some i->∃t,F x=some (.int i t):=by
 refine aH (r) λa ev ha=>?_;refine c_ λj7 ef=>?_;obtain⟨b,hb,F,hF,q⟩:=g.own _ _ e;cases hb.symm.trans ha;refine ef ?_;exact qw a F ⟨ev,g.ow _ _ _ e ha,hF,q⟩
theorem rR{k}{f: List (Str×Int)}{t: Bool}(e:σ.get k=some (.xN f))(hs:(G.h₀.get? sysModules).isSome=true)(ht:(f.lookup x).isSome=t):bH G (bO .In) (.str x) (.ref k) σ (.bool t) σ:=by
 rintro α s _ v E g ⟨u,rfl⟩ r;refine tm (g.getD e r) λa F lX hO hF q=>?_;obtain rfl:=lX;have ns:(a==sysModules)=false:=beq_eq_false_iff_ne.mpr λz=>by
  obtain⟨o,ho⟩:=Option.isSome_iff_exists.mp hs;exact(g.base _ _ ho).1 (z▸hO)
 refine wpAny_in_of (knd:=iL G.prog G.w) (oJ _ _ _ _) ns hF ?_;have:(F x).isSome=t:=by
  rw[←ht];cases z:f.lookup x with
  |none=>rw[(q x).1 z];rfl
  |some i=>obtain⟨w,hw⟩:=(q x).2 i z;rw[hw];rfl
 rw[this];exact g.gx rfl
theorem Ec{value: Expr}{k}{f: List (Str×Int)}{i: Int}(e:σ.get k=some (.xN f))(hx:f.lookup x=some i)(hs:∀a b,iI slice false a b=operate [a,b] (iq a b):=by intro _ _;with_unfolding_all rfl):
  bH G (jq value slice) (.ref k) (.str x) σ (.int i) σ:=by
 refine rD (T0:="dict") (λα s v g r=>by obtain⟨a,F,rfl,_,hF,_⟩:=g.getD e r;exact hF.typeIs) ⟨_,slot_dict_getitem.lookup⟩ hs ?_;rintro α s v _ E g r ⟨u,rfl⟩;refine tm (g.getD e r) λa F iu zz hF q=>?_;obtain rfl:=iu;obtain⟨w,hw⟩:=(q x).2 i hx;exact wpAny_getItem_of (knd:=iL G.prog G.w) (oJ _ _ _ _) hF hw (g.gx ⟨_,rfl⟩)
end
section
variable{G:Gv}{m:Nat}{e:Env}{σ σ1 σ2 σ3 pL τ:St}{a b c d:CV}{f:CF}{cs ks:List CV}{x y:Str}{body:Expr}{p pos:Pos}{it acc i l:Nat}{L k n:Nat}{lo:Int}{xs:List CV}
theorem v'{sl t: Nat}{a b c: af}{u:Tok}{A:b_}{prog w}{s: aq}{E:af->aq->Prop}{Q:af->aq->Prop}(ht:IsTup s.heap t #[a,b,c])(hs:s.heap.IsSliceOf sl .none (.int 2 u) .none)
  (h:Q (.ref s.heap.objs.size) {s with heap:=s.heap.push {cls:=.type "tuple",data:=.seq #[a,b]}}):ay (aZ prog w) A (iq (.ref t) (.ref sl)) Q E s:=by
 refine kK (id hs) λos LO sf hds=>?_;have hTs:s.TypeIs (.ref sl) "slice":=⟨os,LO,sf⟩;unfold iq
 try with_reducible refine aX ?_
 first|refine aa (ag ?_)|skip
 refine aa (wpAny_sequenceKey ht.typeIs (by decide) ?_);refine aa (eX (name:=aE "__getitem__") ht.typeIs slot_tuple_getitem
  (cP slot_tuple_getitem ht.typeIs entry_tuple_getitem ?_ (args_tuple_getitem _ _)))
 show ay _ _ (Builtin.Tuple.tupleItemsOf (.ref t) >>= _) _ _ s;refine aa (tupleItemsOf_ ht ?_);refine aa (wpAny_typeOf hTs ?_);rw[if_pos (by decide)];have ap:∀{Q:Int×Int×Nat->aq->Prop},Q (0,1,2) s->ay (aZ prog w) A.in1 (Builtin.Slice.sliceApplied (.ref sl) (bA (3:Int))) Q E s:=by
  intro Q h;unfold Builtin.Slice.sliceApplied Builtin.Slice.sliceFields;refine aa (aa (cU LO hds (x:=.none) rfl (aa (cU LO hds (x:=.int 2 u) rfl (aa (cU LO hds (x:=.none) rfl (ag ?_)))))));refine aa (slicePart_none ?_);show ay _ _ (if((1:Int)==0)=true then _ else _) _ _ s;rw[if_neg (by decide)];refine aa (slicePart_none (aa (slicePart_int (aa (ag ?_)))));show ay _ _ (match Builtin.Slice.sliceAdjust none (some (2:Int)) 1 (3:Int)with|(lo,hi)=>bA (lo,(1:Int),Builtin.Slice.slicePlaces lo hi 1)) _ _ s;rw[show Builtin.Slice.sliceAdjust none (some (2:Int)) 1 (3:Int)=(0,2) by decide];exact ag h
 refine aa (ap ?_);have fin:ay (aZ prog w) A.in1 (Builtin.Tuple.tupleExact #[a,b]) (λv s'=>v=.ref s.heap.objs.size/\s'={s with heap:=s.heap.push {cls:=.type "tuple",data:=.seq #[a,b]}}) E s:=
  dR ⟨rfl,rfl⟩ (by simp[sizeOk,bC])
 first
  |exact aa (df fin (λv s' h'=>by obtain⟨rfl,rfl⟩:=h';exact ag ⟨_,rfl,ag h⟩) λzz zz e=>e)
  |exact aa (df fin (λv s' h'=>by obtain⟨rfl,rfl⟩:=h';exact aa (ag (ag ⟨_,rfl,ag h⟩))) λzz zz e=>e)
  |exact aa (aa (df fin (λv s' h'=>by obtain⟨rfl,rfl⟩:=h';exact ag (ag ⟨_,rfl,ag h⟩)) λzz zz e=>e))
theorem rI:dk G (.tup [a,b,c]) bB (some 2) bB σ (.tup [a,b]) σ:=by
 intro α s v sl E vl vu vk g r hs p1 p2 p3;refine c_ λj7 ef=>?_;obtain⟨t,vs,n,rfl,_,_,eh,va,_,rfl,ra,vb,_,rfl,rb,vc,_,rfl,rc,rfl⟩:=r;have ht:IsTup s.heap t #[va,vb,vc]:=⟨_,eh,rfl,_,rfl⟩;cases p1;cases p2;cases p3;refine ef ?_;exact⟨⟨_,_,ht.typeIs,slot_tuple_getitem.lookup⟩,v' ht hs (g.tup (xs:=[a,b]) (vs:=[va,vb]) ⟨va,_,rfl,ra,vb,_,rfl,rb,rfl⟩ s.toks)⟩
theorem yK{k}{vs: List af}{ns: List Int}{lo hi st: Option Int}(e:G.h₀.get? k=some (kE vs n))(Cy:IntsAre vs ns)(h0:st≠some 0)(hf:ns.length<=bC):
  dk G (.val (.ref k)) lo hi st σ (.ref σ.n) (σ.push (.list (om (ns.map .int) lo hi st))):=by
 rintro α s _ sl E vl vu vk g rfl hs p1 p2 p3;have eh:=(g.base _ _ e).2;have q:dq α s.heap (ns.map .int) vs:=by
  clear e eh
  induction Cy with
  |nil=>rfl
  |cons n t _ ih=>exact⟨_,_,rfl,⟨t,rfl⟩,ih (by rw[cq]at hf;exact cw hf)⟩
 have hl:s.heap.IsList k vs.toArray:=⟨_,eh,rfl,_,rfl⟩;refine⟨⟨_,_,hl.typeIs,list_getitem_lookup⟩,wpAny_getItem_list_slice hl hs p1 p2 p3 h0 ?_ (by rw[dJ,q.length,aj];exact hf)⟩;rw[jH,q.length];exact g.list (q.pick _) s.toks
noncomputable abbrev GU(G:Gv):Gv:={G with A:=G.A.in1}
theorem GS.in1{α s}(g:GS G α σ s):GS (GU G) α σ s:=by
 refine⟨λk ao h=>?_,g.ow,g.base,g.inj,g.new,g.lt,g.pW,g.os,g.bare⟩;refine aH (g.own k ao h) λa ha r=>?_;refine⟨a,ha,?_⟩;cases ao<;>exact r
theorem GS.un1{α s}(g:GS (GU G) α σ s):GS G α σ s:=by
 refine⟨λk ao h=>?_,g.ow,g.base,g.inj,g.new,g.lt,g.pW,g.os,g.bare⟩;refine aH (g.own k ao h) λa ha r=>?_;refine⟨a,ha,?_⟩;cases ao<;>exact r
theorem GS.QG{α σ' s}(g:GS G α σ s)(h:∀k ao,σ'.get k=some ao->σ.get k=some ao)(hn:σ.n<=σ'.n):GS G α σ' s:=
 ⟨λk ao e=>g.own k ao (h k ao e),λk ao a e=>g.ow k ao a (h k ao e),g.base,λj k ao ao' a e1 e2=>g.inj j k ao ao' a (h j ao e1) (h k ao' e2),λk hk=>g.new k (ak hn hk),g.lt,g.pW,g.os,g.bare⟩
noncomputable def mc(σ:St)(L:Nat)(xs:List CV)(lo:Int)(n i:Nat):St:=((σ.push .any).set σ.n (.itR (lo+i) ((n:Int)-i) 1)).set L (.list (xs++eN lo 1 i))
theorem jg(hL:∃o,σ.get L=some o)(hn:L≠σ.n):(mc σ L xs lo n i).get k=if k=L then some (.list (xs++eN lo 1 i))else if k=σ.n then some (.itR (lo+i) ((n:Int)-i) 1)else σ.get k:=by
 refine dX (hL) λo hL=>?_;have p:∀j,(σ.push .any).get j=if j=σ.n then some .any else σ.get j:=λj=>by
  show(match aU j σ.n with|true=>some AO.any|false=>cL σ.objs j)=_;cases z:aU j σ.n with
  |true=>rw[if_pos (aO z)]
  |false=>rw[if_neg (λh=>by rw[h,bL]at z;cases z)];rfl
 have q:∀j,((σ.push .any).set σ.n (.itR (lo+i) ((n:Int)-i) 1)).get j=if j=σ.n then some (.itR (lo+i) ((n:Int)-i) 1)else σ.get j:=λj=>by
  rw[show((σ.push .any).set σ.n (.itR (lo+i) ((n:Int)-i) 1)).get j=_ from dc _ _ _,show cL (σ.push .any).objs σ.n=_ from p σ.n,if_pos rfl,show cL (σ.push .any).objs j=_ from p j];by_cases h:j=σ.n
  ·rw[if_pos h,if_pos h];rfl
  ·rw[if_neg h,if_neg h,if_neg h]
 rw[show(mc σ L xs lo n i).get k=_ from dc _ _ _,show cL ((σ.push .any).set σ.n (.itR (lo+i) ((n:Int)-i) 1)).objs L=_ from q L,if_neg hn,hL,show cL ((σ.push .any).set σ.n (.itR (lo+i) ((n:Int)-i) 1)).objs k=_ from q k];rfl
theorem wi(lo:Int)(i:Nat):eN lo 1 (i+1)=eN lo 1 i++[.int (lo+i)]:=by
 unfold eN;rw[dm,aY,List.map_singleton,Int.mul_one]
theorem rL(lo:Int)(i:Nat):(eN lo 1 i).length=i:=by unfold eN;rw[aj,bU]
theorem zL(hk:n-i=k+1):i<n/\n-(i+1)=k:=by
 refine⟨Nat.lt_of_sub_pos (hk▸Nat.succ_pos k),?_⟩;rw[←Nat.sub_sub,hk];rfl
theorem qJ{lo: Int}{R:Result->aq->Prop}{a b: Nat}(hh:G.A.handled=none)(hL:∃o,σ.get L=some o)(hn:L≠σ.n)(hf:xs.length+n<=2^20):
  ∀(k i:Nat)(s:aq)(β:AM),n-i=k->i<=n->GS G β (mc σ L xs lo n i) s->β.f L=some a->β.f σ.n=some b ->
  (∀γ s',Le β s.heap γ s'.heap->GS G γ ((mc σ L xs lo n n).del σ.n) s'->R (.ok (.ret .none)) s') ->
  codeAny G.M G.A (.builtin "list.extend.loop" ⟨[.ref a,.ref b,.none],[]⟩) R s:=by
 intro k
 induction k with
 |zero =>
  intro i s β hk hi g ha hb hR;obtain rfl:i=n:=Nat.le_antisymm hi (Nat.sub_eq_zero_iff_le.mp hk);have eJ:(mc σ L xs lo i i).get σ.n=some (.itR (lo+i) ((i:Int)-i) 1):=by rw[jg hL hn,if_neg (Ne.symm hn),if_pos rfl]
  refine aH (g.own _ _ eJ) λb' C_ ei=>?_;cases C_.symm.trans hb;refine codeAny_builtin PySem.F.entry_extend_loop ?_;rw[j9 fC _];show ay _ G.A.in1 (jJ (.ref b) >>= _) _ _ s;refine aa (wpAny_pyNext_range_end (show G.A.in1.handled=none from hh) ei (Int.le_of_eq (Int.sub_self _)) λh' hs=>?_);obtain⟨γ,x,g',_⟩:=g.gone eJ hb hs s.toks;exact ag (hR γ _ x g')
 |succ k ih =>
  intro i s β hk hi g ha hb hR;have eJ:(mc σ L xs lo n i).get σ.n=some (.itR (lo+i) ((n:Int)-i) 1):=by rw[jg hL hn,if_neg (Ne.symm hn),if_pos rfl]
  have eL:(mc σ L xs lo n i).get L=some (.list (xs++eN lo 1 i)):=by rw[jg hL hn,if_pos rfl]
  refine aH (g.own _ _ eJ) λb' C_ ei=>?_;cases C_.symm.trans hb;refine codeAny_builtin PySem.F.entry_extend_loop ?_;rw[j9 fC _];show ay _ G.A.in1 (jJ (.ref b) >>= _) _ _ s;refine aa (wpAny_pyNext_range_item ei (Int.sub_pos.mpr (Int.ofNat_lt.mpr (zL hk).1)) λh' ei' hs=>?_);have t:=g.turn (h':=h') (ao':=.itR (lo+i+1) ((n:Int)-i-1) 1) eJ hb (λc o hc eo=>(hs.2 c hc).trans eo) (λle=>ei') (s.toks+1);have eL2:((mc σ L xs lo n i).set σ.n (.itR (lo+i+1) ((n:Int)-i-1) 1)).get L=some (.list (xs++eN lo 1 i)):=by
   rw[show((mc σ L xs lo n i).set σ.n (.itR (lo+i+1) ((n:Int)-i-1) 1)).get L=_ from dc _ _ _,if_neg hn];exact eL
  refine c_ λDd up1=>?_;obtain⟨a',qZ,vs,m,eh,q⟩:=t.2.own _ _ eL2;cases qZ.symm.trans ha;refine up1 ?_;have hl:vs.length=xs.length+i:=by rw[q.length,aC,rL]
  have u:=t.2.uy (ws:=vs++[.int (lo+i) s.toks]) (ys:=xs++eN lo 1 (i+1)) (f:=λx=>x.push (.int (lo+i) s.toks)) eL2 ha eh (jB ..) (by
   rw[wi,←a7];exact q.append (.one ⟨_,rfl⟩)) (s.toks+1)
  have g2:GS G β (mc σ L xs lo n (i+1)) _:=u.2.QG (λj ao e=>by
   rw[jg hL hn]at e;rw[show((((mc σ L xs lo n i).set σ.n (.itR (lo+i+1) ((n:Int)-i-1) 1)).set L (.list (xs++eN lo 1 (i+1)))).get j)=_ from dc _ _ _,show cL ((mc σ L xs lo n i).set σ.n (.itR (lo+i+1) ((n:Int)-i-1) 1)).objs L=_ from eL2];by_cases h1:j=L
   ·rw[if_pos h1]at e ⊢;exact e
   ·rw[if_neg h1]at e ⊢
    rw[show cL ((mc σ L xs lo n i).set σ.n (.itR (lo+i+1) ((n:Int)-i-1) 1)).objs j=_ from dc _ _ _,show cL (mc σ L xs lo n i).objs σ.n=_ from eJ,show cL (mc σ L xs lo n i).objs j=_ from jg hL hn];by_cases h2:j=σ.n
    ·rw[if_pos h2]at e ⊢
     cases e;show some (AO.itR (lo+i+1) ((n:Int)-i-1) 1)=some (AO.itR (lo+((i+1:Nat):Int)) ((n:Int)-((i+1:Nat):Int)) 1);rw[show lo+(i:Int)+1=lo+((i+1:Nat):Int)from Int.add_assoc lo i 1,show(n:Int)-i-1=(n:Int)-((i+1:Nat):Int)from Int.sub_sub n i 1]
    ·rw[if_neg h2]at e ⊢
     rw[if_neg h1,if_neg h2];exact e) (aG _)
  show ay _ G.A.in1 (updateSeq a (·.push (.int (lo+i) s.toks)) >>= _) _ _ _;refine aa ?_;refine wpAny_updateSeq eh rfl (ag ⟨k9 fC _,ih (i+1) _ β (zL hk).2 (zL hk).1 g2 ha hb λγ s' x=>hR γ s' ((t.1.trans u.1).trans x)⟩) (by simp[bC];lia) (by simp[bC];lia)
end
section
variable{G:Gv}{σ:St}{o o':AO}{L k:Nat}{xs:List CV}
theorem By:∀{l:List (Nat×AO)},mX (mX l k o) k o'=mX l k o':=by
 intro l
 induction l with
 |nil=>rfl
 |cons p l ih =>
  obtain⟨j,u⟩:=p;have r:∀(u:AO) (l:List (Nat×AO)) (o:AO),mX ((j,u)::l) k o=match aU k j with|true=>(j,o)::l|false=>(j,u)::mX l k o:=λzz zz zz=>rfl
  rw[r];cases z:aU k j with
  |true=>dsimp only;rw[r,r,z]
  |false=>dsimp only;rw[r,r,z,ih]
theorem St.set_set:(σ.set k o).set k o'=σ.set k o':=congrArg (St.mk · σ.n) By
theorem yD{A:b_}{a: Nat}{α: AM}{s: aq}{E:af->aq->Prop}{Q:Unit->aq->Prop}(e:σ.get L=some (.list xs))(ha:α.f L=some a)(g:GS G α σ s)(hf:xs.length<=2^20)
  (h:∀s',Le α s.heap α s'.heap->GS G α σ s'->Q () s'):ay G.M A (Builtin.List.listTouch (.ref a)) Q E s:=by
 refine c_ λj7 ef=>?_;obtain⟨a',qZ,vs,n,eh,q⟩:=g.own _ _ e;cases qZ.symm.trans ha;have hl:=q.length;have t1:=g.uy (ws:=vs++[.none]) (ys:=xs++[.none]) (f:=λx=>x.push .none) e ha eh (jB ..) (q.append (dq.one (c:=.none) (v:=.none) rfl)) s.toks;have e2:(σ.set L (.list (xs++[.none]))).get L=some (.list (xs++[.none])):=by
  rw[show(σ.set L (.list (xs++[.none]))).get L=_ from dc _ _ _,if_pos rfl,show cL σ.objs L=_ from e];rfl
 obtain⟨a2,Ko,vs2,n2,eh2,q2⟩:=t1.2.own _ _ e2;cases Ko.symm.trans ha;refine ef ?_;have hl2:=q2.length;rw[aC,List.length_singleton]at hl2;have q3:=q2.take xs.length;rw[List.take_left' rfl]at q3;have t2:=t1.2.uy (ws:=vs2.take xs.length) (f:=λx=>x.pop) e2 ha eh2 (by
  rw[List.pop_toArray];congr 1;rw[List.dropLast_eq_take];congr 1;lia) q3 s.toks
 rw[St.set_set,St.set_same e]at t2;show ay _ _ (updateSeq a (·.push .none) >>= λzz=>updateSeq a (·.pop)) _ _ s;refine aa (wpAny_updateSeq eh rfl ?_ (by simp[bC];lia) (by simp[bC];lia));refine wpAny_updateSeq eh2 rfl ?_ (by simp[bC];lia) (by simp[bC];lia);exact h _ (t1.1.trans t2.1) t2.2
theorem o6{n: Nat}{lo hi: Int}(hh:G.A.handled=none)(eL:σ.get L=some (.list xs))(ek:σ.get k=some (.gQ lo hi 1))(hs:d_ lo hi 1=true)(hn:bT lo hi 1=n)(hf:xs.length+n<=2^20):
  bN G (λvs=>call (.builtin "list.extend") vs) [.ref L,.ref k] σ .none ⟨(σ.set L (.list (xs++eN lo 1 n))).objs,σ.n+1⟩:=by
 rintro α s _ E g ⟨_,_,rfl,⟨a,rfl,ha⟩,v,_,rfl,r2,rfl⟩;obtain⟨a',qZ,vs,m,eh,q⟩:=g.own _ _ eL;cases qZ.symm.trans ha;refine vN (g.Qv ek r2) λrg t u w Dz hr er=>?_;obtain rfl:=Dz;have mQ:a≠rg:=λz=>by rw[z,er]at eh;exact absurd (a8 (congrArg (λo=>o.map Obj.cls) eh):bX "range"=bX "list") (by decide)
 have LU:L≠σ.n:=λz=>by have:=g.new σ.n (aG _);rw[←z,ha]at this;cases this
 refine iH (codeAny_call_builtin PySem.F.slot_list_extend.plain PySem.F.entry_list_extend (PySem.F.slot_list_extend.check _ _ _ _ _ _ _ _ ⟨_,eh,rfl⟩ (PySem.F.args_list_extend_2 _ _) ?_));show ay _ _ (Builtin.List.listExtendWith (.ref a) (.ref rg) .none) _ _ s;unfold Builtin.List.listExtendWith;refine aa (wpAny_typeOf (T:="range") ⟨_,er,rfl⟩ ?_);have h1:Builtin.List.listSameRef (.ref a) (.ref rg)=false:=by simp[Builtin.List.listSameRef,mQ]
 have h2:(bX "range"==bX "list")=false:=by decide
 have h3:(bX "range"==bX "tuple")=false:=by decide
 simp only[h1,h2,h3,Bool.or_false,d4,if_false];refine aa (wpAny_pyIter_range er hs ?_);rw[hn];have g1:=g.push (ao:=.itR lo n 1) (o:=T1 lo n 1) (λzz=>aM _ rfl) (s.toks+1+1);refine aa (aX (wpAny_hint_range (n:=n) (aw _ er) hn (by lia) ?_));have RY:∃o,σ.get L=some o:=⟨_,eL⟩;have look:∀{i:Nat}{k ao},(mc σ L xs lo n i).get k=some ao->k≠L->k≠σ.n->σ.get k=some ao:=λ{i k ao} e n1 n2=>by rw[jg RY LU,if_neg n1,if_neg n2]at e;exact e
 have g2:GS G (α.add σ.n s.heap.objs.size) (mc σ L xs lo n 0) {s with heap:=s.heap.push (T1 lo n 1),toks:=s.toks+1+1}:=g1.2.QG (λj ao e=>by
  rw[jg RY LU]at e;rw[show(σ.push (.itR lo n 1)).get j=match aU j σ.n with|true=>some (.itR lo n 1)|false=>cL σ.objs j from rfl];by_cases z:j=L
  ·rw[if_pos z]at e;cases e
   rw[z,kY LU,show eN lo 1 0=[]from rfl,bV];exact eL
  ·rw[if_neg z]at e
   by_cases z2:j=σ.n
   ·rw[if_pos z2]at e;cases e
    rw[z2,bL,Int.ofNat_zero,Int.add_zero,Int.sub_zero]
   ·rw[if_neg z2]at e;rw[kY z2];exact e) (aG _)
 have Ko:=g1.1.le _ trivial _ ha;have fin:∀{s0:aq},Le (α.add σ.n s.heap.objs.size) (s.heap.push (T1 lo n 1)) (α.add σ.n s.heap.objs.size) s0.heap->∀γ s',Le (α.add σ.n s.heap.objs.size) s0.heap γ s'.heap->GS G γ ((mc σ L xs lo n n).del σ.n) s' ->
   W VR G α s.heap .none ⟨(σ.set L (.list (xs++eN lo 1 n))).objs,σ.n+1⟩ .none s':=λ{s0} x0 γ s' x g'=>by
  refine⟨γ,(g1.1.trans x0).trans x,g'.QG (λj ao e=>?_) (aG _),rfl⟩;have e:cL (mX σ.objs L (.list (xs++eN lo 1 n))) j=some ao:=e;have jn:j≠σ.n:=λz=>by
   rw[dc,if_neg (z▸Ne.symm LU)]at e;refine aH (g.own j ao e) λb hb zz=>?_;rw[z,g.new σ.n (aG _)]at hb;cases hb
  have d:((mc σ L xs lo n n).del σ.n).get j=(mc σ L xs lo n n).get j:=by
   have go:∀l:List (Nat×AO),cL (vf σ.n l) j=cL l j:=by
    intro l
    induction l with
    |nil=>rfl
    |cons p l ih =>
     refine c_ λDd up1=>?_;obtain⟨i,o⟩:=p;refine up1 ?_;unfold vf;cases z:aU σ.n i with
     |true=>rw[show cL ((i,o)::l) j=match aU j i with|true=>some o|false=>cL l j from rfl,kY λh=>jn (h.trans (aO z).symm)];exact ih
     |false =>
      show(match aU j i with|true=>some o|false=>cL (vf σ.n l) j)=match aU j i with|true=>some o|false=>cL l j
      rw[ih]
   exact go _
  rw[d,jg RY LU];rw[dc,show cL σ.objs L=_ from eL]at e;by_cases z:j=L
  ·rw[if_pos z]at e ⊢;exact e
  ·rw[if_neg z]at e ⊢;rw[if_neg jn];exact e
 refine wpAny_ite_split (λzz=>?_) (λzz=>ag ⟨k9 fC _,qJ hh RY LU hf n 0 _ _ rfl (aW _) g2 Ko (AM.d7 _ _ _) (fin (Le.refl _ _))⟩);refine aa (eZ ?_);refine aa (yD (G:=G) (xs:=xs++eN lo 1 0) (by rw[jg RY LU,if_pos rfl]) Ko g2 (by rw[aC,rL];lia) λs' x g'=>?_);exact ag ⟨k9 fC _,qJ hh RY LU hf n 0 _ _ rfl (aW _) g' Ko (AM.d7 _ _ _) (fin x)⟩
end
section
section
variable{prog:dW}{w:dj}{A:b_}{E:af->aq->Prop}{s:aq}
structure Zap(z TI TO i1 i2 l:Nat):Prop where
 TIz:TI≠z
 TOz:TO≠z
 i1z:i1≠z
 i2z:i2≠z
 abp:TI≠TO
 abo:TI≠i1
 abn:TI≠i2
 TOi1:TO≠i1
 TOi2:TO≠i2
 i12:i1≠i2
 lz:l≠z
 lTO:l≠TO
 li1:l≠i1
 li2:l≠i2
theorem Dr{z TI TO i1 i2 l:Nat}{k:Nat}{x:Str}{t:Tok}{ys:Array af}{y a b:af}{Q:Option af->aq->Prop}(hh:A.handled=none)(D:Zap z TI TO i1 i2 l)
  (hz:IsZip s.heap z TI TO .none) (RX:IsPair s.heap TI (.ref i1) (.ref i2)) (hTO:IsPair s.heap TO a b)
  (h1:s.heap.IsStrIter i1 (bw x) x t k) (h2:s.heap.IsListIter i2 l k) (hl:s.heap.IsList l ys) (hx:k<x.cps.size) (hy:ys[k]?=some y)
  (hQ:∀h' tk u,IsZip h' z TI TO (d5 s.heap.objs.size)->IsPair h' TO (.str ⟨#[x.cps.getD k 0]⟩ u) y->h'.IsStrIter i1 (bw x) x t (k+1)->h'.IsListIter i2 l (k+1)->IsPair h' s.heap.objs.size (.str ⟨#[x.cps.getD k 0]⟩ u) y ->
   (∀c o,c≠z->c≠TO->c≠i1->c≠i2->s.heap.get? c=some o->h'.get? c=some o)->Q (some (.ref s.heap.objs.size)) {s with heap:=h',toks:=tk}):
  ay (aZ prog w) A (jJ (.ref z)) Q E s:=by
 have hT:s.TypeIs (.ref z) "zip":=⟨_,hz,rfl⟩;unfold jJ;refine aa (k7 (eX (name:=aE "__next__") hT jz
  (cP jz hT PySem.F.entry_zip_next ?_ (PySem.F.args_zip_next_1 _))))
 show ay _ _ (field (.ref z) 2 >>= _) _ _ _;refine aa (cU hz rfl (x:=.bool false) rfl ?_);show ay _ _ (field (.ref z) 3 >>= _) _ _ _;refine aa (cU hz rfl (x:=.ref TI) rfl ?_);refine aa (iF RX rfl ?_);show ay _ _ (d2 (.ref z) >>= _) _ _ _;refine aa ?_;unfold d2;refine aa (cU hz rfl (x:=.none) rfl (ag ?_));rw[if_pos rfl];refine aa (eZ ?_);refine aa (cU hz rfl (x:=.ref TO) rfl ?_);refine aa (jF hz (by simp) λs7 sa pf=>?_)
 replace sa:IsZip s7 z TI TO .ellipsis:=sa
 refine aa ?_;simp only[List.zipIdx_cons,List.zipIdx_nil,c8,List.forIn_nil];refine aa (aa (wpAny_onRaise ?_));show ay _ _ (jC (.ref i1) >>= _) _ _ _;refine aa ((pq (prog:=prog) (w:=w) (A:=A.in1) (it:=i1) (x:=x) (t:=t) (show A.in1.handled=none from hh)).item k _ _ _ hx (h1.extBut pf.extBut D.i1z) λv GV tk hv V0 pd=>ag ?_);refine kJ (hv) λcp u hc MJ=>?_;obtain rfl:=MJ;have ecp:cp=x.cps.getD k 0:=by simp[hx]at hc;simp[hx,hc]
 subst ecp;have G':IsPair GV TO a b:=pd.extBut _ _ D.TOi1 (pf.extBut _ _ D.TOz hTO);refine aa (iF G' rfl ?_);refine aa (wpAny_updateSeq_pair G' λVa zx o_=>?_)
 replace zx:IsPair Va TO (.str ⟨#[x.cps.getD k 0]⟩ u) b:=zx
 refine aa (wpAny_letGo (ag ?_));refine aa (aa (wpAny_onRaise ?_));show ay _ _ (jC (.ref i2) >>= _) _ _ _;refine aa (wpAny_nextOf_list_item (((h2.extBut pf.extBut D.i2z).extBut pd.extBut D.i12.symm).extBut o_.extBut D.TOi2.symm)
  (((hl.extBut pf.extBut D.lz).extBut pd.extBut D.li1).extBut o_.extBut D.lTO) hy λaaa VX xr=>ag ?_)
 have G_:IsPair aaa TO (.str ⟨#[x.cps.getD k 0]⟩ u) b:=xr.extBut _ _ D.TOi2 zx;refine aa (iF G_ rfl ?_);refine aa (wpAny_updateSeq_pair G_ λo7 uV xq=>?_)
 replace uV:IsPair o7 TO (.str ⟨#[x.cps.getD k 0]⟩ u) y:=uV
 refine aa (wpAny_letGo (ag (ag ?_)));refine aa (iF uV rfl ?_);refine aa (wpAny_newTuple ?_);have hsz:o7.objs.size=s.heap.objs.size:=by rw[xq.1,xr.1,o_.1,pd.1,pf.1]
 have LK:IsZip o7 z TI TO .ellipsis:=xq.extBut _ _ D.TOz.symm (xr.extBut _ _ D.i2z.symm (o_.extBut _ _ D.TOz.symm (pd.extBut _ _ D.i1z.symm sa)));have Vt:∀c o,c≠z->c≠TO->c≠i1->c≠i2->s.heap.get? c=some o->o7.get? c=some o:=λc o c1 c2 c3 c4 e =>
  xq.extBut _ _ c2 (xr.extBut _ _ c4 (o_.extBut _ _ c2 (pd.extBut _ _ c3 (pf.extBut _ _ c1 e))))
 have VZ:o7.IsStrIter i1 (bw x) x t (k+1):=((V0.extBut o_.extBut D.TOi1.symm).extBut xr.extBut D.i12).extBut xq.extBut D.TOi1.symm;have VW:o7.IsListIter i2 l (k+1):=VX.extBut xq.extBut D.TOi2.symm;have Vc:z<o7.objs.size:=bJ LK;show ay _ _ (lD (.ref z) (.ref o7.objs.size) >>= _) _ _ _;refine aa ?_;unfold lD;have Vb:IsZip (o7.push {cls:=.type "tuple",data:=.seq #[.str ⟨#[x.cps.getD k 0]⟩ u,y]}) z TI TO .ellipsis:=aw _ LK;refine aa (jF Vb (by simp) λZ_ GW LN=>?_)
 replace GW:IsZip Z_ z TI TO (d5 o7.objs.size):=GW
 refine jF GW (by simp) λKb AY LM=>?_
 replace AY:IsZip Kb z TI TO (d5 o7.objs.size):=AY
 have up:∀c o,c≠z->o7.get? c=some o->Kb.get? c=some o:=λc o c1 e=>LM.extBut _ _ c1 (LN.extBut _ _ c1 (aw _ e));have LS:IsPair Kb o7.objs.size (.str ⟨#[x.cps.getD k 0]⟩ u) y:=LM.extBut _ _ (Nat.ne_of_gt Vc) (LN.extBut _ _ (Nat.ne_of_gt Vc) (aM _ rfl));rw[hsz]at AY LS;refine ag ⟨_,rfl,ag ?_⟩;show Q (some (.ref o7.objs.size)) _;rw[hsz];refine hQ Kb tk u AY (up _ _ D.TOz uV) ?_ ?_ LS λc o c1 c2 c3 c4 e=>up c o c1 (Vt c o c1 c2 c3 c4 e)
 ·obtain⟨o,e,r⟩:=VZ;exact⟨o,up _ _ D.i1z e,r⟩
 ·obtain⟨o,e,r⟩:=VW;exact⟨o,up _ _ D.i2z e,r⟩
theorem IG{z TI TO i1 i2 l:Nat}{x:Str}{t:Tok}{a b:af}{Q:Option af->aq->Prop}(hh:A.handled=none)(D:Zap z TI TO i1 i2 l)
  (hz:IsZip s.heap z TI TO .none) (RX:IsPair s.heap TI (.ref i1) (.ref i2)) (hTO:IsPair s.heap TO a b) (h1:s.heap.IsStrIter i1 (bw x) x t x.cps.size)
  (hQ:∀h',(∀c o,c≠z->c≠TO->c≠i1->c≠i2->s.heap.get? c=some o->h'.get? c=some o)->Q none {s with heap:=h'}):
  ay (aZ prog w) A (jJ (.ref z)) Q E s:=by
 have hT:s.TypeIs (.ref z) "zip":=⟨_,hz,rfl⟩;unfold jJ;refine aa (k7 (eX (name:=aE "__next__") hT jz
  (cP jz hT PySem.F.entry_zip_next ?_ (PySem.F.args_zip_next_1 _))))
 show ay _ _ (field (.ref z) 2 >>= _) _ _ _;refine aa (cU hz rfl (x:=.bool false) rfl ?_);show ay _ _ (field (.ref z) 3 >>= _) _ _ _;refine aa (cU hz rfl (x:=.ref TI) rfl ?_);refine aa (iF RX rfl ?_);show ay _ _ (d2 (.ref z) >>= _) _ _ _;refine aa ?_;unfold d2;refine aa (cU hz rfl (x:=.none) rfl (ag ?_));rw[if_pos rfl];refine aa (eZ ?_);refine aa (cU hz rfl (x:=.ref TO) rfl ?_);refine aa (jF hz (by simp) λs7 sa pf=>?_)
 replace sa:IsZip s7 z TI TO .ellipsis:=sa
 refine aa ?_;simp only[List.zipIdx_cons,List.zipIdx_nil,c8,List.forIn_nil];refine aa (aa (wpAny_onRaise ?_));show ay _ _ (jC (.ref i1) >>= _) _ _ _;refine aa ((pq (prog:=prog) (w:=w) (A:=A.in1) (it:=i1) (x:=x) (t:=t) (show A.in1.handled=none from hh)).done _ _ _ (h1.extBut pf.extBut D.i1z) λGV e pd he=>?_);refine aH (he) λoe hoe X7=>?_;have LL:IsZip GV z TI TO .ellipsis:=pd _ _ D.i1z.symm sa;have hez:e≠z:=λx=>by subst x;rw[LL]at hoe;cases hoe;simp at X7
 refine jF LL (by simp) λVa zz o_=>?_;refine aa (iX (T:="StopIteration") (b:=true) ⟨oe,o_.extBut _ _ hez hoe,X7⟩ isSubtype_stop ?_);exact ag (hQ _ λc o c1 zz c3 zz x=>o_.extBut _ _ c1 (pd _ _ c3 (pf.extBut _ _ c1 x)))
noncomputable abbrev I6(h:Heap)(ty:String)(x:Str)(t:Tok):Heap:=h.push {cls:=.type (ty),data:=.fields #[.str x t,.int 0 0]}
noncomputable abbrev I5(h:Heap)(ty:String)(x:Str)(t:Tok)(l:Nat):Heap:=(I6 h ty x t).push {cls:=.type "list_iterator",data:=.fields #[.ref l,.int 0 0]}
noncomputable abbrev I4(h:Heap)(ty:String)(x:Str)(t:Tok)(l:Nat):Heap:=(I5 h ty x t l).push {cls:=.type "tuple",data:=.seq #[.ref h.objs.size,.ref (I6 h ty x t).objs.size]}
noncomputable abbrev I3(h:Heap)(ty:String)(x:Str)(t:Tok)(l:Nat):Heap:=(I4 h ty x t l).push {cls:=.type "tuple",data:=.seq #[.none,.none]}
noncomputable abbrev yE(h:Heap)(ty:String)(x:Str)(t:Tok)(l:Nat):Heap:=(I3 h ty x t l).push {cls:=.type "zip",data:=.fields #[.none,.bool false,.bool false,.ref (I5 h ty x t l).objs.size,.ref (I4 h ty x t l).objs.size]}
set_option maxHeartbeats 2000000 in
theorem Dq(ty:String)(x:Str)(t:Tok)(l:Nat)(ys:Array af)
  (hi:∀{prog:dW}{w:dj}{A:b_}{E:af->aq->Prop}{s:aq}{Q:af->aq->Prop},Q (.ref s.heap.objs.size) {s with heap:=s.heap.push {cls:=.type ty,data:=.fields #[.str x t,.int 0 0]}}->ay (aZ prog w) A (fN (.str x t)) Q E s):
  Meets (de.«zip.__new__» ⟨[.type "zip",.str x t,.ref l],[]⟩) (λzz R s=>s.heap.IsList l ys/\R (.ok (.ret (.ref (I3 s.heap ty x t l).objs.size))) {s with heap:=yE s.heap ty x t l}):=
 .of_wp λprog w A R s h=>by
  obtain⟨hp,g,d,tk,os⟩:=s;obtain⟨hl,h⟩:=h;have sd:=sub_zip;have hL2:Heap.IsList (Shared.heap ⟨hp.push {cls:=.type (ty),data:=.fields #[.str x t,.int 0 0]},g,d,tk,os⟩) l ys:=Heap.IsList.push hl _
  wp_walk using hi,wpAny_pyIter_list hL2
  exact⟨_,rfl,h⟩
theorem HH{x:Str}{t:Tok}{l:Nat}{ys:Array af}{Q:af->aq->Prop}(hl:s.heap.IsList l ys)
  (h:∀h',IsZip h' (s.heap.objs.size+4) (s.heap.objs.size+2) (s.heap.objs.size+3) .none->IsPair h' (s.heap.objs.size+2) (.ref s.heap.objs.size) (.ref (s.heap.objs.size+1)) ->
   IsPair h' (s.heap.objs.size+3) .none .none->h'.IsStrIter s.heap.objs.size (bw x) x t 0->h'.IsListIter (s.heap.objs.size+1) l 0->h'.objs.size=s.heap.objs.size+5 ->
   (∀c o,s.heap.get? c=some o->h'.get? c=some o)->Q (.ref (s.heap.objs.size+4)) {s with heap:=h'}):
  ay (aZ prog w) A (call (.type "zip") [.str x t,.ref l]) Q E s:=by
 refine callType_new PySem.F.called_zip (by decide) (PySem.F.typeCall_zip_2 _ _) (PySem.F.newCall_zip_2 _ _) (λobj=>PySem.F.args_object_init_3 obj _ _) PySem.F.entry_zip_new
  (Dq (bw x) x t l ys λh=>wpAny_pyIter_strU h) ⟨hl,?_⟩
 have z1:(I6 s.heap (bw x) x t).objs.size=s.heap.objs.size+1:=ie ..;have z2:(I5 s.heap (bw x) x t l).objs.size=s.heap.objs.size+2:=by rw[ie,z1]
 have z3:(I4 s.heap (bw x) x t l).objs.size=s.heap.objs.size+3:=by rw[ie,z2]
 have z4:(I3 s.heap (bw x) x t l).objs.size=s.heap.objs.size+4:=by rw[ie,z3]
 have z5:(yE s.heap (bw x) x t l).objs.size=s.heap.objs.size+5:=by rw[ie,z4]
 have g5:(yE s.heap (bw x) x t l).get? (I3 s.heap (bw x) x t l).objs.size=some _:=aM _ rfl;have g4:(yE s.heap (bw x) x t l).get? (I4 s.heap (bw x) x t l).objs.size=some _:=aw _ (aM _ rfl);have g3:(yE s.heap (bw x) x t l).get? (I5 s.heap (bw x) x t l).objs.size=some _:=aw _ (aw _ (aM _ rfl));have g2:(yE s.heap (bw x) x t l).get? (I6 s.heap (bw x) x t).objs.size=some _:=aw _ (aw _ (aw _ (aM _ rfl)));have g1:(yE s.heap (bw x) x t l).get? s.heap.objs.size=some _:=aw _ (aw _ (aw _ (aw _ (aM _ rfl))));show _/\_;rw[z2,z3,z4]at g5;rw[z1,z2]at g3;rw[z3]at g4;rw[z1]at g2;rw[z4];exact⟨⟨_,g5,rfl⟩,h _ g5 g3 g4 ⟨_,g1,rfl,rfl⟩ ⟨_,g2,rfl,rfl⟩ z5 λc o x =>
  aw _ (aw _ (aw _ (aw _ (aw _ x))))⟩
end
variable{G:Gv}{σ:St}{c:CV}{x:Str}{xs:List CV}{p:Pos}{it pn t i j l k:Nat}
theorem IF(e:σ.get l=some (.list xs)):bN G (λvs=>call (.type "zip") vs) [.str x,.ref l] σ (.ref (σ.n+4)) (σ.oh [.nU x 0,.i6 l 0,.pr σ.n (σ.n+1),.two,.zip (σ.n+2) (σ.n+3)]):=by
 refine Oy λα s t w E g r=>?_;obtain⟨a,vs,n,rfl,ha,eh,q,sz⟩:=g.getL e r;refine HH (ys:=vs.toArray) ⟨_,eh,rfl,_,rfl⟩ λh1 z1 p1 p2 q1 q2 sz1 k1=>?_;refine aH (q1) λo1 e1 k1'=>?_;have u:=g.AJ (os:=[.nU x 0,.i6 l 0,.pr σ.n (σ.n+1),.two,.zip (σ.n+2) (σ.n+3)]) (h':=h1) (a:=s.heap.objs.size) k1 (λi zz=>by
  cases e:s.heap.get? (s.heap.objs.size+i)with
  |none=>rfl
  |some o=>exact absurd (bJ e) (Nat.not_lt.mpr (bj _ _))) (λle i o hi=>?_) s.toks
 ·exact⟨_,u.1,u.2,_,rfl,AM.gr (i:=4) (bg 4)⟩
 ·cases i with
  |zero=>cases hi;exact⟨t,o1,e1,k1'⟩
  |succ i=>cases i with
   |zero=>cases hi;exact⟨a,le.le _ trivial _ ha,q2⟩
   |succ i=>cases i with
    |zero=>cases hi;exact⟨_,_,AM.gr (c:=5) (i:=0) (by decide),AM.gr (c:=5) (i:=1) (by decide),p1⟩
    |succ i=>cases i with
     |zero=>cases hi;exact⟨_,_,p2⟩
     |succ i=>cases i with
      |zero=>cases hi;exact⟨_,_,AM.gr (c:=5) (i:=2) (by decide),AM.gr (c:=5) (i:=3) (by decide),z1⟩
      |succ i=>cases hi
theorem wc(e:σ.get it=some (.zip pn t)):d0 G fN (.ref it) σ (.ref it) σ:=by
 intro α s _ E g m9;refine aH (m9) λa ja ha=>?_;obtain rfl:=ja;refine c_ λj7 ef=>?_;obtain⟨a',h1,b,c,_,_,ei⟩:=g.own _ _ e;cases h1.symm.trans ha;refine ef ?_;exact wpAny_pyIter_zip ei (g.here ⟨a,rfl,ha⟩)
structure ZAt(α:AM)(h:Heap)(x:Str)(xs:List CV)(k a b c d f g:Nat)(tk:Tok)(v w:af)(vs:List af)(n:Nat):Prop where
 z:IsZip h a b c .none
 p:IsPair h b (.ref d) (.ref f)
 t:IsPair h c v w
 s:h.IsStrIter d (bw x) x tk k
 l:h.IsListIter f g k
 el:h.get? g=some (kE vs n)
 q:dq α h xs vs
 D:Zap a b c d f g
theorem GS.V9{α s a}(g:GS G α σ s)(e:σ.get it=some (.zip pn t))(ep:σ.get pn=some (.pr i j))(et:σ.get t=some .two)(ei:σ.get i=some (.nU x k))(ej:σ.get j=some (.i6 l k))(el:σ.get l=some (.list xs))(ha:α.f it=some a):
  ∃b c d f m tk v w vs n,α.f t=some c/\α.f i=some d/\α.f j=some f/\α.f l=some m/\ZAt α s.heap x xs k a b c d f m tk v w vs n:=by
 refine c_ λj7 ef=>?_;obtain⟨a',h1,b,c,hb,hc,z⟩:=g.own _ _ e;cases h1.symm.trans ha;obtain⟨b',h2,d,f,hd,hf,p⟩:=g.own _ _ ep;cases h2.symm.trans hb;obtain⟨c',h3,v,w,tt⟩:=g.own _ _ et;cases h3.symm.trans hc;obtain⟨tk,si⟩:=g.CB ei hd;obtain⟨m,vs,n,hm,li,eh,q⟩:=g.He ej el hf;refine ef ?_;have ne:∀{j k ao ao' a b},σ.get j=some ao->σ.get k=some ao'->α.f j=some a->α.f k=some b->ao≠ao'->a≠b:=λe1 e2 h1 h2 n q=>by
  have:=g.inj _ _ _ _ _ e1 e2 h1 (q▸h2);rw[this,e2]at e1;exact n (a8 e1).symm
 refine Yo b c d f m tk v w vs n ⟨hc,hd,hf,hm,z,p,tt,si,li,eh,q,?_⟩;exact⟨ne ep e hb ha (by simp),ne et e hc ha (by simp),ne ei e hd ha (by simp),ne ej e hf ha (by simp),ne ep et hb hc (by simp),ne ep ei hb hd (by simp),ne ep ej hb hf (by simp),ne et ei hc hd (by simp),ne et ej hc hf (by simp),ne ei ej hd hf (by simp),
  ne el e hm ha (by simp),ne el et hm hc (by simp),ne el ei hm hd (by simp),ne el ej hm hf (by simp)⟩
theorem X.zip{kW kk}(hh:G.A.handled=none)(e:σ.get it=some (.zip pn t))(ep:σ.get pn=some (.pr i j))(et:σ.get t=some .two)(ei:σ.get i=some (.nU x k))(ej:σ.get j=some (.i6 l k))(el:σ.get l=some (.list xs))(hk:k<x.cps.size)(hx:xs[k]?=some c):
  fH G (.Tuple kW kk p) it σ (.tup [tB x k,c]) ((σ.set i (.nU x (k+1))).set j (.i6 l (k+1))):=by
 intro α s a E g ha;refine Dv (g.V9 e ep et ei ej el ha) λb c' d f m tk v w vs n hc hd hf hm Z=>?_;refine aH (Z.q.get hx) λy hy ry=>?_;refine Dr hh Z.D Z.z Z.p Z.t Z.s Z.l ⟨_,Z.el,rfl,_,rfl⟩ hk (y:=y) (by rw[cH];exact hy) λh' Ic u a1 a2 a3 a4 a5 a6=>⟨_,rfl,λE=>?_⟩;refine wpAny_letOwnedTupleGo_zip a1 λh3 z3 s3=>?_;have s3:Heap.SameBut a h' h3:=s3;have up:∀c o,c≠a->h'.get? c=some o->h3.get? c=some o:=λc o n q=>s3.extBut _ _ n q;have nij:i≠j:=λq=>Z.D.i12 (a8 (hd.symm.trans (q▸hf)));have look:∀q,((σ.set i (.nU x (k+1))).set j (.i6 l (k+1))).get q=if q=j then some (.i6 l (k+1))else if q=i then some (.nU x (k+1))else σ.get q:=λq=>by
  rw[show((σ.set i (.nU x (k+1))).set j (.i6 l (k+1))).get q=_ from dc j _ q,show cL (σ.set i (.nU x (k+1))).objs j=_ from dc i _ j,show cL (σ.set i (.nU x (k+1))).objs q=_ from dc i _ q,if_neg (Ne.symm nij),show cL σ.objs j=_ from ej,show cL σ.objs i=_ from ei];rfl
 have T:=g.goto (σ':=(σ.set i (.nU x (k+1))).set j (.i6 l (k+1))) (h':=h3) (λq=>q=it∨q=t∨q=i∨q=j) (λzz=>False) rfl (λq hq=>by rcases hq with rfl|rfl|rfl|rfl<;>exact⟨_,by assumption⟩) (λzz q=>q.elim)
  (λc o nf q=>up c o (λz=>nf it (.inl rfl) (z▸ha)) (a6 c o (λz=>nf it (.inl rfl) (z▸ha)) (λz=>nf t (.inr (.inl rfl)) (z▸hc)) (λz=>nf i (.inr (.inr (.inl rfl))) (z▸hd)) (λz=>nf j (.inr (.inr (.inr rfl))) (z▸hf)) q)) (λle=>?_) Ic
 ·rw[AM.less_none]at T
  refine⟨α,T.1,T.2,s.heap.objs.size,[.str ⟨#[x.cps.getD k 0]⟩ u,y],0,rfl,λh=>?_,λh=>?_,up _ _ (λz=>?_) a5,_,_,rfl,⟨u,rfl⟩,_,_,rfl,ry.mono T.1,rfl⟩
  ·obtain⟨o,q⟩:=g.lt _ h;rw[eG]at q;cases q
  ·obtain⟨o,q,_⟩:=g.pW _ h;rw[eG]at q;cases q
  ·obtain⟨o,q⟩:=g.lt _ (g.ow _ _ _ e ha);rw[←z,eG]at q;cases q
 ·rw[AM.less_none]at le ⊢
  have o1:OI G α h3 d (.nU x (k+1)):=by obtain⟨o,e1,r⟩:=a3;exact⟨tk,o,up _ _ Z.D.i1z e1,r⟩
  have o2:OI G α h3 f (.i6 l (k+1)):=by obtain⟨o,e1,r⟩:=a4;exact⟨m,hm,o,up _ _ Z.D.i2z e1,r⟩
  have oz:OI G α h3 a (.zip pn t):=by
   refine c_ λXh3 Rt=>?_;obtain⟨a',h1,b1,c1,RV,X8,z1⟩:=g.own _ _ e;cases h1.symm.trans ha;have hz:s.heap.get? a=_:=Z.z;rw[z1]at hz;cases hz;refine Rt ?_;exact qw _ _ ⟨RV,X8,z3⟩
  have ot:OI G α h3 c' .two:=⟨_,_,up _ _ Z.D.TOz a2⟩;refine⟨λq hq u hu zz=>?_,λq o hq=>?_⟩
  ·rcases hq with rfl|rfl|rfl|rfl
   ·cases hu.symm.trans ha;exact oz.live
   ·cases hu.symm.trans hc;exact ot.live
   ·cases hu.symm.trans hd;exact o1.live
   ·cases hu.symm.trans hf;exact o2.live
  ·rw[look]at hq
   by_cases q1:q=j
   ·rw[if_pos q1]at hq;cases hq;exact .inr ⟨.inr (.inr (.inr q1)),f,q1▸hf,id,o2⟩
   ·rw[if_neg q1]at hq
    by_cases q2:q=i
    ·rw[if_pos q2]at hq;cases hq;exact .inr ⟨.inr (.inr (.inl q2)),d,q2▸hd,id,o1⟩
    ·rw[if_neg q2]at hq
     by_cases q3:q=it
     ·rw[q3,e]at hq;cases hq;exact .inr ⟨.inl q3,a,q3▸ha,id,oz⟩
     ·by_cases q4:q=t
      ·rw[q4,et]at hq;cases hq;exact .inr ⟨.inr (.inl q4),c',q4▸hc,id,ot⟩
      ·exact .inl ⟨hq,λz=>z.elim q3 λz=>z.elim q4 λz=>z.elim q2 q1⟩
theorem D.zip(hh:G.A.handled=none)(e:σ.get it=some (.zip pn t))(ep:σ.get pn=some (.pr i j))(et:σ.get t=some .two)(ei:σ.get i=some (.nU x k))(ej:σ.get j=some (.i6 l k))(el:σ.get l=some (.list xs))(hk:x.cps.size=k):fV G it σ ((((σ.del it).del t).del i).del j):=by
 intro α s a E g ha;refine Dv (g.V9 e ep et ei ej el ha) λb c' d f m tk v w vs n hc hd hf hm Z=>?_;refine IG hh Z.D Z.z Z.p Z.t (hk▸Z.s) λh' k'=>?_;have T:=g.goto (σ':=(((σ.del it).del t).del i).del j) (h':=h') (λq=>q=it∨q=t∨q=i∨q=j) (λu=>u=a∨u=c'∨u=d∨u=f) rfl (λq hq=>by rcases hq with rfl|rfl|rfl|rfl<;>exact⟨_,by assumption⟩)
  (λu hu=>hu.elim (λz=>⟨it,.inl rfl,z▸ha⟩) λz=>z.elim (λz=>⟨t,.inr (.inl rfl),z▸hc⟩) λz=>z.elim (λz=>⟨i,.inr (.inr (.inl rfl)),z▸hd⟩) λz=>⟨j,.inr (.inr (.inr rfl)),z▸hf⟩)
  (λc o nf q=>k' c o (λz=>nf it (.inl rfl) (z▸ha)) (λz=>nf t (.inr (.inl rfl)) (z▸hc)) (λz=>nf i (.inr (.inr (.inl rfl))) (z▸hd)) (λz=>nf j (.inr (.inr (.inr rfl))) (z▸hf)) q)
  (λzz=>⟨λq hq u hu n=>?_,λq o h=>?_⟩) s.toks
 ·exact⟨_,T.1,T.2,rfl⟩
 ·rcases hq with rfl|rfl|rfl|rfl
  ·exact absurd (.inl (a8 (hu.symm.trans ha))) n
  ·exact absurd (.inr (.inl (a8 (hu.symm.trans hc)))) n
  ·exact absurd (.inr (.inr (.inl (a8 (hu.symm.trans hd))))) n
  ·exact absurd (.inr (.inr (.inr (a8 (hu.symm.trans hf))))) n
 ·have h1:=kT h
  have h2:=kT h1.2;have h3:=kT h2.2;have h4:=kT h3.2;exact .inl ⟨h4.2,λz=>z.elim h4.1 λz=>z.elim h3.1 λz=>z.elim h2.1 h1.1⟩
end
section
section
variable{M:fX}{A:b_}{E:af->aq->Prop}{s:aq}
theorem CR{i owner n:String}{self:af}{bM:List af}{kw:List (Str×af)}{Q:Unit->aq->Prop}
  (hk:lh i=some .slot∨lh i=some .method) (hs:splitId i=some (owner,n)) (hi:eO M s.heap (dU self (.type owner)) true) (ha:argsOk i ⟨self::bM,kw⟩) (q:Q () s):
  ay M A (checkBuiltinCall i ⟨self::bM,kw⟩) Q E s:=by
 rcases hk with hk|hk <;>
 ·unfold checkBuiltinCall
  rw[hk];dsimp only;rw[hs];refine aa (hi.here ?_);rw[if_neg (show ¬((!true)=true)from aJ)];cases aag:eB i with
  |none=>exact ag q
  |some yg =>
   simp only[argsOk,aag]at ha;have h2:jE i yg ⟨self::bM,kw⟩=pure ():=ha;show ay M A (jE i yg ⟨self::bM,kw⟩) Q E s;rw[h2];exact ag q
end
section
variable{prog:dW}{w:dj}{A:b_}{E:af->aq->Prop}{s:aq}
theorem sH{id owner n:String}{b:de}{self:af}{bM:List af}{Q:af->aq->Prop}(hk:lh id=some .slot∨lh id=some .method)(hs:splitId id=some (owner,n))(hp:plainId id=true)
  (hi:eO (aZ prog w) s.heap (dU self (.type owner)) true) (hb:entryFor gJ id=some b) (hc:ay (aZ prog w) A.in1 (b ⟨self::bM,[]⟩) (λfin s'=>∃v,fin=.done (.ret v)/\Q v s') E s)
  (ha:argsOk id ⟨self::bM,[]⟩):ay (aZ prog w) A (call (.builtin id) (self::bM)) Q E s:=by
 refine iH (codeAny_call_builtin hp hb (CR hk hs hi ha (df hc (λfin s' h'=>?_) λzz zz h'=>h')));obtain⟨v,rfl,hv⟩:=h';exact hv
theorem yZ{K:Frag}{x C:Addr}{ox:Obj}{od:Option Obj}{name:Str}{id:String}{pl:Sem Bool}{Q:af×List af->aq->Prop}(X:K.In s.heap)(I:InstAt s.heap x ox C od)
  (VD:fx K (.ref C) "__getattribute__"=some (some (.builtin "list.__getattribute__"))) (hk:fx K (.ref C) "__getattr__"=some none)
  (hf:fx K (.ref C) name=some (some (.builtin id))) (ht:typeIn K (.builtin id)=some (.type "method_descriptor")) (hs:shadowIn od name=some false) (h:Q (.builtin id,[.ref x]) s):
  ay (aZ prog w) A (iZ (.ref x) name pl) Q E s:=by
 have G5:(Manifest.canonical "list.__getattribute__" != "object.__getattribute__")=false:=by decide +kernel
 unfold iZ specialOf;refine aa (aa (I.type.here ((eF X VD).here ?_)));dsimp only;rw[G5,if_neg (by decide)];refine aa (aa (I.type.here ((eF X hk).here ?_)));refine aa (aa (I.type.here ((eF X hf).here (aa ((looks_typeIn X ht).here ?_)))));rw[if_neg (by decide +kernel)];refine aa (fM I.at_ ?_);have hd:=I.dict;cases e:ox.dict with
 |none=>exact aa (eZ (ag h))
 |some dx =>
  cases od with
  |none=>rw[e]at hd;exact hd.elim
  |some o =>
   rw[e]at hd;refine aH (Option.map_eq_some_iff.mp hs) λr a b=>?_;refine aa (aa (fM hd ?_));rw[nsLook_of a];refine ag ?_;rw[b];exact aa (eZ (ag h))
theorem yY{K:Frag}{x C:Addr}{ox:Obj}{od:Option Obj}{name:Str}{f:Addr}{pl:Sem Bool}{Q:af×List af->aq->Prop}(X:K.In s.heap)(I:InstAt s.heap x ox C od)
  (VD:fx K (.ref C) "__getattribute__"=some (some (.builtin "list.__getattribute__"))) (hk:fx K (.ref C) "__getattr__"=some none)
  (hf:fx K (.ref C) name=some (some (.ref f))) (ht:typeIn K (.ref f)=some (.type "function")) (hs:shadowIn od name=some false) (h:Q (.ref f,[.ref x]) s):
  ay (aZ prog w) A (iZ (.ref x) name pl) Q E s:=by
 have G5:(Manifest.canonical "list.__getattribute__" != "object.__getattribute__")=false:=by decide +kernel
 unfold iZ specialOf;refine aa (aa (I.type.here ((eF X VD).here ?_)));dsimp only;rw[G5,if_neg (by decide)];refine aa (aa (I.type.here ((eF X hk).here ?_)));refine aa (aa (I.type.here ((eF X hf).here (aa ((looks_typeIn X ht).here ?_)))));rw[if_neg (by decide +kernel)];refine aa (fM I.at_ ?_);have hd:=I.dict;cases e:ox.dict with
 |none=>exact aa (eZ (ag h))
 |some dx =>
  cases od with
  |none=>rw[e]at hd;exact hd.elim
  |some o =>
   rw[e]at hd;refine aH (Option.map_eq_some_iff.mp hs) λr a b=>?_;refine aa (aa (fM hd ?_));rw[nsLook_of a];refine ag ?_;rw[b];exact aa (eZ (ag h))
theorem sh{K:Frag}{x C:Addr}{ox:Obj}{od:Option Obj}{name:Str}{v:af}{expr:Bool}{Q:af->aq->Prop}(X:K.In s.heap)(I:InstAt s.heap x ox C od)
  (VD:fx K (.ref C) "__getattribute__"=some (some (.builtin "list.__getattribute__"))) (hk:fx K (.ref C) "__getattr__"=some none) (sd:mroIn K C (.type "list")=some true)
  (hf:findObj K C od name=some (.value v)) (hh:handedIn v=true) (h:Q v {s with toks:=s.toks+1}):ay (aZ prog w) A (getAttr (.ref x) name expr) Q E s:=by
 obtain⟨hh',g,d,t,os⟩:=s;have L0:=I.type (M:=aZ prog w);have L1:=eF (M:=aZ prog w) X VD;have L2:=eF (M:=aZ prog w) X hk;have L3:=looks_find (M:=aZ prog w) X I hf;have L4:eO (aZ prog w) hh' (dU (.ref x) (.type "list")) true:=by unfold dU;exact I.type.andThen (jR X sd)
 unfold getAttr getAttrBy;refine aa (wpAny_mkText (aX (aa (L0.at (aa (L1.at ?_))))));show ay _ _ (getAttrByItsOwn (.ref x) (.str name t) (.ref C) (.builtin "list.__getattribute__") true expr) _ _ _;unfold getAttrByItsOwn hookBefore callGetattribute boundAndCalled;rw[if_pos (by rfl)];refine aa (L2.at ?_);refine aa (k7 (aX ?_));rw[if_neg (by cases expr<;>decide)];refine aa (cT (PySem.F.slot_list_getattribute.bind _) ?_);refine df (Q:=λr s'=>r=v/\s'=⟨hh',g,d,t+1,os⟩) (E:=λzz zz=>False)
  (sH (owner:="list") (n:="__getattribute__") (.inl (by decide +kernel)) (by decide +kernel) (by decide +kernel) L4 PySem.F.entry_list_ga ?_ (PySem.F.args_list_getattribute_2 _ _)) (λr s' hv=>?_) λzz zz z=>z.elim
 ·unfold de.«object.__getattribute__»
  refine aa (cT (show slotArgs "__getattribute__" 1 ⟨[.ref x,.str name t],[]⟩=bA (bZ x,[.str name t]) by rfl) ?_);dsimp only;refine aa (cT (a:=name) rfl ?_);refine aa (L0.at (aa (L3.at ?_)));exact ag ⟨_,rfl,rfl,rfl⟩
 ·refine c_ λDd up1=>?_
  obtain⟨rfl,rfl⟩:=hv;refine up1 ?_;show ay _ _ (handedOut r) _ _ _;rw[handedOut_of hh];exact ag h
end
structure Kl(K:Frag)(C:Nat):Prop where
 ga:fx K (.ref C) "__getattribute__"=some (some (.builtin "list.__getattribute__"))
 gn:fx K (.ref C) "__getattr__"=some none
 sub:mroIn K C (.type "list")=some true
variable{G:Gv}{m:Nat}{e:Env}{σ σ1 σ2 σ3 pL τ:St}{a b c:CV}{f:CF}{cs ks xs:List CV}{x y:Str}{p pos:Pos}{K:Frag}{n C d:Nat}{i:Int}{v:af}{od:Option Obj}{ox:Obj}
theorem Kl.inst{M:fX}{h: Heap}{x: Nat}(k:Kl K C)(X:K.In h)(I:InstAt h x ox C od):eO M h (dU (.ref x) (.type "list")) true:=by
 unfold dU;exact I.type.andThen (jR X k.sub)
theorem dn(h:n<=2^20):n<=bC:=by rw[gK];lia
noncomputable abbrev rJ(P:ae)(k:Int)(tk t:Tok):Obj:=kH (aE "_initial_size") (f_ P (aE "_initial_size")) (.str (aE "_initial_size") tk) (.int k t) hZ
inductive PAt(G:Gv)(α:AM)(h:Heap)(n C:Nat)(i:Int)(xs:List CV)(v:af):Prop
 |mk (a b:Nat) (vs:List af) (k:Nat) (tk t:Tok) (ev:v=.ref a) (ha:α.f n=some a) (I:InstAt h a (ny C b vs k) C (some (rJ G.w.params i tk t))) (q:dq α h xs vs):PAt G α h n C i xs v
theorem GS.uW{α s}(g:GS G α σ s)(e:σ.get n=some (.cX C d xs))(ed:σ.get d=some (.size i))(r:VR α s.heap (.ref n) v):PAt G α s.heap n C i xs v:=by
 refine aH (r) λa ev ha=>?_;refine c_ λj7 ef=>?_;obtain⟨a',h1,b,vs,k,hb,eh,q⟩:=g.own _ _ e;cases h1.symm.trans ha;obtain⟨b',h2,tk,t,ed⟩:=g.own _ _ ed;cases h2.symm.trans hb;refine ef ?_;exact⟨a,b,vs,k,tk,t,ev,ha,⟨eh,rfl,rfl,ed⟩,q⟩
theorem GS.N7{α s a b k xs ys vs ws}{f:Array af->Array af}(g:GS G α σ s)(e:σ.get n=some (.cX C d xs))(ha:α.f n=some a)(eh:s.heap.get? a=some (ny C b vs k))(hf:f vs.toArray=ws.toArray)(r:dq α s.heap ys ws)(tk:Nat):
  Le α s.heap α (s.heap.update a (cA f))/\GS G α (σ.set n (.cX C d ys)) {s with heap:=s.heap.update a (cA f),toks:=tk}:=by
 refine c_ λj7 ef=>?_;obtain⟨a',h1,b',vs',k',hb,Im,q⟩:=g.own _ _ e;cases h1.symm.trans ha;refine ef ?_;have hj:∃j,cA f (ny C b vs k)=ny C b ws j:=by
  unfold cA;exact⟨_,by simp only[ny,hf];rfl⟩
 refine dX (hj) λj hj=>?_;have eb:b=b':=by rw[eh]at Im;cases Im;rfl
 have sb:=fI s.heap a (cA f);exact g.turn (ao':=.cX C d ys) e ha (λb o hb eo=>(sb.2 b hb).trans eo) (λle=>⟨b,ws,j,eb▸hb,(fF _ eh (by rw[hj];rfl)).trans (by rw[hj]),r.mono le⟩) tk
theorem wq(k:Kl K C)(X:K.In G.h₀)(e:σ.get n=some (.cX C d xs))(ed:σ.get d=some (.size i))(hf:xs.length<2^20):bN G (λvs=>call (.builtin "list.append") vs) [.ref n,c] σ .none (σ.set n (.cX C d (xs++[c]))):=by
 rintro α s _ E g ⟨v,_,rfl,r,w,_,rfl,r2,rfl⟩;obtain⟨a,b,vs,j,tk,t,rfl,ha,I,q⟩:=g.uW e ed r;have X':K.In s.heap:=X.keeps λb o eb=>(g.base b o eb).2;have u:=g.N7 (f:=(·.push w)) (ws:=vs++[w]) e ha I.at_ (jB ..) (q.append (.one r2)) s.toks;refine sH (owner:="list") (n:="append") (.inr (by decide +kernel)) (by decide +kernel) (by decide +kernel) (k.inst X' I) PySem.F.entry_list_append ?_ (PySem.F.args_list_append_2 _ _);unfold de.«list.append»;refine aa (cT (show selfAndOne "list.append" ⟨[.ref a,w],[]⟩=bA (bZ a,w) by rfl) ?_);refine aa (k_ I.at_ rfl ?_ (by have:=q.length;simp;exact dn (by lia)) (by have:=q.length;simp;rw[gK];lia));exact ag ⟨_,rfl,α,u.1,u.2,rfl⟩
theorem shadow(P:ae)(i:Int)(tk t:Tok):shadowIn (some (rJ P i tk t)) (aE "push")=some false/\shadowIn (some (rJ P i tk t)) (aE "pop")=some false /\
  shadowIn (some (rJ P i tk t)) (aE "part_count")=some false/\shadowIn (some (rJ P i tk t)) (aE "append")=some false:=⟨by kernel_rfl,by kernel_rfl,by kernel_rfl,by kernel_rfl⟩
variable{o:Expr}{name:Str}{kF:Pos}{args:List Expr}
theorem aV.mC{i: Int}{fa: Nat}{of: Obj}{fd: cm}{pl:Env->Sem Bool}(k:Kl K C)(X:K.In G.h₀)(hf:fx K (.ref C) name=some (some (.ref fa)))(ht:typeIn K (.ref fa)=some (.type "function"))(ho:G.h₀.get? fa=some of)(hdf:of.data=.func fd)
  (h1:aV G e o σ (.ref n) σ1) (en:σ1.get n=some (.cX C d xs)) (ed:σ1.get d=some (.size i)) (hs:∀tk t,shadowIn (some (rJ G.w.params i tk t)) name=some false) (h2:kG G e pos args σ1 cs σ2) (h3:bN G (λvs=>call (.ref fa) vs) (.ref n::cs) σ2 c σ3)
  (he:∀env,eval (.Call (.Attribute o name kF) args [] pos) env=(do
   let ov ←eval o env
   fR kF.atName
   let(f,first) ←iY [ov] (iZ ov name (pl env))
   callWith pos f first (kj pos (fq args env)) []):=by intro _;rfl):aV G e (.Call (.Attribute o name kF) args [] pos) σ c σ3:=by
 intro α s env E ei g;refine kI (pl:=pl env) (jb (h1 α s env E ei g) λβ v s1 l1 g1 r1=>?_) (he env);obtain⟨a,b,vs,j,tk,t,rfl,ha,I,q⟩:=g1.uW en ed r1;refine yY (X.keeps λb o eb=>(g1.base b o eb).2) I k.ga k.gn hf ht (hs tk t) ?_;refine i_ (o:=of) (fd:=fd) (cZ h2.1 (jb (h2.2 β s1 env E (ei.mono l1) g1) λγ vs s2 l2 g2 r2=>?_));exact⟨⟨(g2.base _ _ ho).2,hdf⟩,wQ (h3 γ s2 (.ref a::vs) E g2 ⟨_,_,rfl,⟨a,rfl,l2.le _ trivial _ ha⟩,r2⟩) λzz zz w=>w.trans (l1.trans l2)⟩
theorem aV.JR{i: Int}{id:String}{pl:Env->Sem Bool}(k:Kl K C)(X:K.In G.h₀)(hf:fx K (.ref C) name=some (some (.builtin id)))(ht:typeIn K (.builtin id)=some (.type "method_descriptor"))
  (h1:aV G e o σ (.ref n) σ1) (en:σ1.get n=some (.cX C d xs)) (ed:σ1.get d=some (.size i)) (hs:∀tk t,shadowIn (some (rJ G.w.params i tk t)) name=some false) (h2:kG G e pos args σ1 cs σ2) (h3:bN G (λvs=>call (.builtin id) vs) (.ref n::cs) σ2 c σ3)
  (he:∀env,eval (.Call (.Attribute o name kF) args [] pos) env=(do
   let ov ←eval o env
   fR kF.atName
   let(f,first) ←iY [ov] (iZ ov name (pl env))
   callWith pos f first (kj pos (fq args env)) []):=by intro _;rfl):aV G e (.Call (.Attribute o name kF) args [] pos) σ c σ3:=by
 intro α s env E ei g;refine kI (pl:=pl env) (jb (h1 α s env E ei g) λβ v s1 l1 g1 r1=>?_) (he env);obtain⟨a,b,vs,j,tk,t,rfl,ha,I,q⟩:=g1.uW en ed r1;refine Mine.yZ (X.keeps λb o eb=>(g1.base b o eb).2) I k.ga k.gn hf ht (hs tk t) ?_;refine gB (plain_any h2.1) (cZ h2.1 (jb (h2.2 β s1 env E (ei.mono l1) g1) λγ vs s2 l2 g2 r2=>?_));exact wQ (h3 γ s2 (.ref a::vs) E g2 ⟨_,_,rfl,⟨a,rfl,l2.le _ trivial _ ha⟩,r2⟩) λzz zz w=>w.trans (l1.trans l2)
end
section
set_option maxHeartbeats 2000000
theorem AK:Slot "method_descriptor" "__get__" "method_descriptor.__get__" :=
 .of (owner:="method_descriptor") (n:="__get__") (by rw[typeLookup_type,builtinLookup_eq_fast];kernel_rfl) (by decide +kernel) (by decide +kernel) (by decide +kernel)
  (by first|exact .inl (by decide +kernel)|exact .inr (by decide +kernel)) (by rw[isSubtype_type];kernel_rfl)
theorem Gw:entryFor gJ "method_descriptor.__get__"=some de.«method_descriptor.__get__»:=entryFor_of_tree (by kernel_rfl)
theorem JS(a b c:af):argsOk "method_descriptor.__get__" ⟨[a,b,c],[]⟩:=by unfold argsOk;kernel_rfl
theorem qV:Slot "wrapper_descriptor" "__get__" "wrapper_descriptor.__get__" :=
 .of (owner:="wrapper_descriptor") (n:="__get__") (by rw[typeLookup_type,builtinLookup_eq_fast];kernel_rfl) (by decide +kernel) (by decide +kernel) (by decide +kernel)
  (by first|exact .inl (by decide +kernel)|exact .inr (by decide +kernel)) (by rw[isSubtype_type];kernel_rfl)
theorem vT:entryFor gJ "wrapper_descriptor.__get__"=some de.«wrapper_descriptor.__get__»:=entryFor_of_tree (by kernel_rfl)
theorem Ab(a b c:af):argsOk "wrapper_descriptor.__get__" ⟨[a,b,c],[]⟩:=by unfold argsOk;kernel_rfl
theorem Jp:(kfb_private% "ownerAndName") "list.pop"=("list","pop"):=by first|decide +kernel|kernel_rfl
theorem Jq:(kfb_private% "ownerAndName") "list.__len__"=("list","__len__"):=by first|decide +kernel|kernel_rfl
theorem EU:(kfb_private% "ownerAndName") "list.__init__"=("list","__init__"):=by first|decide +kernel|kernel_rfl
noncomputable abbrev lL(bt id:String)(x:Nat):Obj:={cls:=.type bt,data:=.fields #[.builtin id,.ref x]}
section
variable{M:fX}{A:b_}{E:af->aq->Prop}{s:aq}
theorem N_{id n:String}{x C:Nat}{P:PySem.Fin->aq->Prop}(hnt:Manifest.toldItsClass.contains id=false)(Qd:(kfb_private% "ownerAndName") id=("list",n))(hi:eO M s.heap (dU (.ref x) (.type "list")) true)
  (h:P (.done (.ret (.ref s.heap.objs.size))) {s with heap:=s.heap.push (lL "builtin_function_or_method" id x)}):
  ay M A (de.«method_descriptor.__get__» ⟨[.builtin id,.ref x,.ref C],[]⟩) P E s:=by
 unfold de.«method_descriptor.__get__»;refine aa (cT (a:=(Value.builtin id,some (bZ x),some (bZ C))) (by first|rfl|kernel_rfl) ?_);dsimp only;rw[hnt];rw[if_neg aJ];show ay M A ((kfb_private% "checkInstance") (.builtin id) (.ref x) >>= λzz=>newFields "builtin_function_or_method" [.builtin id,.ref x] >>= λr=>ret r) P E s;show ay M A (((let(owner,name):=(kfb_private% "ownerAndName") id;bA (name,bX owner):Sem (Str×af)) >>= _) >>= _) P E s;rw[Qd];refine aa (aa (ag ?_));dsimp only;refine aa (hi.here ?_);rw[if_neg (show ¬((!true)=true)from aJ)];refine ag (aa (dR (ag h)))
theorem Es{id n:String}{x C:Nat}{P:PySem.Fin->aq->Prop}(Qd:(kfb_private% "ownerAndName") id=("list",n))(hi:eO M s.heap (dU (.ref x) (.type "list")) true)
  (h:P (.done (.ret (.ref s.heap.objs.size))) {s with heap:=s.heap.push (lL "method-wrapper" id x)}):
  ay M A (de.«wrapper_descriptor.__get__» ⟨[.builtin id,.ref x,.ref C],[]⟩) P E s:=by
 unfold de.«wrapper_descriptor.__get__»;refine aa (cT (a:=(Value.builtin id,some (bZ x),some (bZ C))) (by first|rfl|kernel_rfl) ?_);dsimp only;show ay M A ((kfb_private% "checkInstance") (.builtin id) (.ref x) >>= λzz=>newFields "method-wrapper" [.builtin id,.ref x] >>= λr=>ret r) P E s;show ay M A (((let(owner,name):=(kfb_private% "ownerAndName") id;bA (name,bX owner):Sem (Str×af)) >>= _) >>= _) P E s;rw[Qd];refine aa (aa (ag ?_));dsimp only;refine aa (hi.here ?_);rw[if_neg (show ¬((!true)=true)from aJ)];refine ag (aa (dR (ag h)))
end
section
variable{prog:dW}{w:dj}{M:fX}{A:b_}{E:af->aq->Prop}{h:Heap}{g:Array GenState}{d:Drawn}{t:Nat}{os:cN}
theorem ur{so D x C:Addr}{l₀ l:List af}{K:Frag}{name:Str}{tk:Tok}{id Tn LY:String}{bo:Obj}{Q:PySem.Fin->aq->Prop}
  (RQ:h.get? so=some {cls:=.type "super",dict:=none,data:=.fields #[.ref D,.ref x,.ref C],slots:=#[]}) (Vn:eO (aZ prog w) h (opaqueClassAbove (.ref C)) none)
  (hC:eO (aZ prog w) h (mroOf (.ref C)) l₀) (hl:(l₀.dropWhile (· != .ref D)).drop 1=l) (X:K.In h)
  (hf:alongIn K name l=some (some (.builtin id))) (hT:∀s:aq,s.TypeIs (.builtin id) Tn) (Qi:jG (.type Tn) "__get__"=pure (some (.builtin LY))) (Vd:x≠C) (hn:(name==("__class__":Str))=false)
  (sg:∀(A:b_)(Q:af->aq->Prop)(E:af->aq->Prop),Q (.ref h.objs.size) ⟨h.push bo,g,d,t,os⟩->ay (aZ prog w) A (call (.builtin LY) [.builtin id,.ref x,.ref C]) Q E ⟨h,g,d,t,os⟩)
  (hq:Q (.done (.ret (.ref h.objs.size))) ⟨h.push bo,g,d,t,os⟩):
  ay (aZ prog w) A (de.«super.__getattribute__» ⟨[.ref so,.str name tk],[]⟩) Q E ⟨h,g,d,t,os⟩:=by
 have mQ:(bZ x==bZ C)=false:=by simp[Vd]
 have hTf:=hT ⟨h,g,d,t,os⟩;have hdt:({cls:=.type "super",dict:=none,data:=.fields #[.ref D,.ref x,.ref C],slots:=#[]}:Obj).data=.fields #[.ref D,.ref x,.ref C]:=rfl;have f0:(#[.ref D,.ref x,.ref C]:Array af)[0]?=some (.ref D):=rfl;have f1:(#[.ref D,.ref x,.ref C]:Array af)[1]?=some (.ref x):=rfl;have f2:(#[.ref D,.ref x,.ref C]:Array af)[2]?=some (.ref C):=rfl;unfold de.«super.__getattribute__»
 repeat (first
  |(with_reducible refine cU RQ hdt f0 ?_)|(with_reducible refine cU RQ hdt f1 ?_)|(with_reducible refine cU RQ hdt f2 ?_)
  |(with_reducible refine ks_wpAny_notOpaque Vn ?_)
  |(with_reducible refine Looks.at hC ?_;rw[hl])
  |(refine ks_forIn_along X (λzz zz=>rfl) rfl ?_ hf)
  |(with_reducible refine wpAny_typeOf hTf ?_)
  |(with_reducible refine sg _ _ _ ?_)
  |(simp only[hn,mQ,Bool.or_false,d4,if_false])
  |wp_step
  |dsimp only)
 all_goals exact hq
theorem n7{so D x C:Addr}{l₀ l:List af}{K:Frag}{name:Str}{id Tn LY:String}{bo:Obj}{pl:Sem Bool}{Q:af×List af->aq->Prop}
  (RQ:h.get? so=some {cls:=.type "super",dict:=none,data:=.fields #[.ref D,.ref x,.ref C],slots:=#[]}) (Vn:eO (aZ prog w) h (opaqueClassAbove (.ref C)) none)
  (hC:eO (aZ prog w) h (mroOf (.ref C)) l₀) (hl:(l₀.dropWhile (· != .ref D)).drop 1=l) (X:K.In h)
  (hf:alongIn K name l=some (some (.builtin id))) (hT:∀s:aq,s.TypeIs (.builtin id) Tn) (Qi:jG (.type Tn) "__get__"=pure (some (.builtin LY))) (Vd:x≠C) (hn:(name==("__class__":Str))=false)
  (sg:∀(t:Nat)(A:b_)(Q:af->aq->Prop)(E:af->aq->Prop),Q (.ref h.objs.size) ⟨h.push bo,g,d,t,os⟩->ay (aZ prog w) A (call (.builtin LY) [.builtin id,.ref x,.ref C]) Q E ⟨h,g,d,t,os⟩)
  (hq:Q (.ref h.objs.size,[]) ⟨h.push bo,g,d,t+1,os⟩):
  ay (aZ prog w) A (iZ (.ref so) name pl) Q E ⟨h,g,d,t,os⟩:=by
 have Vr:=F.ks_slot_super_ga.lookup;have G5:=F.ks_canon_super_ga;have hT':∀t',(⟨h,g,d,t',os⟩:aq).TypeIs (.ref so) "super":=λzz=>⟨_,RQ,rfl⟩;unfold iZ;refine aa (wpAny_specialOf (hT' _) Vr ?_);show ay _ _ (if(Manifest.canonical "super.__getattribute__" != "object.__getattribute__")=true then _ else _) _ _ _;rw[if_pos G5];unfold getAttr getAttrBy;refine aa (aa (wpAny_mkText (aX (aa (wpAny_typeOf (hT' _) (aa (cT Vr ?_)))))));show ay _ _ (getAttrByItsOwn (.ref so) (.str name t) (.type "super") (.builtin "super.__getattribute__") true false) _ _ _;unfold getAttrByItsOwn hookBefore callGetattribute boundAndCalled;refine aa (cT (show(if onTheHeap (.type "super")then jG (.type "super") "__getattr__" else pure none)=pure none from rfl) ?_);refine aa (k7 (aX ?_));show ay _ _ (bindSpecial (.builtin "super.__getattribute__") (.ref so) >>= _) _ _ _;refine aa (cT (F.ks_slot_super_ga.bind _) ?_);refine df (Q:=λv s'=>v=.ref h.objs.size/\s'=⟨h.push bo,g,d,t+1,os⟩) (E:=λzz zz=>False)
  (cP F.ks_slot_super_ga (hT' _) F.ks_entry_super_ga (ur RQ Vn hC hl X hf hT Qi Vd hn (sg _) ⟨_,rfl,rfl,rfl⟩) (F.ks_gaArgs_super _ _)) (λv s' hv=>?_) λzz zz z=>z.elim
 obtain⟨rfl,rfl⟩:=hv;exact ag (ag hq)
end
section
variable{M:fX}{A:b_}{E:af->aq->Prop}{s:aq}
theorem vt{pos:Pos}{u x:Nat}{bt id:String}{first:List af}{args:List (Bool×Sem af)}{Q:af->aq->Prop}(Qn:bt="builtin_function_or_method"∨bt="method-wrapper")(Qc:args.any (·.1)=false)
  (h:ay M A (evalArgs (.ref u) true args []) (λy cG=>cG.heap.get? u=some (lL bt id x)/\ay M A (call (.ref u) (first++y.pos) y.kw) Q E cG) E s):ay M A (callWith pos (.ref u) first args []) Q E s:=by
 unfold callWith;refine aa (aX (df h (λx cG s7=>aa (dQ ?_)) λzz zz x=>x));obtain⟨ho,sg⟩:=s7;rw[Qc];refine aa (m:=keeperOf (.ref u)) ?_;unfold keeperOf;refine aa (wpAny_load ho ?_);refine cT (a:=Keeper.machine) (by rcases Qn with rfl|rfl<;>kernel_rfl) ?_;exact aa (wQ sg λr lG hr=>aa (aX (wpAny_point (ag hr))))
end
section
variable{prog:dW}{w:dj}{A:b_}{E:af->aq->Prop}{s:aq}
theorem HI{u x:Nat}{bt id:String}{b:de}{Q:af->aq->Prop}(Qn:bt="builtin_function_or_method"∨bt="method-wrapper")(ho:s.heap.get? u=some (lL bt id x))(hp:plainId id=true)(hb:entryFor gJ id=some b)
  (hc:eO (aZ prog w) s.heap (fO id ⟨[.ref x],[]⟩) ())
  (h:ay (aZ prog w) A.in1 (b ⟨[.ref x],[]⟩) (λfin s'=>∃v,fin=.done (.ret v)/\Q v s') E s):ay (aZ prog w) A (call (.ref u) []) Q E s:=by
 refine iH (codeAny_of_tree ?_);show ay _ _ (callAny (.ref u) _) _ _ _;unfold callAny;refine aa (wpAny_load ho ?_);have VO:((bX bt==bX "method") || (bX bt==bX "builtin_function_or_method") || (bX bt==bX "method-wrapper"))=true:=by rcases Qn with rfl|rfl<;>decide
 have mQ:(bX bt != bX "method")=true:=by rcases Qn with rfl|rfl<;>decide
 show ay _ _ (if((bX bt==bX "method") || (bX bt==bX "builtin_function_or_method") || (bX bt==bX "method-wrapper"))=true then _ else _) _ _ _;rw[if_pos VO];show ay _ _ (if(bX bt != bX "method")=true then(fO id ⟨[.ref x],[]⟩ >>= λzz=>again (.builtin id ⟨[.ref x],[]⟩) >>= λr=>bA r)else _) _ _ _;rw[if_pos mQ];refine aa (hc.here ?_);refine ag ⟨k9 hp _,codeAny_builtin hb ?_⟩;rw[j9 hp _];refine df h (λfin s' hf=>?_) λzz zz e=>e;refine aH (hf) λv yu hv=>?_;obtain rfl:=yu;exact hv
end
theorem KH{x C:Nat}{K:Frag}{M:fX}{h:Heap}{ox:Obj}{od:Option Obj}{cd:ClassData}(X:K.In h)(I:InstAt h x ox C od)(aao:mroIn K C (.type "module")=some false)(hc:clsIn K C=some cd)(hT:typeIn K (.ref C)=some (.type "type"))
  (ha:∀yg,eB "list.pop"=some yg->jE "list.pop" {yg with full:=s!"{cd.qualname.toString}.{Bind.lastOf "list.pop"}"} ⟨[.ref x],[]⟩=bA ()):eO M h (fO "list.pop" ⟨[.ref x],[]⟩) ():=by
 unfold fO;cases hs:eB "list.pop" with
 |none=>exact .now
 |some yg =>
  dsimp only;rw[show lh "list.pop"=some .method by decide +kernel];dsimp only;rw[if_neg (by decide)];have L1:eO M h (dU (.ref x) (.type "module")) false:=by unfold dU;exact I.type.andThen (jR X aao)
  refine L1.andThen ?_;rw[if_neg (by decide +kernel)];have L2:eO M h (isType (.ref x)) false:=by
   intro A Q E s k q;obtain⟨hp,g,d,t,os⟩:=s;refine ks_wpAny_isType_inst (k _ _ I.at_) (λc e=>?_) q;have:=I.no;unfold notCls at this;rw[e]at this;cases this
  refine L2.andThen ?_;rw[if_neg (by decide)];refine I.type.andThen ?_;dsimp only;refine(looks_clsIn X hc).andThen ((looks_typeIn X hT).andThen ?_);rw[if_pos (by decide)];exact Looks.of_pure (ha yg hs)
variable{G:Gv}{σ σ1:St}{c:CV}{xs:List CV}{n C d:Nat}{i:Int}
def Run(G:Gv)(n:Nat)(b:de)(σ:St)(c:CV)(σ':St):Prop:=∀A α s a E,GS G α σ s->α.f n=some a->ay G.M A (b ⟨[.ref a],[]⟩) (λfin s'=>∃v,fin=.done (.ret v)/\W VR G α s.heap c σ' v s') E s
theorem Jf(e:σ.get n=some (.cX C d (xs++[c])))(ed:σ.get d=some (.size i))(hf:xs.length<2^20):Run G n de.«list.pop» σ c (σ.set n (.cX C d xs)):=by
 intro A α s a E g ha;refine c_ λj7 ef=>?_;obtain⟨a',b,ws,j,tk,t,ev,qZ,I,q⟩:=g.uW e ed ⟨a,rfl,ha⟩;cases ev;have hl:=q.length;rw[aC,List.length_singleton]at hl;obtain⟨Ia,v,rfl⟩:∃Ia v,ws=Ia++[v]:=by
  have:ws≠[]:=by intro h;rw[h]at hl;cases hl
  exact qw ws.dropLast (ws.getLast this) ((List.dropLast_concat_getLast this).symm)
 refine ef ?_;have hl':Ia.length=xs.length:=by rw[aC,List.length_singleton]at hl;exact Nat.succ.inj hl
 have r1:=q.take xs.length;have r2:=q.drop xs.length;rw[List.take_left' rfl,List.take_left' hl']at r1;rw[List.drop_left' rfl,List.drop_left' hl']at r2;refine fu (r2) λzz zz e3 rv MT=>?_;obtain rfl:=MT;cases e3;have u:=g.N7 (f:=(·.eraseIdxIfInBounds Ia.length)) (ws:=Ia) (ys:=xs) e ha I.at_ (by
  apply Array.toList_inj.mp;simp[List.eraseIdx_append_of_length_le]) r1 s.toks
 unfold de.«list.pop»;refine aa (cT (show selfAndSome "list.pop" "pop" 0 1 ⟨[.ref a],[]⟩=bA (bZ a,[]) by rfl) ?_);refine aa (ag ?_);dsimp only;rw[show cK (-1)=true from rfl];rw[if_neg (show ¬((!true)=true)from aJ)];refine aa (listItems_at I.at_ rfl ?_);have hi:((jQ (-1) (Ia++[v]).toArray.size).bind λk=>(Ia++[v]).toArray[k]?.map (k,·))=some (Ia.length,v):=by
  have:jQ (-1) (Ia++[v]).toArray.size=some Ia.length:=by
   unfold jQ;simp;lia
  rw[this];simp
 rw[if_neg (by simp),hi];refine aa (k_ I.at_ rfl ?_ (by simp at hl ⊢;exact dn (by lia)) (by simp[List.eraseIdx_append_of_length_le];rw[gK];simp at hl;lia));exact ag ⟨_,rfl,α,u.1,u.2,rv.mono u.1⟩
theorem Jg(e:σ.get n=some (.cX C d xs))(ed:σ.get d=some (.size i)):Run G n de.«list.__len__» σ (.int xs.length) σ:=by
 intro A α s a E g ha;refine c_ λj7 ef=>?_;obtain⟨a',b,ws,j,tk,t,ev,qZ,I,q⟩:=g.uW e ed ⟨a,rfl,ha⟩;cases ev;refine ef ?_;unfold de.«list.__len__»;refine aa (cT (show slotArgs "__len__" 0 ⟨[.ref a],[]⟩=bA (bZ a,[]) by rfl) ?_);dsimp only;unfold seqSize;refine aa (aa (fM I.at_ (ag ?_)));have hl:((ws.toArray.size:Nat):Int)=xs.length:=by rw[dJ,q.length]
 rw[hl];exact aa (wpAny_mkInt (ag ⟨_,rfl,g.gx ⟨_,rfl⟩⟩))
theorem Eu(e:σ.get n=some (.cX C d []))(ed:σ.get d=some (.size i)):Run G n de.«list.__init__» σ .none σ:=by
 intro A α s a E g ha;refine c_ λj7 ef=>?_;obtain⟨a',b,ws,j,tk,t,ev,qZ,I,q⟩:=g.uW e ed ⟨a,rfl,ha⟩;cases ev;obtain rfl:=q;refine ef ?_;have u:=g.N7 (f:=λzz=>#[]) (ws:=[]) (ys:=[]) e ha I.at_ rfl rfl s.toks;rw[St.set_same e]at u;unfold de.«list.__init__»;dsimp only;simp only[List.isEmpty_nil,Bool.not_true,d4,if_false];rw[if_neg (by decide)];refine aa (listItems_at I.at_ rfl ?_);refine aa (k_ I.at_ rfl ?_ (by simp) (by simp));refine aa (wpAny_letGo ?_);exact ag ⟨_,rfl,α,u.1,u.2,rfl⟩
end
section
set_option maxHeartbeats 2000000
variable{G:Gv}{m:Nat}{e:Env}{P:Env->Prop}{body:List Stmt}{σ σ1 σ2 σ3:St}{a b c:CV}{f:CF}{cs ks xs:List CV}{n C d:Nat}{K:Frag}
def uf(G:Gv)(m:Nat)(e:Env)(P:Env->Prop)(body x:List Stmt)(σ:St)(f:CF)(σ':St):Prop:=∀α s env E,EI α e env->P env->GS G α σ s->_root_.PySem.wpAt G.M G.A (.func body env) (jr x env) (WM m G α s.heap f σ') E s
def Yh(G:Gv)(e:Env)(P:Env->Prop)(body:List Stmt)(x:Expr)(σ:St)(c:CV)(σ':St):Prop:=∀α s env E,EI α e env->P env->GS G α σ s->_root_.PySem.wpAt G.M G.A (.func body env) (eval x env) (W VR G α s.heap c σ') E s
theorem uf.of{x}(h:eA G m e x σ f σ1):uf G m e P body x σ f σ1:=λα s env E i zz g=>_root_.PySem.wpAt_of_wpAny (h α s env E i g)
theorem uf.cons{st bM}(h:SS G m e st σ .next σ1)(k:uf G m e P body bM σ1 f σ2)(hb:EB m e=true):uf G m e P body (st::bM) σ f σ2:=by
 intro α s env E i p g;refine mD (_root_.PySem.wpAt_of_wpAny (SW (h α s env E i g) λβ s1 x g1=>?_));exact _root_.PySem.wpAt_mono (k β s1 env E (i.oq x hb) p g1) (λzz zz w=>w.trans x) λzz zz w=>w
theorem uf.jK{t x y pos}{b: Bool}(h:cD G e t σ b σ1)(k:uf G m e P body (if b then x else y) σ1 f σ2)(hf:f.uO=true){bM}:uf G m e P body (.If t x y pos::bM) σ f σ2:=by
 intro α s env E i p g;refine mD (ks_wpAt_If (_root_.PySem.wpAt_of_wpAny (yv (h α s env E i g) λβ s1 x g1=>?_)));have go:∀{z},uf G m e P body z σ1 f σ2->_root_.PySem.wpAt G.M G.A (.func body env) (jr z env) (λf' s'=>match f' with | .next=>_root_.PySem.wpAt G.M G.A (.func body env) (jr bM env) (WM m G α s.heap f σ2) E s'|f'=>WM m G α s.heap f σ2 f' s') E s1:=λk=>by
  refine _root_.PySem.wpAt_mono (k β s1 env E (i.mono x) p g1) (λv s2 w=>?_) λzz zz w=>w;have w:=w.trans x.mL;cases v with
  |next=>obtain⟨γ,y,g2,r⟩:=w;cases f with
   |next=>cases hf
   |brk=>cases r
   |cont=>cases r
   |ret c=>obtain⟨v,q,_⟩:=r;cases q
  |brk=>exact w
  |cont=>exact w
  |ret v=>exact w
 cases b
 ·exact go k
 ·exact go k
theorem uf.ret{x pos bM}(h:Yh G e P body x σ c σ1):uf G m e P body (.Return (some x) pos::bM) σ (.ret c) σ1:=by
 intro α s env E i p g;refine mD (ks_wpAt_Return_some (_root_.PySem.wpAt_mono (h α s env E i p g) (λv s1 w=>?_) λzz zz w=>w));obtain⟨β,x,g1,r1⟩:=w;exact⟨β,x.mL,g1,v,rfl,r1⟩
theorem uf.expr{x pos bM}(h:Yh G e P body x σ .none σ1)(k:uf G m e P body bM σ1 f σ2)(hb:EB m e=true)(hk:(e.scope.kind==.function)=true:=by rfl)(hc:oK x=false:=by rfl):uf G m e P body (.Expr x pos::bM) σ f σ2:=by
 intro α s env E i p g;have hi:interactive env=false:=by
  unfold interactive;rw[i.scope,beq_iff_eq.mp hk];rfl
 refine mD (ks_wpAt_Expr_any (_root_.PySem.wpAt_mono (h α s env E i p g) (λv s1 w=>?_) λzz zz w=>w) hi (rV hc _ _ _));obtain⟨β,x,g1,r1⟩:=w;exact _root_.PySem.wpAt_mono (k β s1 env E (i.oq x.mL hb) p g1) (λzz zz w=>w.trans x.mL) λzz zz w=>w
structure lA(G:Gv)(K:Frag)(C:Nat)(env:Env):Prop where
 ks:env.kindOf "super"=some .globalImplicit
 kc:env.kindOf "__class__"=some .free
 kd:env.scope.kind=.function
 gl:env.globals=3
 bu:env.builtins=0
 sup:Glob G "super" (.type "super")
 fn:∃f of fd ar,env.func=some f/\G.h₀.get? f=some of/\of.data=.func fd/\(fd.params.posonlyargs++fd.params.args).head?=some ar/\ar.arg=aE "self"
 code:∃cc oc vs file tf,env.code=.ref cc/\G.h₀.get? cc=some oc/\oc.data=.fields vs/\vs[2]?=some (.str file tf)/\((G.prog.main.file:Str)==file)=true
 top:(G.prog.main.scope.names.lookup ("super":Str)).isSome=false
 cell:∃cca,env.cells.lookup (aE "__class__")=some cca/\G.h₀.IsCell cca (some (.ref C))
 cls:∃cd,clsIn K C=some cd/\mroIn K C (.ref C)=some true/\((cd.mro.dropWhile (· != .ref C)).drop 1)=[.type "list",.type "object"]
 Zj:nsIn K cStatics "thirdparty.any"=some none
theorem sy{C: Addr}{cd:ClassData}(h:clsIn K C=some cd):∃o,K.lookup C=some o/\o.data=.cls cd:=by
 unfold clsIn at h;cases hl:K.lookup C with
 |none=>rw[hl]at h;cases h
 |some o =>
  rw[hl]at h;obtain⟨c,d,da,sl⟩:=o;cases da<;>first|(cases h;done)|(cases h;exact⟨_,rfl,rfl⟩)
theorem Yh.super{i: Int}{mm: List (Str×CV)}{p0 p1 kF pos: Pos}{name: Str}{id Tn LY bt:String}{bl:de}{pl:Env->Sem Bool}(k:Kl K C)(X:K.In G.h₀)(hP:∀env,P env->lA G K C env)
  (hl:bx e (aE "self") .local=true) (hf:σ.get e.locals=some (.frame mm)) (hm:mm.lookup (aE "self")=some (.ref n)) (hx:σ.get n=some (.cX C d xs)) (hd:σ.get d=some (.size i))
  (hn:(name==("__class__":Str))=false) (VF:alongIn K name [.type "list",.type "object"]=some (some (.builtin id))) (hT:∀s:aq,s.TypeIs (.builtin id) Tn) (Qi:jG (.type Tn) "__get__"=pure (some (.builtin LY)))
  (Qn:bt="builtin_function_or_method"∨bt="method-wrapper")
  (sg:∀(a:Nat)(s:aq)(A:b_)(Q:af->aq->Prop)(E:af->aq->Prop),eO G.M s.heap (dU (.ref a) (.type "list")) true->Q (.ref s.heap.objs.size) {s with heap:=s.heap.push (lL bt id a)}->ay G.M A (call (.builtin LY) [.builtin id,.ref a,.ref C]) Q E s)
  (hp:plainId id=true) (hb:entryFor gJ id=some bl) (hc:∀(h:Heap)(a:Nat)(ox od:Obj),K.In h->InstAt h a ox C (some od)->eO G.M h (fO id ⟨[.ref a],[]⟩) ())
  (s_:Run G n bl σ c σ1)
  (he:∀env,eval (.Call (.Attribute (.Call (.Name "super" p0) [] [] p1) name kF) [] [] pos) env=(do
   let ov ←attributeBase (.Call (.Name "super" p0) [] [] p1) name env (eval (.Call (.Name "super" p0) [] [] p1) env)
   fR kF.atName
   let(f,first) ←iY [ov] (iZ ov name (pl env))
   callWith pos f first (kj pos (fq [] env)) []):=by intro _;rfl):
  Yh G e P body (.Call (.Attribute (.Call (.Name "super" p0) [] [] p1) name kF) [] [] pos) σ c σ1:=by
 intro α s env E ei pe g;have S:=hP env pe;refine Sm (S.fn) λf of fd ar hfu hfo hfd aaj har=>?_;refine Sl (S.code) λcc oc vs file tf zv hcc hoc hvs VG=>?_;refine aH (S.cell) λcca G4 hic=>?_;refine kK (S.cls) λcd uS sd aan=>?_;have kp:=λb o eb=>(g.base b o eb).2;refine ks_wpAt_MethodCall (pl:=pl env) ?_ (he env);refine ks_wpAt_super_base S.ks S.kc hn hfu (kp _ _ hfo) hfd aaj zv (kp _ _ hcc) hoc hvs VG S.top ?_;have sup:∀Q:af->aq->Prop,Q (.type "super") s->ay G.M G.A (loadName env "super") Q E s:=λQ h=>by
  rw[jS S.kd S.ks];rcases S.sup with⟨mg,n1,e1⟩|⟨mg,mb,n1,e1,n2,e2⟩
  ·exact mJ (S.gl▸n1.keeps kp) e1 h
  ·exact iM (S.gl▸n1.keeps kp) e1 (S.bu▸n2.keeps kp) e2 h
 refine sup _ ⟨rfl,?_⟩;refine wpAny_loadName_free S.kd S.kc G4 (hic.keeps kp) ?_;rw[har];have hl:=bx.is hl ei;refine c_ λj7 ef=>?_;obtain⟨L,hL,mf,qi,hr⟩:=g.own _ _ hf;cases hL.symm.trans ei.loc;refine ef ?_;refine aH (hr _ _ hm) λv hv rv=>?_;refine iG hl.1 hl.2 qi hv ?_;obtain⟨a,b,ws,j,tk,tt,rfl,ha,I,q⟩:=g.uW hx hd rv;have X1:K.In s.heap:=X.keeps kp;obtain⟨hh,gg,dr,t,os⟩:=s;obtain⟨oD,hD1,hD2⟩:∃oD,hh.get? C=some oD/\oD.data=.cls cd:=by
  exact aH (sy uS) λo ho ed=>⟨o,X1 _ _ ho,ed⟩
 have Vd:a≠C:=ks_ne X1 I uS;refine ks_wpAny_isType_cls hD1 hD2 ⟨rfl,?_⟩;refine ks_wpAny_call_super hD1 hD2 I.at_ I.cls (λc e=>?_) (jR X1 sd) (λh' e kk=>?_)
 ·cases e
 ·have t2:=g.same (h':=h') kk t
  have X2:K.In h':=X1.keeps kk;have I2:InstAt h' a (ny C b ws j) C (some (rJ G.w.params i tk tt)):=⟨kk _ _ I.at_,rfl,rfl,kk _ _ I.dict⟩;refine n7 (bo:=lL bt id a) e (looks_opaque X2 S.Zj) (l₀:=cd.mro) ?_ aan X2 VF hT Qi Vd hn (λt A Q E q=>sg a ⟨h',gg,dr,t,os⟩ A Q E (k.inst X2 I2) q) ?_
  ·exact λA Q E s k q=>aa ((looks_clsIn X2 uS) A _ E s k (ag q))
  ·have up:∀b o,h'.get? b=some o->(h'.push (lL bt id a)).get? b=some o:=λb o e=>aw _ e
   have t3:=t2.2.same (h':=h'.push (lL bt id a)) up (t+1);have hbo:(h'.push (lL bt id a)).get? h'.objs.size=some (lL bt id a):=aM _ rfl;refine vt (bt:=bt) (id:=id) (x:=a) Qn rfl ?_;refine cZ (args:=[]) rfl (ju ⟨hbo,?_⟩);refine HI Qn hbo hp hb (hc _ _ _ _ (X2.keeps up) ⟨up _ _ I2.at_,rfl,rfl,up _ _ I2.dict⟩) ?_;refine wQ (s_ _ α _ a _ t3.2 ha) ?_;intro fin s' Na;refine aH (Na) λv MC w=>?_;obtain rfl:=MC;exact⟨v,rfl,w.trans (t2.1.trans t3.1)⟩
end
section
set_option maxHeartbeats 2000000
variable{G:Gv}{m:Nat}{P:Env->Prop}{σ σ1 σ2:St}{f:CF}{cs:List CV}{n C d:Nat}{K:Frag}{body:List Stmt}{a:Nat}{fd:cm}
theorem lA.deep{env aaH: Env}(S:lA G K C env):lA (Mine.deep G aaH) K C env:=⟨S.ks,S.kc,S.kd,S.gl,S.bu,S.sup,S.fn,S.code,S.top,S.cell,S.cls,S.Zj⟩
theorem qN{rb: List (Str×CV)}{α: AM}{s: aq}{vs: List af}{R:Result->aq->Prop}(room:G.A.depth<b9)(D:f9 G a fd)(kS:G.h₀.NoLimit)(uS:G.h₀.CodeRec fd.code fd.qualname)(xw:fd.body=.stmts body)
  (j3:∃dh,bW s fd ⟨vs,[]⟩ dh/\dh.reverse.map (·.1)=rb.map (·.1)/\dq α s.heap (rb.map (·.2)) (dh.reverse.map (·.2)))
  (nE:(fd.scope.names.all λx=>x.2 != .cell)=true) (hk:(rb.all λp=>fd.scope.names.lookup p.1==some .local)=true) (hP:∀L,P (callEnv fd L a)) (hm:σ.n<=m)
  (h:∀env,uf (deep G env) m (entryE fd [] σ.n a) P body body (σ.push (.frame rb)) f σ2) (g:GS G α σ s) (hR:∀v s',W VR G α s.heap (tE f) σ2 v s'->R (.ok (.ret v)) s')
  (zv:fd.scope.isCoroutine=false) (zu:fd.scope.isGenerator=false) (RS:fd.scope.kind=.function):codeAny G.M G.A (.call (.ref a) ⟨vs,[]⟩) R s:=by
 refine aH (D) λo ho hd=>?_;refine kK (j3) λdh hb he hv=>?_;have kp:=λb o eb=>(g.base b o eb).2;refine ks_codeAny_call_defAt room (kp _ _ ho) hd (kS.keeps kp) (uS.keeps kp) xw hb (λx hx q=>?_) (λx hx=>?_) (λh1 qi hk1=>?_) zv zu RS
 ·have:=List.all_eq_true.mp nE x hx
  rw[q]at this;cases this
 ·have:x.1∈rb.map (·.1):=he▸List.mem_map.mpr ⟨x,List.mem_reverse.mpr hx,rfl⟩
  refine aH (List.mem_map.mp this) λy hy e=>?_;rw[←e];exact beq_iff_eq.mp (List.all_eq_true.mp hk y hy)
 ·have t:=g.more (h':=h1) (ao:=.frame rb) hk1 (eG _) (λle=>⟨_,qi,λy c hy=>by obtain⟨v,Qb,r⟩:=(dq.lookup (x:=y) he hv).2 c hy;exact⟨v,Qb,r.mono le⟩⟩) (s.toks+dh.length)
  have ei:EI (α.add σ.n s.heap.objs.size) (entryE fd [] σ.n a) (callEnv fd s.heap.objs.size a):=⟨AM.d7 _ _ _,λx k e=>(nomatch e),rfl,rfl,rfl,rfl,rfl⟩;refine _root_.PySem.wpAt_mono (h (callEnv fd s.heap.objs.size a) _ _ _ _ ei (hP _) (t.2.deep _)) (λv s2 w=>?_) λzz zz w=>w;obtain⟨β,x2,g2,r2⟩:=w;have yi:Le α s.heap β s2.heap:=qt.trans' t.1 x2 λk b zz e=>x2.le k (aA (by
    cases iB k σ.n with
    |inl q=>exact q
    |inr q=>rw[g.new k q]at e;cases e) hm) b (t.1.le k trivial b e)
  have g3:GS G β σ2 s2:=g2.uj;cases f with
  |next=>obtain rfl:=r2;exact hR _ _ ⟨β,yi,g3,rfl⟩
  |brk=>obtain rfl:=r2;exact hR _ _ ⟨β,yi,g3,rfl⟩
  |cont=>obtain rfl:=r2;exact hR _ _ ⟨β,yi,g3,rfl⟩
  |ret c=>obtain⟨v,rfl,r⟩:=r2;exact hR _ _ ⟨β,yi,g3,r⟩
theorem SL.Hr{rb: List (Str×CV)}(room:G.A.depth<b9)(D:f9 G a fd)(kS:G.h₀.NoLimit)(uS:G.h₀.CodeRec fd.code fd.qualname)(xw:fd.body=.stmts body)
  (j3:∀α s vs,GS G α σ s->dq α s.heap cs vs->∃dh,bW s fd ⟨vs,[]⟩ dh/\dh.reverse.map (·.1)=rb.map (·.1)/\dq α s.heap (rb.map (·.2)) (dh.reverse.map (·.2)))
  (nE:(fd.scope.names.all λx=>x.2 != .cell)=true) (hk:(rb.all λp=>fd.scope.names.lookup p.1==some .local)=true) (hP:∀L,P (callEnv fd L a)) (hm:σ.n<=m)
  (h:∀env,uf (deep G env) m (entryE fd [] σ.n a) P body body (σ.push (.frame rb)) f σ2) (zv:fd.scope.isCoroutine=false) (zu:fd.scope.isGenerator=false) (RS:fd.scope.kind=.function):bN G (λvs=>call (.ref a) vs) cs σ (tE f) σ2:=by
 intro α s vs E g r;exact iH (qN (P:=P) room D kS uS xw (j3 α s vs g r) nE hk hP hm h g (λv s' w=>w) zv zu RS)
end
section
set_option maxHeartbeats 4000000
variable{i:Nat}{x:af}{items:Array af}{l:Addr}
def SeqAt(h:Heap)(a:Nat)(items:Array af):Prop:=∃o n,h.get? a=some o/\o.data=.seq items n
section
variable{prog:dW}{w:dj}{A:b_}{E:af->aq->Prop}{s:aq}
theorem sZ{it: Addr}{Q:Option af->aq->Prop}(hit:s.heap.IsListIter it l i)(hl:SeqAt s.heap l items)(hx:items[i]?=some x)
  (hQ:∀h',h'.IsListIter it l (i+1)->Heap.SameBut it s.heap h'->Q (some x) {s with heap:=h'}):ay (aZ prog w) A (jJ (.ref it)) Q E s:=by
 refine kK (id hit) λo ho hc hd=>?_;refine kJ (hl) λol nl hol hdl=>?_;unfold jJ;refine aa (k7 (eX (name:=aE "__next__") hit.typeIs mu (cP mu hit.typeIs entry_listiter_next ?_ (args_listiter_next _))));show ay _ _ (field (.ref it) 0 >>= _) _ _ s;refine aa (cU ho hd (x:=.ref l) rfl ?_);show ay _ _ (if(bZ l==i3)=true then _ else _) _ _ s;rw[if_neg (show ¬((bZ l==i3)=true)from aJ)];show ay _ _ (field (.ref it) 1 >>= _) _ _ s;refine aa (cU ho hd (x:=.int i 0) rfl ?_);show ay _ _ (seqItems? (.ref l) >>= _) _ _ s;refine aa (iF hol hdl ?_);dsimp only;rw[show items[((i:Nat):Int).toNat]?=some x from hx];refine aa (wpAny_setField ho hd (by simp) (ag ⟨x,rfl,ag (hQ _ ?_ (fI ..))⟩));exact⟨_,fF _ ho (Obj.isFreed_of_fields (Obj.data_mapFields hd _)),(Obj.cls_mapFields ..).trans hc,by
  rw[Obj.data_mapFields hd];simp[d5]⟩
theorem uL{it l: Addr}{i: Nat}{items: Array af}{Q:Option af->aq->Prop}(hh:A.handled=none)
  (hit:s.heap.IsListIter it l i) (hl:SeqAt s.heap l items) (hx:items[i]?=none)
  (hQ:∀h',Heap.ExtBut it s.heap h'->Q none {s with heap:=h'}):ay (aZ prog w) A (jJ (.ref it)) Q E s:=by
 refine kK (id hit) λo ho hc hd=>?_;refine kJ (hl) λol nl hol hdl=>?_;unfold jJ;refine aa (k7 (eX (name:=aE "__next__") hit.typeIs mu
  (cP mu hit.typeIs entry_listiter_next ?_ (args_listiter_next _))))
 show ay _ _ (field (.ref it) 0 >>= _) _ _ s;refine aa (cU ho hd (x:=.ref l) rfl ?_);show ay _ _ (if(bZ l==i3)=true then _ else _) _ _ s;rw[if_neg (show ¬((bZ l==i3)=true)from aJ)];show ay _ _ (field (.ref it) 1 >>= _) _ _ s;refine aa (cU ho hd (x:=.int i 0) rfl ?_);show ay _ _ (seqItems? (.ref l) >>= _) _ _ s;refine aa (iF hol hdl ?_);dsimp only;rw[show items[((i:Nat):Int).toNat]?=none from hx];refine aa (eZ (aa (wpAny_setField ho hd (by simp) ?_)));show ay _ _ (newExc (.type "StopIteration") [] >>= _) _ _ _;refine aa ?_;unfold newExc newTuple;refine aa (dR ?_ (by size_fits));refine aa (m:=firstArgMember _ _) (cT (a:=i3) (by first|rfl|(simp only[firstArgMember];rfl)) ?_);refine dR ?_ (by size_fits);unfold raiseNew;refine aa (wpAny_handled ?_);rw[show A.in1.handled=none from hh];refine aa (ag (wpAny_throw ?_));refine aa (iX (T:="StopIteration") (b:=true) ⟨_,aM _ rfl,rfl⟩ isSubtype_stop ?_);exact ag (hQ _ (((fI ..).extBut.push _).push _))
theorem WalksU.cX(hh:A.handled=none)(I ax:Addr)(mQ:ax≠I)(items:Array af)(Ts:Nat->Addr)(vals:Nat->Array af)
  (hit:∀j,j<items.size->items[j]?=some (.ref (Ts j))) (RX:∀j,j<items.size->Ts j≠I):
  WalksU prog w A I (I::ax::(az items.size).map Ts) [I] items.size (λj v=>j<items.size/\v=vals j)
   (λj h=>h.IsListIter I ax j/\SeqAt h ax items/\∀k,k<items.size->h.IsTuple (Ts k) (vals k))
   (λj T h=>(j<items.size/\T=Ts j)/\h.IsListIter I ax (j+1)/\SeqAt h ax items/\∀k,k<items.size->h.IsTuple (Ts k) (vals k)) where
 sub:=λb hb=>by simp at hb;simp[hb]
 frame:=λzz zz zz st hk=>⟨st.1.at λo e=>hk I (by simp) o e,(let⟨o,n,e,d⟩:=st.2.1;⟨o,n,hk ax (by simp) o e,d⟩),
  λk xv=>(st.2.2 k xv).at λo e=>hk (Ts k) (List.mem_cons_of_mem _ (List.mem_cons_of_mem _ (List.mem_map.mpr ⟨k,List.mem_range.mpr xv,rfl⟩))) o e⟩
 item:=λi s Q E hi st hQ=>by
  refine sZ st.1 st.2.1 (x:=.ref (Ts i)) (hit i hi) λh' aar uQ=>?_;have tup:∀k,k<items.size->h'.IsTuple (Ts k) (vals k):=λk xv=>(st.2.2 k xv).extBut uQ.extBut (RX k xv);exact hQ (Ts i) (vals i) h' s.toks ⟨hi,rfl⟩ (tup i hi) ⟨⟨hi,rfl⟩,aar,(let⟨o,n,e,d⟩:=st.2.1;⟨o,n,uQ.extBut _ _ mQ e,d⟩),tup⟩ λb o hb e=>uQ.extBut b o (λh=>hb (by simp[h])) e
 go:=λzz zz zz zz zz s Q zz hm hQ=>wpAny_letOwnedTupleGo_listiter hm.2.1 (hQ s.heap hm.2 λzz zz zz e=>e)
 apart:=λj T zz hm Qg=>by
  rcases List.mem_cons.mp Qg with e|e
  ·exact RX j hm.1.1 (hm.1.2▸e)
  ·cases e
 done:=λs Q E st hQ=>uL hh st.1 st.2.1 (by simp) λh' he'=>hQ h' s.toks λb o hb e=>he' b o (λh=>hb (by simp[h])) e
 self:=λzz zz zz zz st hQ=>wpAny_pyIter_listiter st.1 hQ
theorem Cu{K: Frag}{x C: Addr}{ox: Obj}{od: Option Obj}{Q:af->aq->Prop}(X:K.In s.heap)(I:InstAt s.heap x ox C od)(sd:mroIn K C (.type "list")=some true)(hf:fx K (.ref C) "__iter__"=some (some (.builtin "list.__iter__")))
  (h:Q (.ref s.heap.objs.size) {s with heap:=s.heap.push {cls:=.type "list_iterator",data:=.fields #[.ref x,.int 0 0]}}):ay (aZ prog w) A (fN (.ref x)) Q E s:=by
 have hi:eO (aZ prog w) s.heap (dU (.ref x) (.type "list")) true:=by unfold dU;exact I.type.andThen (jR X sd)
 have L:eO (aZ prog w) s.heap (specialOf (.ref x) "__iter__") (some (.builtin "list.__iter__")):=I.type.andThen (eF X hf);have hb:∀self,bindSpecial (.builtin "list.__iter__") self=pure (.builtin "list.__iter__",[self]):=slot_list_iter.bind;unfold fN;refine aa (L.here ?_);show ay _ _ (lb (.ref x) "__iter__" _ >>= _) Q E s;refine aa (?_:ay _ _ (lb (.ref x) "__iter__" _) _ E s);unfold lb bindSpecialIfBound?;refine aX (aa (aa (L.here ?_)));dsimp only;rw[hb];refine aa (wpAny_askSetting (wpAny_ite ?_));have fin:∀(E':af->aq->Prop)(refuse:Sem af)(Q':Option af->aq->Prop),Q' (some (.ref s.heap.objs.size)) {s with heap:=s.heap.push {cls:=.type "list_iterator",data:=.fields #[.ref x,.int 0 0]}} ->
   ay (aZ prog w) A (if(Value.builtin "list.__iter__"==i3)=true then(refuse >>= λv=>pure (some v))else(call (.builtin "list.__iter__") [.ref x] >>= λv=>pure (some v))) Q' E' s:=by
  intro E' refuse Q' hq;rw[if_neg (by decide)];refine aa (sH (owner:="list") (n:="__iter__") (.inl (by decide +kernel)) (by decide +kernel) (by decide +kernel) hi entry_list_iter ?_ (args_list_iter _));show ay _ _ (do ret (←newFields "list_iterator" [.ref x,d5 0])) _ _ s;exact aa (dR (ag ⟨_,rfl,ag hq⟩))
 have last:ay (aZ prog w) A (match(some (bZ s.heap.objs.size):Option af)with
   |some it=>do
    match ←specialOf it "__next__" with
    |none=>rule "iter.non-iterator";raiseError "TypeError" s!"iter() returned non-iterator of type '{← typeNameOf it}'"
    |some _=>pure it
   |none=>pure i3) Q E {s with heap:=s.heap.push {cls:=.type "list_iterator",data:=.fields #[.ref x,.int 0 0]}}:=by
  refine aa (wpAny_specialOf (T:="list_iterator") ⟨_,aM _ rfl,rfl⟩ slot_listiter_next.lookup (ag h))
 split
 ·refine aa (ag (ag (fin _ _ _ ?_)))
  exact last
 ·refine wpAny_tryCatch (aa (ag (ag (fin _ _ _ ?_))))
  exact last
end
section
variable{prog:dW}{w:dj}{A:b_}{E:af->aq->Prop}{s:aq}
noncomputable def pU(k:Int)(val:Nat->Int):Nat->Int
 |0=>k
 |i+1=>val i
theorem oY(k:Int)(val:Nat->Int):∀n,preSum (pU k val) (n+1)=k+preSum val n
 |0=>by simp[preSum,pU]
 |n+1=>by
  have:=oY k val n;show preSum (pU k val) (n+1)+val n=k+(preSum val n+val n);rw[this];lia
theorem WalksS.shift{I: Addr}{fp wr: List Addr}{G:Array GenState->Array GenState->Prop}{n: Nat}{P:Nat->af->Prop}{St:Nat->aq->Prop}(W:WalksS prog w A I fp wr G n P St):
  WalksS prog w A I fp wr G (n+1) (λi v=>∃j,i=j+1/\P j v) (λi s=>∃j,i=j+1/\St j s) where
 sub:=W.sub
 grefl:=W.grefl
 gtrans:=W.gtrans
 frame:=λi s h' tk st ht hk=>let⟨j,e,st⟩:=st;⟨j,e,W.frame j s h' tk st ht hk⟩
 item:=λi s Q E hi st hQ=>by
  obtain⟨j,rfl,st⟩:=st;exact W.item j s Q E (by lia) st λv s' p Rv m=>hQ v s' ⟨j,rfl,p⟩ ⟨j+1,rfl,Rv⟩ m
 done:=λs Q E st hQ=>by
  refine aH (st) λj e st=>?_;obtain rfl:n=j:=by lia
  exact W.done s Q E st hQ
 self:=λi s Q E st hq=>let⟨j,e,st⟩:=st;W.self j s Q E st hq
theorem CX(a b:af):argsOk "sum" ⟨[a,b],[]⟩:=by unfold argsOk;kernel_rfl
theorem sG{x: af}{k: Int}{Ru:Tok}{Q:af->aq->Prop}(hk:(decide (-(2^63)<=k)&&decide (k<2^63))=true)
  (h:ay (aZ prog w) A.in1 (fN x) (λit lG=>∃I fp wr G n P St val,it=.ref I/\WalksS prog w A.in1 I fp wr G n P St/\St 0 lG/\(∀b∈fp,b<lG.heap.objs.size) /\
   (∀i v,P i v->∃t,v=.int (val i) t) /\
   ∀s' t',Moved wr G lG s'->Q (.int (k+preSum val n) t') s') E s):
  ay (aZ prog w) A (call (.builtin "sum") [x,.int k Ru]) Q E s:=by
 refine call_function_tree F.kind_sum F.plain_sum F.entry_sum (CX _ _) ?_;unfold de.«sum»;refine aa (cT (show Builtin.Builtins.bindParams "sum" ["start"] 0 {pos:=[.int k Ru]}=pure [some (.int k Ru)]from rfl) ?_);refine aa (df h (λit lG GV=>?_) λzz zz e=>e);refine Sj (GV) λI fp wr G n P St val MY W hst hfp aab hQ=>?_;obtain rfl:=MY;dsimp only;show ay _ _ (if(decide (-(2^63)<=k)&&decide (k<2^63))=true then _ else _) _ _ _;rw[if_pos hk];refine aa (eZ (aa (wpAny_mkInt (aa (ag ?_)))));rw[c8];refine aa (aa (aa (iX (T:="int") (b:=false) (typeIs_int _ _ _) PySem.sub_int_str ?_)));rw[if_neg aJ];refine ag (aa (aa (iX (T:="int") (b:=false) (typeIs_int _ _ _) PySem.sub_int_bytes ?_)));rw[if_neg aJ];refine ag (aa (aa (iX (T:="int") (b:=false) (typeIs_int _ _ _) PySem.sub_int_bytearray ?_)));rw[if_neg aJ];refine ag (ag ?_);refine aa (dR ?_);have hSf:lG.heap.objs.size ∉ fp:=λhm=>ew _ (hfp _ hm);have W':=WalksS.shift W;refine ag ⟨k9 F.plain_sum_loop _,codeAny_sum_loopAnyS W' (pU k val) (λi v ⟨j,e,p⟩=>by subst e;exact aab j v p) lG.heap.objs.size hSf n 1 _ lG.toks 0 0 (.inl rfl) (by lia) (by lia)
  ⟨0,rfl,W.frame 0 lG _ _ hst (by first|exact aG _|exact ip _|lia) λb zz o e=>aw _ e⟩ (by
   have:preSum (pU k val) 1=k:=by simp[preSum,pU]
   rw[this];exact aM _ rfl) λs' t' hm=>?_⟩
 rw[oY];exact hQ s' t' (hm.drop_new (by first|exact aG _|exact ip _|lia))
end
end
section
set_option maxHeartbeats 4000000
noncomputable def o4(K:Frag)(C:Addr):Bool:=(K.lookup C).elim false λo=>(clsIn K C).elim false λcd=>!cd.abstract&&!cd.hasDel&&cd.hasDict&&(o.slots.toList[4]?).join==some (.builtin "list.__new__")&&!cd.mro.isEmpty&&cd.mro.contains (.ref C)&&cd.mro.contains (.type "list") &&
   specialIn K (.ref C) "__call__"==some (some (.builtin "type.__call__"))&&instIn K (.ref C) (.type "type")==some true
structure H5(M:fX)(h:Heap)(C:Addr):Prop where
 obj:∃oc od cd sl,h.get? C=some ⟨oc,od,.cls cd,sl⟩/\cd.abstract=false/\cd.hasDel=false/\cd.mro.isEmpty=false/\cd.hasDict=true
 made:eO M h (Bind.madeBy (.ref C)) (some "list.__new__")
 base:eO M h (Bind.staticBase (.ref C)) (.ref C)
 self:eO M h (isSubtype (.ref C) (.ref C)) true
 top:eO M h (isSubtype (.ref C) (.type "list")) true
 call:eO M h (specialOf (.ref C) "__call__") (some (.builtin "type.__call__"))
 YJ:eO M h (dU (.ref C) (.type "type")) true
theorem Cj{K: Frag}{M:fX}{h: Heap}(X:K.In h){C: Addr}(e:o4 K C=true):H5 M h C:=by
 unfold o4 at e;cases ho:K.lookup C with
 |none=>rw[ho]at e;cases e
 |some o =>
 cases hc:clsIn K C with
 |none=>rw[ho,hc]at e;cases e
 |some cd =>
  rw[ho,hc]at e;obtain⟨oc,od,da,sl⟩:=o;obtain rfl:da=.cls cd:=aH (sy hc) λo' h1 h2=>by cases ho.symm.trans h1;exact h2
  dsimp only[Option.elim]at e;simp only[aK,jD,beq_iff_eq]at e;refine c_ λj7 ef=>?_;obtain⟨⟨⟨⟨⟨⟨⟨⟨e1,e2⟩,e22⟩,e3⟩,e4⟩,e5⟩,e6⟩,e7⟩,e8⟩:=e;have hm:eO M h (mroOf (.ref C)) cd.mro:=(looks_clsIn X hc).andThen .now;obtain⟨c,l,hl⟩:∃c l,cd.mro=c::l:=by cases q:cd.mro with|nil=>rw[q]at e4;cases e4|cons c l=>exact⟨c,l,rfl⟩
  refine ef ?_;have made:eO M h (Bind.madeBy (.ref C)) (some "list.__new__"):=by
   intro A Q E s k q;unfold Bind.madeBy;refine aa (hm A _ E s k ?_);rw[hl,c8];refine aa (aa (aa (aa (fM (k _ _ (X _ _ ho)) (ag ?_)))));dsimp only;rw[←Array.getElem?_toList,e3];exact ag (ag (ag q))
  refine⟨⟨oc,od,cd,sl,X _ _ ho,e1,e2,e4,e22⟩,made,?_,jR X ?_,jR X ?_,looks_specialIn X e7,looks_instIn X e8⟩
  ·intro A Q E s k q
   unfold Bind.staticBase;refine aa (hm A _ E s k ?_);rw[hl,c8];exact aa (aa (aa (made A _ E s k (ag (ag (ag q))))))
  ·unfold mroIn;rw[hc,ia,if_neg (by rw[e4];decide),e5]
  ·unfold mroIn;rw[hc,ia,if_neg (by rw[e4];decide),e6]
section
variable{prog:dW}{w:dj}{A:b_}{K:Frag}{C:Addr}{R:Result->aq->Prop}{h:Heap}{g:Array GenState}{d:Drawn}{t:Nat}{os:cN}
theorem J0:lh "list.__new__"=some .builtinFn:=by decide +kernel
theorem GD:splitId "list.__new__"=some ("list","__new__"):=by decide +kernel
theorem UU{v: af}(Y:H5 (aZ prog w) h C)
  (hq:R (.ok (.ret (.ref (h.objs.size+1)))) ⟨(h.push hZ).push (ny C h.objs.size [] 0),g,d,t,os⟩):
  codeAny (aZ prog w) A (.call (.builtin "list.__new__") ⟨[.ref C,v],[]⟩) R ⟨h,g,d,t,os⟩:=by
 refine c_ λj7 ef=>?_;obtain⟨⟨oc,od,cd,sl,hC,e1,e2,e4,e5⟩,made,base,self,top,call,YJ⟩:=Y;refine ef ?_;refine codeAny_call_builtin_code (k9 F.plain_list_new _) ?_;unfold checkBuiltinCall;rw[J0];dsimp only;rw[GD];dsimp only;have here:eO (aZ prog w) h (Bind.madeHere "list.__new__" (.ref C)) ():=base.andThen (made.andThen (Looks.of_pure (by simp only[Option.map_some,bne_self_eq_false,d4,if_false])));have isT:eO (aZ prog w) h (isType (.ref C)) true:=by
  intro A Q E s k q;obtain⟨hp,gg,dd,tt,oo⟩:=s;exact ks_wpAny_isType_cls (k _ _ hC) rfl q
 refine aa (isT.at ?_);rw[if_neg (show ¬((!true)=true)from aJ)];refine aa (top.at ?_);rw[if_neg (show ¬((!true)=true)from aJ)];refine aa (base.at (aa (made.at ?_)));dsimp only;rw[if_neg (by decide)];refine cT (a:=()) (by kernel_rfl) ?_;refine codeAny_builtin_stack F.entry_list_new rfl λp st=>?_;rw[j9 F.plain_list_new _];dsimp only;rw[owner_list_new];refine aa (isT.at ?_);rw[if_neg (show ¬((!true)=true)from aJ)];refine aa (top.at ?_);rw[if_neg (show ¬((!true)=true)from aJ)];refine aa (ag ?_);rw[show typeHasDict (.ref C)=true from rfl];rw[if_neg (show ¬((!true)=true)from aJ)];unfold newDict;refine aa (dR ?_ (aW _));dsimp only;refine aa (m:=newObj (.ref C) (.seq #[]) (some h.objs.size)) ?_;unfold newObj;dsimp only;rw[if_neg (show ¬(#[]:Array af).size>bC from Nat.not_lt.mpr (aW _))];unfold newObjAsIs classHasDel;refine aa (wpAny_alloc (aa (aa (wpAny_load (aw _ (aw _ hC)) (ag ?_)))));rw[e2];refine ag (ag ?_);show R _ _;rw[ie];exact hq
theorem PS{v: af}{f: Addr}(X:K.In h)(hm:o4 K C=true)(hi:fx K (.ref C) "__init__"=some (some (.ref f)))(hf:typeIn K (.ref f)=some (.type "function"))
  (hq:codeAny (aZ prog w) (A.under (.builtin "type.__call__" ⟨[.ref C,v],[]⟩)) (.call (.ref f) ⟨[.ref (h.objs.size+1),v],[]⟩) (InitBack (h.objs.size+1) R) ⟨(h.push hZ).push (ny C h.objs.size [] 0),g,d,t,os⟩):
  codeAny (aZ prog w) A (.call (.ref C) ⟨[v],[]⟩) R ⟨h,g,d,t,os⟩:=by
 have Y:=Cj (M:=aZ prog w) X hm;have Y':=Y;have Cy:=eF (M:=aZ prog w) X hi;have hb:=λself=>bind_fn (M:=aZ prog w) X self hf;refine c_ λj7 ef=>?_;obtain⟨⟨oc,od,cd,sl,hC,e1,e2,e4,e5⟩,made,base,self,top,call,YJ⟩:=Y;refine ef ?_;refine codeAny_of_tree ?_;show ay _ _ (callAny (.ref C) _) _ _ _;refine nd_load hC ?_;show ay _ _ (callAny.viaDunder (.ref C) _) _ _ _;unfold callAny.viaDunder;refine aa (call.at ?_);dsimp only;rw[tc_bind];refine aa (ag (aa (ag ?_)));refine ag (a:=PySem.Fin.again (.call (.builtin "type.__call__") ⟨[.ref C,v],[]⟩)) (And.intro rfl ?_);refine codeAny_call_builtin_at (Code.quiet_builtin _ (by decide +kernel)) entry_typeCall (check_slot tc_kind tc_split YJ (tc_args _ _ _) ?_);unfold de.«type.__call__»;have hm:eO (aZ prog w) h (mroOf (.ref C)) cd.mro:=((Looks.ld (part:=none) hC).andThen .now).andThen .now
 repeat (first|rw[e4,if_neg aJ]|with_reducible refine iH ?_|lk)
 refine UU Y' ?_;have k:∀b o,h.get? b=some o->((h.push hZ).push (ny C h.objs.size [] 0)).get? b=some o:=λb o e=>aw _ (aw _ e);have hx:((h.push hZ).push (ny C h.objs.size [] 0)).get? (h.objs.size+1)=some (ny C h.objs.size [] 0):=by heap_get
 have t1:eO (aZ prog w) ((h.push hZ).push (ny C h.objs.size [] 0)) (typeOf (.ref (h.objs.size+1))) (.ref C):=(Looks.ld hx).andThen .now;have s1:=self.keeps k;have i1:=Cy.keeps k;have b1:=(hb (.ref (h.objs.size+1))).keeps k;unfold dU callSpecial? specialOf
 repeat (first|with_reducible refine iH ?_|lk)
 refine codeAny_mono hq λr s' z=>?_;rcases r with e|(v|_|_|_)<;>first|exact z|exact z.elim|skip
 obtain⟨rfl,z⟩:=z;exact ag (ag z)
end
theorem wh(self:af):refuseLoop self "__setattr__" [.type "list",.type "object"]=pure ():=by kernel_rfl
theorem Jr(self v:af)(name:Str)(tk:Tok):de.«object.__setattr__» ⟨[self,.str name tk,v],[]⟩=(Builtin.ObjectAttr.refuseIfOverridden self "__setattr__" >>= λzz=>typeOf self >>= λtp=>jG tp name >>= λH0=>Builtin.ObjectAttr.storeTaker? H0 >>= λr =>
  match r with|some a=>Builtin.ObjectAttr.setByDescriptor a self v|none=>Builtin.ObjectAttr.storeInOwnDict self tp (.str name tk) name v H0.isSome):=osa_eq self v name tk
section
variable{prog:dW}{w:dj}{A:b_}{K:Frag}{C x:Addr}{s:aq}{R:Result->aq->Prop}{E:af->aq->Prop}
theorem Em{ox od XI: Obj}{dx: Addr}{name: Str}{v: af}{es: List bz}{n: Nat}{cd:ClassData}{Q:Unit->aq->Prop}(X:K.In s.heap)(I:InstAt s.heap x ox C (some od))(hd:ox.dict=some dx)
  (hs:fx K (.ref C) "__setattr__"=some (some (.builtin "object.__setattr__"))) (hc:clsIn K C=some cd) (hm:cd.mro=[.ref C,.type "list",.type "object"]) (hhd:cd.hasDict=true)
  (ht:takerIn K C name=some none) (hl:(lookIn name od).isSome=true)
  (e:kH name (f_ w.params name) (.str name (s.toks+1)) v od=XI) (e':XI.data=.dict es.toArray n) (hz:es.length<=1000) (te:XI.isFreed=false)
  (h:Q () {s with heap:=s.heap.update dx (kH name (f_ w.params name) (.str name (s.toks+1)) v),toks:=s.toks+1+1}):ay (aZ prog w) A (setAttr (.ref x) name v) Q E s:=by
 have SF:=PySem.F.store_object;refine set_plain X I hs ?_;generalize uQ:({s with toks:=s.toks+1}:aq)=s1;have X1:K.In s1.heap:=by rw[←uQ];exact X
 have I1:InstAt s1.heap x ox C (some od):=by rw[←uQ];exact I
 have ne:cd.mro.isEmpty=false:=by rw[hm];rfl
 have sub:eO (aZ prog w) s1.heap (dU (.ref x) (.type "object")) true:=I1.type.andThen (jR X1 (by unfold mroIn;rw[hc,ia,if_neg (by rw[ne];decide),hm];simp));refine codeAny_call_builtin SF.slot.plain SF.entry (@check_slot (aZ prog w) _ _ s1 "object.__setattr__" "object" "__setattr__" (.ref x) [.str name s.toks,v] [] _ SF.kind SF.split sub (SF.args (.ref x) (.str name s.toks) v) ?_);refine aH (Option.bind_eq_some_iff.mp ht) λH0 ha hr=>?_;have hmr:eO (aZ prog w) s1.heap (mroOf (.ref C)) cd.mro:=(looks_clsIn X1 hc).andThen .now;have L3:eO (aZ prog w) s1.heap (Builtin.ObjectAttr.storeTaker? H0) none:=by
  cases H0 with
  |none=>exact .now
  |some a =>
   refine aH (Option.map_eq_some_iff.mp hr) λb hb hbb=>?_;refine(looks_takesIn X1 hb).andThen ?_;cases b
   ·exact .now
   ·cases hbb
 rw[Jr,refuse_eq];refine aa (aa (I1.type.here (aa (hmr.here ?_))));rw[hm,refuseLoop_ref,wh];refine ag (aa (I1.type.here (aa ((eF X1 ha).here (aa (L3.here ?_))))));subst uQ;refine c_ λj7 ef=>?_;obtain⟨hx,G4,hn,RT⟩:=I;obtain⟨oc,odi,oda,osl⟩:=ox;refine ef ?_;dsimp only at G4 hd;subst G4 hd;refine aa (ag (aa (aa (fM hx (aa ((looks_clsIn X1 hc).here ?_))))));rw[hhd];refine ag (a:=some dx) (aa (ag (aa ?_)));unfold nsSet;refine aa (aa (wpAny_askSetting (ag (aa (wpAny_mkText (aa (fM RT ?_)))))));unfold lookIn at hl;have hD':(s.heap.update dx (kH name (f_ w.params name) (.str name (s.toks+1)) v)).get? dx=some XI:=by
  rw[←e];exact fF _ RT (by rw[e];exact te)
 split at hl
 ·rename_i qK n₀ q
  rw[q];dsimp only;have c:(!qK.any (·.key.isStr name)&&qK.any (·.refKey))=false:=by
   rw[←Array.any_toList,←Array.any_toList]
   split at hl
   ·rename_i en he
    rw[List.any_eq_true.mpr ⟨en,List.mem_of_find?_eq_some he,List.find?_some he⟩];rfl
   ·split at hl
    ·cases hl
    ·rename_i z;rw[Bool.not_eq_true]at z;rw[z,Bool.and_false]
  rw[aRefKeyMayBeTheName_at,c];refine wpAny_updatePart RT ?_;refine aa (wpAny_lookBehind hD' (by rw[e'];exact pastItsLine_dict (by rw[dJ,gK];lia)) ?_);exact ag h
 ·cases hl
end
end
section
set_option maxHeartbeats 4000000
variable{G:Gv}{e:Env}{σ:St}{k:Nat}
theorem Kr{c P:Nat}{q:Nat->Nat->Str}{pos:Pos}{qualname:Str}{scope:iK}{α:AM}{s:aq}{env:Env}{Q:af->aq->Prop}{E:af->aq->Prop}(hc:env.code=.ref c)(C:CodeHd G.h₀ c P)(g:GS G α σ s)(hm:σ.get k=some (.tab P q))(hq:q pos.line pos.col=qualname)
  (hQ:∀code h' tk,GS G α σ {s with heap:=h',toks:=tk}->Heap.ExtBut P s.heap h'->Le α s.heap α h'->Q code {s with heap:=h',toks:=tk}):ay G.M G.A (genexprCode env pos qualname scope) Q E s:=by
 refine c_ λj7 ef=>?_;obtain⟨P',Kc,rfl,ps,hP,ht,rec⟩:=g.own _ _ hm;obtain⟨o,vs,file,tf,Hg,tg,Z8,text,tt,ho,G4,hd,abm,Yb,h2,h7,h9,h10,mQ⟩:=C.keeps λb o eb=>(g.base b o eb).2;refine ef ?_;have hpd:(tabObj ps).data=.fields ps:=rfl;unfold genexprCode codeAt;rw[hc,if_neg (show ¬((bZ c==i3)=true)from aJ)];refine aa (wpAny_fieldsOf ho hd ?_);rw[Yb];refine aa (wpAny_fieldsOf hP hpd ?_);cases hnf:h_ pos ps.toList with
 |some cv=>exact ag (hQ cv s.heap s.toks (g.tok _) (Heap.ExtBut.refl _ _) (Le.refl _ _))
 |none =>
  rw[h2,h7,h9,h10];refine aa (wpAny_newCode λc' Pc h' tk hk hc' hPc aay Vj=>?_);have Vl:=hk _ _ hP;refine aa (wpAny_updateFieldsOfTheText Vl hpd ?_);have Vp:(Obj.mapFields (λvs=>if(h_ pos vs.toList).isSome=true then vs else vs++#[d5 pos.line,d5 pos.col,.ref c']) (tabObj ps))=tabObj (ps++#[d5 pos.line,d5 pos.col,.ref c']):=by
   show tabObj (if(h_ pos ps.toList).isSome=true then ps else ps++#[d5 pos.line,d5 pos.col,.ref c'])=_;rw[hnf];rfl
  have zt:=fF (h:=h') (λo=>Obj.mapFields (λvs=>if(h_ pos vs.toList).isSome=true then vs else
   vs++#[d5 pos.line,d5 pos.col,.ref c']) o) Vl (by rw[Vp];rfl)
  rw[Vp]at zt;refine aa (wpAny_fieldsOf zt rfl ?_);have hl:(ps++#[d5 pos.line,d5 pos.col,bZ c']).toList=ps.toList++[d5 pos.line,d5 pos.col,.ref c']:=by simp
  rw[hl,codeAmong_snoc _ ht hnf];generalize hH:h'.update P' (Obj.mapFields λvs=>if(h_ pos vs.toList).isSome=true then vs else vs++#[d5 pos.line,d5 pos.col,.ref c'])=H at zt ⊢;have RO:Heap.SameBut P' h' H:=hH▸fI ..;have hx:Heap.ExtBut P' s.heap H:=λb o' hb e=>RO.extBut b o' hb (hk b o' e);have nn:s.heap.get? c'=bB:=by
   cases z:s.heap.get? c' with
   |none=>rfl
   |some o=>exact absurd (bJ z) (Nat.not_lt.mpr hc')
  have hcP:c'≠P':=λe=>by rw[e,hP]at nn;cases nn
  have off:jV α H (.ref c') (q pos.line pos.col):=by
   refine⟨?_,λc2 z=>?_⟩
   ·refine Sn (Vj) λcc oc vc tc e1 e2 e3 e4=>?_
    cases e1;exact Si _ oc vc tc ⟨rfl,RO.extBut _ _ hcP e2,e3,hq▸e4⟩
   ·cases z
    exact⟨λh=>(by obtain⟨o,z⟩:=g.lt _ h;rw[nn]at z;cases z),λh=>(by obtain⟨o,z,_⟩:=g.pW _ h;rw[nn]at z;cases z)⟩
  have t:=g.turn (h':=H) (ao':=.tab P' q) hm Kc hx (λle=>⟨rfl,_,zt,by simpa using TriplesOk_snoc pos.line pos.col (.ref c') ps.toList ht,λrN cv VN=>?_⟩) tk
  ·rw[St.set_same hm]at t
   exact ag (hQ _ _ _ t.2 hx t.1)
  ·rw[hl]at VN
   rcases mT _ ht VN with h1|⟨rfl,h2,h3⟩
   ·exact(rec rN cv h1).mono le
   ·rw[h2,h3];exact off
end
section
set_option maxHeartbeats 4000000
noncomputable def gc(p:Str×Str):CV:=.tup [.str p.1,.str p.2]
noncomputable def kR(xs:List (Str×Str)):List Int:=xs.map λp=>(p.1.length:Int)+p.2.length
theorem I9{α:AM}{h:Heap}{xs:List (Str×Str)}:∀{vs:List af},dq α h (xs.map gc) vs->∀j (hj:j<xs.length),∃a t u,vs[j]?=some (.ref a)/\h.IsTuple a #[.str xs[j].1 t,.str xs[j].2 u]:=by
 induction xs with
 |nil=>exact λzz j hj=>absurd hj (Nat.not_lt_zero j)
 |cons p xs ih =>
  intro _ vR j hj;refine fu (vR) λv ws iu r q=>?_;obtain rfl:=iu;cases j with
  |zero =>
   refine c_ λj7 ef=>?_;obtain⟨a,vs,n,rfl,_,_,e,_,_,rfl,⟨t,rfl⟩,_,_,rfl,⟨u,rfl⟩,rfl⟩:=r;refine ef ?_;exact XD a t u ⟨rfl,_,e,rfl,_,rfl⟩
  |succ j=>exact ih q j (jN hj)
theorem qD(n:Nat):passing (λzz=>true) n 0=az n:=by
 unfold passing;rw[List.drop_zero];exact List.filter_eq_self.mpr λzz zz=>rfl
variable{env:Env}
section
variable{M:fX}{prog:dW}{w:dj}{A:b_}{E:af->aq->Prop}{s:aq}
theorem xi{p q pos:Pos}{x y:Str}{t:Tok}{mg mb m:Str->Option af}{Q:af->aq->Prop}(hk:env.scope.kind=.function)(cx:env.kindOf "len"=some .globalImplicit)(hg:s.heap.Ns env.globals mg)(X3:mg "len"=none)
  (hb:s.heap.Ns env.builtins mb) (RV:mb "len"=some (.builtin "len")) (hx:env.kindOf x=some .local) (hn:s.heap.Ns env.locals m) (hm:m x=some (.str y t)) (hf:y.length<2^60) (hxd:(x==("__debug__":Str))=false)
  (h:∀tk t',Q (.int y.length t') {s with toks:=tk}):ay (aZ prog w) A (eval (.Call (.Name "len" p) [.Name x q] [] pos) env) Q E s:=by
 refine aa (wpAny_Name ?_ (by decide));rw[jS hk cx];refine iM hg X3 hb RV ?_;refine gB (plain_any (args:=[.Name x q]) rfl) (cZ (args:=[.Name x q]) rfl ?_);refine i5 (wpAny_Name (iG hk hx hn hm ?_) hxd);refine ju ?_;exact PyProof.Rows.len_str (by lia) (h _ _)
end
end
section
set_option maxHeartbeats 4000000
variable{G:Gv}{e:Env}{σ:St}{vs:List af}{P k:Nat}{xs:List (Str×Str)}{h:Heap}
theorem GI{prog:dW}{w:dj}{A:b_}{E:af->aq->Prop}{s: aq}{env: Env}{l1 l2 l3 l4 e1 e2 bp: Pos}{xa xb x y: Str}{t u:Tok}{mg mb m:Str->Option af}{Q:af->aq->Prop}(hk:env.scope.kind=.function)(cx:env.kindOf "len"=some .globalImplicit)(hg:s.heap.Ns env.globals mg)(X3:mg "len"=none)
  (hb:s.heap.Ns env.builtins mb) (RV:mb "len"=some (.builtin "len")) (hx:env.kindOf xa=some .local) (hy:env.kindOf xb=some .local) (hn:s.heap.Ns env.locals m) (ha:m xa=some (.str x t)) (hm:m xb=some (.str y u)) (hf:x.length<2^60/\y.length<2^60) (hxd:(xa==("__debug__":Str))=false) (hyd:(xb==("__debug__":Str))=false)
  (h:∀tk t',Q (.int ((x.length:Int)+y.length) t') {s with toks:=tk}):ay (aZ prog w) A (eval (.BinOp (.Call (.Name "len" l1) [.Name xa e1] [] l2) .Add (.Call (.Name "len" l3) [.Name xb e2] [] l4) bp) env) Q E s:=
 wpAny_BinOp (xi hk cx hg X3 hb RV hx hn ha hf.1 hxd λsU t1=>xi (s:={s with toks:=sU}) hk cx hg X3 hb RV hy hn hm hf.2 hyd λtk2 t2=>PySem.P.add_int (h _ _))
structure Pairs(h:Heap)(vs:List af)(xs:List (Str×Str))(Ts:Nat->Addr)(vals:Nat->Array af):Prop where
 two:∀j,∃va vb,vals j=#[va,vb]
 item:∀j,j<vs.length->vs[j]?=some (.ref (Ts j))
 tup:∀j,j<vs.length->h.IsTuple (Ts j) (vals j)
 str:∀j,j<vs.length->∃t u,vals j=#[.str (xs.getD j (⟨#[]⟩,⟨#[]⟩)).1 t,.str (xs.getD j (⟨#[]⟩,⟨#[]⟩)).2 u]
theorem ER{α: AM}(r:dq α h (xs.map gc) vs):∃Ts vals,Pairs h vs xs Ts vals:=by
 have hl:vs.length=xs.length:=r.length.trans (aj _);have:∀j,∃p:Addr×Array af,(∃va vb,p.2=#[va,vb])/\(j<vs.length->vs[j]?=some (.ref p.1)/\h.IsTuple p.1 p.2/\∃t u,p.2=#[.str (xs.getD j (⟨#[]⟩,⟨#[]⟩)).1 t,.str (xs.getD j (⟨#[]⟩,⟨#[]⟩)).2 u]):=by
  intro j;by_cases hj:j<vs.length
  ·refine z_ (I9 r j (hl▸hj)) λa t u e1 e2=>?_
   have hg:xs.getD j (⟨#[]⟩,⟨#[]⟩)=xs[j]'(hl▸hj):=by rw[aB,aD (hl▸hj)];rfl
   exact⟨(a,_),⟨_,_,rfl⟩,λzz=>⟨e1,e2,t,u,by rw[hg]⟩⟩
  ·exact⟨(0,#[.none,.none]),⟨_,_,rfl⟩,λh=>absurd h hj⟩
 refine dX (Classical.skolem.mp this) λf hf=>?_;exact qw (λj=>(f j).1) (λj=>(f j).2) ⟨λj=>(hf j).1,λj l=>((hf j).2 l).1,λj l=>((hf j).2 l).2.1,λj l=>((hf j).2 l).2.2⟩
theorem Pairs.ZY{Ts:Nat->Addr}{vals:Nat->Array af}{j: Nat}{va vb: af}(p:Pairs h vs xs Ts vals)(hj:j<vs.length)(hl:vs.length=xs.length)(e:(#[va,vb]:Array af)=vals j):
  ∃x y t u,va=.str x t/\vb=.str y u/\(x,y)∈xs/\(kR xs).getD j 0=(x.length:Int)+y.length:=by
 have hjx:j<xs.length:=hl▸hj;have hg:xs.getD j (⟨#[]⟩,⟨#[]⟩)=xs[j]:=by rw[aB,aD hjx];rfl
 obtain⟨t,u,ev⟩:=p.str j hj;rw[hg]at ev;have e:=congrArg Array.toList (e.trans ev);injection e with e1 e
 injection e with e2 _
 refine⟨_,_,t,u,e1,e2,fm hjx,?_⟩;unfold kR;rw[aB,br,aD hjx];rfl
theorem Ea{β: AM}{s1 s3 s6: aq}{it: Nat}{q:Nat->Nat->Str}{oi: Obj}(g1:GS G β σ s1)(g3:GS G β σ s3)(k3:Le β s1.heap β s3.heap)(hP:σ.get k=some (.tab P q))(itn:s1.heap.get? it=none)(hi:s3.heap.get? it=some oi)(hic:∀vs t q,oi.data=.fields vs->vs[1]?≠some (.str q t))(hPi:it≠P)
  (up:∀b o,b≠P->s1.heap.get? b=some o->s3.heap.get? b=some o) (hold:∀b o,b≠it->s3.heap.get? b=some o->s6.heap.get? b=some o) (LO:s6.os=G.os) (hb:AllBare s6.gens):Le β s1.heap β s6.heap/\GS G β σ s6:=by
 have UT:∀b o,s1.heap.get? b=some o->b≠it:=λb o e z=>by rw[z,itn]at e;cases e
 have le:Le β s1.heap β s6.heap:=⟨λzz zz zz e=>e,λzz h=>.inl h,rfl,λb o f e=>hold b o (UT b o e) (k3.keep b o f e)⟩;refine⟨le,λk' ao e=>?_,g3.ow,λb o e=>⟨(g3.base b o e).1,hold b o (UT b o (g1.base b o e).2) (g3.base b o e).2⟩,g3.inj,g3.new,λb h=>?_,λb h=>?_,LO,hb⟩
 ·by_cases XY:k'=k
  ·subst XY
   cases e.symm.trans hP;obtain⟨b,hb,z,ps3,e3,t3,Zc⟩:=g3.own _ _ hP;subst z;refine⟨b,hb,rfl,ps3,hold _ _ (Ne.symm hPi) e3,t3,λpos cv hc=>?_⟩;obtain⟨⟨c1,o1,vs1,t1,ec,eg,d1,g1'⟩,f1⟩:=Zc pos cv hc;exact⟨⟨c1,o1,vs1,t1,ec,hold _ _ (λz=>by rw[z,hi]at eg;cases eg;exact hic _ _ _ d1 g1') eg,d1,g1'⟩,f1⟩
  ·obtain⟨a,ha,z,_⟩:=g1.own _ _ hP
   obtain⟨b,hb,r⟩:=g1.own _ _ e;exact⟨b,hb,r.mono le λo eo=>hold b o (UT b o eo) (up b o (λy=>XY (g1.inj _ _ _ _ _ e hP (y.trans z.symm▸hb) ha)) eo)⟩
 ·obtain⟨o,z⟩:=g1.lt b h
  obtain⟨o',ho⟩:=g3.lt b h;exact⟨o',hold b o' (UT b o z) ho⟩
 ·obtain⟨o,ho,f⟩:=g1.pW b h
  obtain⟨o',ho',f'⟩:=g3.pW b h;exact⟨o',hold b o' (UT b o ho) ho',f'⟩
theorem D'{K: Frag}{C x d k: Nat}{xs: List (Str×Str)}{i: Int}{m: List (Str×CV)}{c P: Nat}{q:Nat->Nat->Str}{mg mb:Str->Option af}{xa xb nm: Str}{p l1 l2 l3 l4 e1 e2 bp pa pb pt sp Qs s2 ap pos: Pos}{kt: Nat}{scope: iK}
  (hh:G.A.handled=none) (ph:G.A.depth<b9) (hnl:G.h₀.NoLimit) (kl:Kl K C) (X:K.In G.h₀) (Vw:fx K (.ref C) "__iter__"=some (some (.builtin "list.__iter__")))
  (hl:bx e (aE "self") .local=true) (hf:σ.get e.locals=some (.frame m)) (hm:m.lookup (aE "self")=some (.ref x)) (hx:σ.get x=some (.cX C d (xs.map gc))) (hd:σ.get d=some (.size i))
  (hfo:∀tk t,findObj K C (some (rJ G.w.params i tk t)) nm=some (.value (.int i t))) (hi:(decide (-(2^63)<=i)&&decide (i<2^63))=true) (n5:∀p∈xs,p.1.length<2^60/\p.2.length<2^60)
  (aae:Glob G "sum" (.builtin "sum")) (aaf:bx e "sum" .globalImplicit=true) (Qj:e.globals=3) (hbe:e.builtins=0) (A4:e.code=.ref c) (hC:CodeHd G.h₀ c P) (hP:σ.get k=some (.tab P q)) (hq:q Qs.line Qs.col=e.qual++"<genexpr>")
  (Ij:G.h₀.Ns fG mg) (Qf:mg "len"=none) (uT:G.h₀.BuiltinsAt mg P) (hmb:G.h₀.Ns builtinsNs mb) (Qh:mb "len"=some (.builtin "len"))
  (zv:scope.isCoroutine=false) (G3:oB e scope.names []=some []) (nE:∀y∈scope.names,y.2≠.cell) (h0:scope.names.lookup (".0":Str)=some NameKind.local)
  (hxa:scope.names.lookup xa=some .local) (hxb:scope.names.lookup xb=some .local) (Il:xa≠xb) (tV:scope.kind=.function) (Vs:scope.names.lookup ("len":Str)=some .globalImplicit)
  (hda:(xa==("__debug__":Str))=false) (hdb:(xb==("__debug__":Str))=false):
  aV G e (.Call (.Name "sum" p) [.GeneratorExp (.BinOp (.Call (.Name "len" l1) [.Name xa e1] [] l2) .Add (.Call (.Name "len" l3) [.Name xb e2] [] l4) bp) [⟨.Tuple [.Name xa pa,.Name xb pb] kt pt,.Name (aE "self") sp,[],0⟩] scope Qs,
   .Attribute (.Name (aE "self") s2) nm ap] [] pos) σ (.int (i+(kR xs).sum)) σ:=by
 intro α s env E ei g;obtain⟨cl0,aaz,rfl⟩:=vm ei G3;have VC:env.globals=fG:=ei.globals.trans Qj;have hl:=bx.is hl ei;refine aa (La (aV.glob (G:=G) (e:=e) (σ:=σ) (p:=p) aae aaf Qj hbe rfl α s env E ei g) λβ s1 x1 g1=>?_);have ei1:=ei.mono x1;have kp:=λb o eb=>(g1.base b o eb).2;refine c_ λj7 ef=>?_;obtain⟨L,hL,mf,qi,hr⟩:=g1.own _ _ hf;cases hL.symm.trans ei1.loc;obtain⟨v,hv,rv⟩:=hr _ _ hm;obtain⟨ax,ab,vs,n,Ru,tt,rfl,hax,I,r⟩:=g1.uW hx hd rv;obtain⟨P',abl,rfl,ps1,Wh,_⟩:=g1.own _ _ hP;obtain⟨Ts,vals,TV⟩:=ER r;obtain⟨bm,ob,b1,b2,b3,b4,b5,b6,b7,b8⟩:=uT;have cx:vs.length=xs.length:=r.length.trans (aj _);have hxP:ax≠P':=λe=>by have:=I.at_;rw[e,Wh]at this;cases this
 have hbP:ab≠P':=λe=>by have:s1.heap.get? ab=some (rJ G.w.params i Ru tt):=I.dict;rw[e,Wh]at this;cases this
 obtain⟨of,es,ep,eL,dL⟩:=qi;have hLP:env.locals≠P':=λe=>by rw[e,Wh]at eL;cases eL;cases dL.1
 have hTP:∀j,j<vs.length->Ts j≠P':=λj hj e=>by
  obtain⟨o,eo,ec,_⟩:=TV.tup j hj;rw[e,Wh]at eo;cases eo;cases ec
 refine ef ?_;refine gB (plain_any rfl) (cZ rfl (i5 ?_));refine wpAny_GeneratorExp_walksQT (cl:=[]) hh zv aaz nE h0 hxa hxb Il tV ph ?_ (λzz=>rfl);refine wpAny_Name (iG hl.1 hl.2 ⟨of,es,ep,eL,dL⟩ hv ?_) (by decide);refine Cu (X.keeps kp) I kl.sub Vw ?_;generalize hit:s1.heap.objs.size=it;have XE:∀b o,s1.heap.get? b=some o->(s1.heap.push {cls:=.type "list_iterator",data:=.fields #[.ref ax,.int 0 0]}).get? b=some o:=λb o e=>aw _ e;have t2:=g1.same (h':=s1.heap.push {cls:=.type "list_iterator",data:=.fields #[.ref ax,.int 0 0]}) XE s1.toks;have aap:(s1.heap.push {cls:=.type "list_iterator",data:=.fields #[.ref ax,.int 0 0]}).get? it=some {cls:=.type "list_iterator",data:=.fields #[.ref ax,.int 0 0]}:=hit▸aM _ rfl;have RK:∀{b o},s1.heap.get? b=some o->b<it:=λe=>hit▸bJ e;have Vx:it≠P':=(cR (RK Wh)).symm;refine⟨hnl.keeps λb o eb=>(t2.2.base b o eb).2,?_⟩;refine Kr (ei.code.trans A4) hC t2.2 hP (hq.trans (by rw[ei.qual])) λcode h3 tk g3 hx3 k3=>?_;have R2:=λb o eb=>(g3.base b o eb).2;refine wpAny_builtinsFor (VC.symm▸Ij.keeps R2) b1 b2 (R2 _ _ b5) b6 b7 b8 ?_;have Rt:∀b o,b≠P'->s1.heap.get? b=some o->h3.get? b=some o:=λb o hb e=>hx3 b o hb (XE b o e);have AZ:h3.get? it=some {cls:=.type "list_iterator",data:=.fields #[.ref ax,.int 0 0]}:=hx3 _ _ Vx aap;have lt3:∀{b},b<it->b<h3.objs.size:=λhb=>iA hb (bJ AZ);refine xi8 it (it::ax::(az vs.toArray.size).map Ts) [it] vs.toArray.size _ _ _ (λzz=>true) ⟨λj y=>∃t,y=.int ((kR xs).getD j 0) t,rfl,λA' hA=>WalksU.cX hA it ax (cR (RK I.at_)) vs.toArray Ts vals (λj hj=>by rw[cH];exact TV.item j hj) (λj hj=>let⟨o,e,_⟩:=TV.tup j hj;cR (RK e)),?_,?_,?_,hnl.keeps R2,?_,?_,?_⟩
 ·exact λj v q=>q.2▸TV.two j
 ·exact⟨⟨_,AZ,rfl,rfl⟩,⟨_,_,Rt _ _ hxP I.at_,rfl⟩,λj hj=>let⟨o,e,rr⟩:=TV.tup j hj;⟨o,Rt _ _ (hTP j hj) e,rr⟩⟩
 ·intro b hb
  rcases List.mem_cons.mp hb with rfl|hb
  ·exact bJ AZ
  ·rcases List.mem_cons.mp hb with rfl|hb
   ·exact lt3 (RK I.at_)
   ·obtain⟨j,hj,rfl⟩:=List.mem_map.mp hb
    exact let⟨o,e,_⟩:=TV.tup j (List.mem_range.mp hj);lt3 (RK e)
 ·intro hc
  obtain⟨_,hn,_⟩:=hnl.keeps kp;exact ew _ (List.mem_singleton.mp hc▸hit▸hn.lt)
 ·refine λabk Vz=>⟨λA' E' j va vb lG ZH hA hP hn ha hb X_=>ag ⟨rfl,lG.heap,lG.toks,rfl,λzz zz e=>e⟩,λA' E' j va vb lG ZH hA hPt zz hn ha hb X_=>?_⟩
  have bb:∀b o,G.h₀.get? b=some o->lG.heap.get? b=some o:=λb o e =>
   X_ b (List.mem_range.mpr (bJ (R2 _ _ e))) (λhb=>ew _ (List.mem_singleton.mp hb▸RK (kp _ _ e))) o (Vz _ _ (R2 _ _ e))
  obtain⟨x,y,t,u,rfl,rfl,hm,hs⟩:=TV.ZY hPt.1 cx hPt.2;exact GI (mg:=mg) (mb:=mb) tV Vs (VC.symm▸Ij.keeps bb) Qf (hmb.keeps bb) Qh hxa hxb hn ha hb (n5 _ hm) hda hdb λsU t1=>⟨⟨_,by rw[hs]⟩,_,_,rfl,λzz zz e=>e⟩
 ·intro a h5 tk5 gs hgs ha aac hk5 W hst
  refine i5 ?_;have YH:∀b o,b≠P'->s1.heap.get? b=some o->h5.get? b=some o:=λb o hb e=>hk5 _ _ (Rt b o hb e);refine PyProof.Rows.Attribute_name (wpAny_Name (iG hl.1 hl.2 ⟨of,es,ep,YH _ _ hLP eL,dL⟩ hv ?_) (by decide));refine sh (X.keeps λb o e=>hk5 _ _ (R2 b o e)) ⟨YH _ _ hxP I.at_,rfl,rfl,YH _ _ hbP I.dict⟩ kl.ga kl.gn kl.sub (hfo Ru tt) rfl ?_;refine ju ?_;have W1:=W.in4_1;have Vh:=W1.frame 0 _ h5 (tk5+1) hst (ip _) λzz zz zz e=>e;refine sG hi (W1.self 0 _ _ _ Vh (xi8 a _ _ _ _ _ _ (λj=>(kR xs).getD j 0) ⟨rfl,W1,Vh,?_,?_,λs6 t6 hm6=>?_⟩))
  ·intro b hb
   rw[show h5.objs.size=a+1 from aac];rcases List.mem_cons.mp hb with rfl|hb
   ·exact bg _
   ·rcases List.mem_cons.mp hb with rfl|hb
    ·exact eI ha
    ·exact eI (iA (List.mem_range.mp hb) ha)
  ·rintro j v ⟨j',Vv,t,rfl⟩
   rw[qD]at Vv;have:j'=j:=by
    obtain⟨h1,h2⟩:=List.getElem?_eq_some_iff.mp Vv;rw[List.getElem_range]at h2;exact h2.symm
   exact⟨t,this▸rfl⟩
  ·have hpn:(passing (λzz=>true) vs.toArray.size 0).length=(kR xs).length:=by
    rw[qD,bU];unfold kR;rw[aj,←cx];rfl
   rw[hpn,preSum_getD,List.take_length];have hold:∀b o,b≠it->h3.get? b=some o->s6.heap.get? b=some o:=λb o hb e=>hm6.heap b o (λQg=>(List.mem_cons.mp Qg).elim (λe'=>ew _ (bJ (e'▸e))) λe'=>hb (List.mem_singleton.mp e')) (hk5 _ _ e);have fin:=Ea g1 g3 (t2.1.trans k3) hP (hit▸eG _) AZ (λvs t q e=>by cases e;exact λz=>by cases z) Vx Rt hold (hm6.os.trans g3.os) (AllBare.movedS (g3.bare.push hgs) hm6);exact⟨β,x1.trans fin.1,fin.2,⟨_,rfl⟩⟩
end
section
set_option maxHeartbeats 4000000
variable{G:Gv}{σ σ1:St}{c:CV}{K:Frag}{C x d:Nat}{xs:List CV}
theorem len_own{f:Nat}{i j:Int}(X:K.In G.h₀)(hf:fx K (.ref C) (aE "__len__")=some (some (.ref f)))(ht:typeIn K (.ref f)=some (.type "function"))
  (hx:σ.get x=some (.cX C d xs)) (hd:σ.get d=some (.size i)) (h:bN (GU G) (λvs=>call (.ref f) vs) [.ref x] σ (.int j) σ1) (h0:0<=j) (h1:j<2^63):bN G (λvs=>call (.builtin "len") vs) [.ref x] σ (.int j) σ1:=by
 intro α s _ E g rz;refine fu (rz) λv zz lX r m8=>?_;obtain rfl:=lX;obtain rfl:=m8;obtain⟨a,b,vs,k,tk,tt,rfl,ha,I,q⟩:=g.uW hx hd r;have X1:K.In s.heap:=X.keeps λb o eb=>(g.base b o eb).2;have L:eO G.M s.heap (specialOf (.ref a) "__len__") (some (.ref f)):=I.type.andThen (eF X1 hf);have Lb:=bind_fn (M:=G.M) X1 (.ref a) ht;refine Calls.call_function_entry kind_len plain_len entry_len (args_len1 _) ?_;unfold de.«len»;refine aa (m:=oneArg "len" _) (ag ?_);refine aa (m:=callSpecial? (.ref a) (aE "__len__")) ?_;unfold callSpecial?;refine aa (L.here ?_);dsimp only;refine aX (aa (Lb.here ?_));refine aa (jb (h α s [.ref a] E g.in1 ⟨_,_,rfl,⟨a,rfl,ha⟩,rfl⟩) λβ vq s1 x1 g1 rq=>?_);obtain⟨t,rfl⟩:=rq;refine ag ?_;refine aa (aX (ag ?_));refine aa (wpAny_letGo ?_);show ay _ _ (if j<0 then _ else _) _ _ _;rw[if_neg (Int.not_lt.mpr h0)];show ay _ _ (if j ≥ 2^63 then _ else _) _ _ _;rw[if_neg (Int.not_le.mpr h1)];exact aa (wpAny_mkInt (ag ⟨_,rfl,(g1.un1.gx ⟨_,rfl⟩).trans x1⟩))
end
section
noncomputable abbrev So(x:String):Str:=aE x
noncomputable def jh(lt:Int->Bool):Nat->Int->Int->Int
 |0,lo,hi=>lo
 |n+1,lo,hi=>if lo<hi then(if lt ((lo+hi).fdiv 2)then jh lt n lo ((lo+hi).fdiv 2)else jh lt n ((lo+hi).fdiv 2+1) hi)else lo
theorem jZ{lo hi:Int}(h:lo<hi):lo<=(lo+hi).fdiv 2/\(lo+hi).fdiv 2<hi:=by
 rw[lT _ (by decide)];lia
theorem kX(lt:Int->Bool):∀(n:Nat)(lo hi:Int),lo<=hi->lo<=jh lt n lo hi/\jh lt n lo hi<=hi:=by
 intro n
 induction n with
 |zero=>exact λlo hi h=>⟨bD lo,h⟩
 |succ n ih =>
  intro lo hi h;unfold jh;by_cases c:lo<hi
  ·have hm:=jZ c
   rw[if_pos c];cases lt ((lo+hi).fdiv 2)with
   |true=>exact(ih lo _ hm.1).imp id λq=>aQ q (fW hm.2)
   |false=>exact(ih _ hi hm.2).imp (λq=>aQ hm.1 (aQ (fW (Int.lt_succ _)) q)) id
  ·rw[if_neg c];exact⟨bD lo,h⟩
theorem zU{lt:Int->Bool}{k:Nat}{lo hi:Int}(h:lo<hi):jh lt (k+1) lo hi=bif lt ((lo+hi).fdiv 2)then jh lt k lo ((lo+hi).fdiv 2)else jh lt k ((lo+hi).fdiv 2+1) hi:=by
 rw[jh,if_pos h];cases lt ((lo+hi).fdiv 2)<;>rfl
structure BE(e:Env):Prop where
 a:bx e (So "a") .local=true
 x:bx e (So "x") .local=true
 lo:bx e (So "lo") .local=true
 hi:bx e (So "hi") .local=true
 key:bx e (So "key") .local=true
 mid:bx e (So "mid") .local=true
 len:bx e (So "len") .globalImplicit=true
 g:e.globals=3
 b:e.builtins=0
variable{G:Gv}{e:Env}{m:Nat}{σ σ1:St}{f:CF}
noncomputable abbrev bF(a x lo hi key:CV):List (Str×CV):=[(So "key",key),(So "hi",hi),(So "lo",lo),(So "x",x),(So "a",a)]
noncomputable abbrev R3(a x lo hi key mid:CV):List (Str×CV):=[(So "key",key),(So "hi",hi),(So "lo",lo),(So "x",x),(So "a",a),(So "mid",mid)]
structure vG(e:Env)(Z:List (Str×CV)->St):Prop where
 get:∀m,(Z m).get e.locals=some (.frame m)
 set:∀m m',(Z m).set e.locals (.frame m')=Z m'
variable{Z Z':List (Str×CV)->St}
theorem vG.loc{x p fr c}(z:vG e Z)(hx:fr.lookup x=some c)(hl:bx e x .local=true:=by kernel_rfl)(hd:Ip x=false:=by rfl):aV G e (.Name x p) (Z fr) c (Z fr):=.loc (z.get fr) hx hl hd
theorem vG.put{x p value pos c fr tX}(z:vG e Z)(h:aV G e value σ c (Z fr))(hl:bx e x .local=true)(hu:upd fr x c=tX)(hc:oK value=false:=by rfl):SS G m e (.Assign [.Name x p] value pos) σ .next (Z tX):=
 hu▸z.set fr (upd fr x c)▸SS.assign h (.loc (z.get fr) hl) hc
theorem xW{a x key: CV}{lo hi: Int}{t up: Bool}{T: Expr}{p4 p5 p6 p7 p8 p9 wG wD q1 q2 q3 q4 q5 q6 q7 q8: Pos}{k8 kk: Nat}(b:BE e)(z:vG e Z)(z':vG e Z')(hb:EB m e=true)
  (hT:cD G e T (Z (R3 a x (.int lo) (.int hi) key (.int ((lo+hi).fdiv 2)))) t (Z' (R3 a x (.int lo) (.int hi) key (.int ((lo+hi).fdiv 2))))):
  eA G m e [.Assign [.Name (So "mid") p4] (.BinOp (.BinOp (.Name (So "lo") p5) .Add (.Name (So "hi") p6) p7) .FloorDiv (.Constant (.int 2) k8 p8) p9) wG,
    .If T (cond up [.Assign [.Name (So "lo") q1] (.BinOp (.Name (So "mid") q2) .Add (.Constant (.int 1) kk q3) q4) q5] [.Assign [.Name (So "hi") q6] (.Name (So "mid") q7) q8])
    (cond up [.Assign [.Name (So "hi") q6] (.Name (So "mid") q7) q8] [.Assign [.Name (So "lo") q1] (.BinOp (.Name (So "mid") q2) .Add (.Constant (.int 1) kk q3) q4) q5]) wD] (Z (bF a x (.int lo) (.int hi) key)) .next
   (Z' (R3 a x (.int (bif cond up (!t) t then lo else(lo+hi).fdiv 2+1)) (.int (bif cond up (!t) t then(lo+hi).fdiv 2 else hi)) key (.int ((lo+hi).fdiv 2)))):=by
 refine .cons (z.put (.bin (.bin (z.loc rfl b.lo) (z.loc rfl b.hi) cE) .int (jY (by decide) (by decide))) b.mid rfl) (.cons (.jK hT ?_) .nil hb) hb;clear hT;generalize (lo+hi).fdiv 2=mid;cases up<;>cases t<;>first|exact .cons (z'.put (z'.loc rfl b.mid) b.hi rfl) .nil hb|exact .cons (z'.put (.bin (z'.loc rfl b.mid) .int cE) b.lo rfl) .nil hb
theorem xX{S:Int->Int->St}{n: Int}{l:Int->Bool}{qQ: Expr}{body: List Stmt}{pos: Pos}(hb:EB m e=true)(ht:∀lo hi,cD G e qQ (S lo hi) (decide (lo<hi)) (S lo hi))
  (h:∀lo hi,0<=(lo+hi).fdiv 2->(lo+hi).fdiv 2<n->∃τ,eA G m e body (S lo hi) .next τ/\fz m τ (S (bif l ((lo+hi).fdiv 2)then lo else(lo+hi).fdiv 2+1) (bif l ((lo+hi).fdiv 2)then(lo+hi).fdiv 2 else hi)))
  {k:Nat}{lo hi:Int}(h0:0<=lo) (lU:lo<=hi) (hn:hi<=n) (hk:hi<=lo+k) {r:Int}(hr:jh l k lo hi=r):SS G m e (.While qQ body [] pos) (S lo hi) .next (S r r):=by
 refine SS.yx (λk σ=>∃lo hi,σ=S lo hi/\0<=lo/\lo<=hi/\hi<=n/\hi<=lo+k/\jh l k lo hi=r) _ ⟨lo,hi,rfl,h0,lU,hn,hk,hr⟩ hb ?_;clear h0 lU hn hk hr lo hi k;intro k _ vQ;refine Dt (vQ) λlo hi oS h0 lU hn hk hr=>?_;obtain rfl:=oS;by_cases ij:lo<hi
 ·refine gM (jZ ij) λm3 m4=>?_
  cases k with
  |zero=>exact absurd (jl ij (Int.add_zero lo▸hk)) (Int.lt_irrefl lo)
  |succ k =>
  rw[zU ij]at hr;have m0:=aQ h0 m3;refine aH (h lo hi m0 (jl m4 hn)) λτ h1 h2=>?_;have ht:=ht lo hi;rw[decide_eq_true ij]at ht;refine .inr ⟨_,τ,_,k,ht,h1,h2,bg k,_,_,rfl,?_⟩;clear h1 h2 ht;cases hx:l ((lo+hi).fdiv 2)with
  |true=>rw[hx]at hr;exact⟨h0,m3,aQ (fW m4) hn,Int.lt_add_one_iff.mp (jl m4 (Int.add_assoc lo k 1▸hk)),hr⟩
  |false=>rw[hx]at hr;exact⟨aQ m0 (fW (Int.lt_succ _)),m4,hn,aQ hk (aQ (Int.add_le_add_right m3 _) (Int.le_of_eq ((congrArg _ (Int.add_comm (k:Int) 1)).trans (Int.add_assoc _ _ _).symm))),hr⟩
 ·obtain rfl:lo=hi:=Int.le_antisymm lU (Int.not_lt.mp ij)
  have hr':jh l k lo lo=lo:=by
   cases k with
   |zero=>rfl
   |succ k=>rw[jh,if_neg (Int.lt_irrefl lo)]
  obtain rfl:lo=r:=hr'.symm.trans hr;have ht:=ht lo lo;rw[decide_eq_false ij]at ht;exact .inl ht
noncomputable def mY:Option Int->CV
 |some h=>.int h
 |none=>.none
theorem xY{xs: List CV}{x key: CV}{hi: Option Int}{lo r: Int}{R W1 W2: List Stmt}{bb: Bool}{p1 p2 p3 p4 p5 p6 p7 p8 p9 wG wD Ie Oo Om Ol Oj q1 q2 q3: Pos}{k1 k2 k3: Nat}(b:BE e)(z:vG e Z)(hb:EB m e=true)(cx:Glob G (So "len") (.builtin "len"))
  (ha:∀fr,(Z fr).get 0=some (.list xs)) (hf:xs.length<2^60) (h0:0<=lo) (hk:∀fr,bH G (bO .Is) key .none (Z fr) (.bool bb) (Z fr))
  (hw:eA G m e (cond bb W1 W2) (Z (bF (.ref 0) x (.int lo) (.int (hi.getD xs.length)) key)) .next (Z (bF (.ref 0) x (.int r) (.int r) key))):
  eA G m e [.If (.Compare (.Name (So "lo") p1) [.Lt] [.Constant (.int 0) k1 p2] p3) R [] p4,
   .If (.Compare (.Name (So "hi") p5) [.Is] [.Constant .none k2 p6] p7) [.Assign [.Name (So "hi") p8] (.Call (.Name (So "len") p9) [.Name (So "a") wG] [] wD) Ie] [] Oo,
   .If (.Compare (.Name (So "key") Om) [.Is] [.Constant .none k3 Ol] Oj) W1 W2 q1,.Return (some (.Name (So "lo") q2)) q3] (Z (bF (.ref 0) x (.int lo) (mY hi) key)) (.ret (.int r)) (Z (bF (.ref 0) x (.int r) (.int r) key)):=by
 refine .cons (.jK (b:=false) (.cmp (z.loc rfl b.lo) .int (decide_eq_false (Int.not_lt.mpr h0)▸jv)) .nil) ?_ hb;refine .cons (σ1:=Z (bF (.ref 0) x (.int lo) (.int (hi.getD xs.length)) key)) ?_ ?_ hb
 ·cases hi with
  |none=>exact .jK (b:=true) (.cmp (z.loc rfl b.hi) .none kN) (.cons (z.put (.dP (.glob cx b.len b.g b.b) (.cons (z.loc rfl b.a) .nil) (qf (ha _) (aA hf (by decide)))) b.hi rfl) .nil hb)
  |some h=>exact .jK (b:=false) (.cmp (z.loc rfl b.hi) .none (mB rfl)) .nil
 ·refine .cons (.jK (b:=bb) (.cmp (z.loc rfl b.key) .none (hk _)) (by cases bb<;>exact hw)) (.stop (.ret (z.loc rfl b.lo)) rfl) hb
theorem kQ{xs: List Int}{i: Int}(h0:0<=i)(h:i<xs.length):(xs.map CV.int)[i.toNat]?=some (.int (xs.getD i.toNat 0)):=by
 have:i.toNat<xs.length:=by lia
 simp[br,this]
end
section
variable{G:Gv}{e:Env}{m:Nat}{σ σ1:St}{f:CF}{Z:List (Str×CV)->St}{Zm:Int->List (Str×CV)->St}{n:Nat}
structure Df(G:Gv)(e:Env)(m:Nat)(Z:List (Str×CV)->St)(Zm:Int->List (Str×CV)->St)(xs:List CV)(key:CV)(v:Int->Int)(I:Expr):Prop where
 b:BE e
 z:vG e Z
 zm:∀mid,vG e (Zm mid)
 hb:EB m e=true
 len:Glob G (So "len") (.builtin "len")
 a:∀fr,(Z fr).get 0=some (.list xs)
 f:xs.length<2^60
 i:∀x lo hi mid:Int,0<=mid->mid<xs.length->aV G e I (Z (R3 (.ref 0) (.int x) (.int lo) (.int hi) key (.int mid))) (.int (v mid)) (Zm mid (R3 (.ref 0) (.int x) (.int lo) (.int hi) key (.int mid)))
 s:∀x lo hi mid:Int,fz m (Zm mid (R3 (.ref 0) (.int x) (.int lo) (.int hi) key (.int mid))) (Z (bF (.ref 0) (.int x) (.int lo) (.int hi) key))
variable{xs:List CV}{key:CV}{v:Int->Int}{I:Expr}{x lo r:Int}{hi:Option Int}{R W1 W2:List Stmt}{bb:Bool}{p1 p2 p3 p4 p5 p6 p7 p8 p9 wG wD Ie Oo Om Ol Oj q1 q2 q3:Pos}{k1 k2 k3:Nat}
theorem D9{a b: Int}(h:a<=b):b<=a+((b-a).toNat:Nat):=by
 rw[eV (Int.sub_nonneg.mpr h),Int.add_comm,Int.sub_add_cancel];exact bD b
theorem Df.right{w1 w2 w3 w4 w5 w6 w7 w8 w9 Th Tg Tf u0 u1 u2 u3 u4 u5 u6 u7 u8 u9: Pos}{k8 kk: Nat}(S:Df G e m Z Zm xs key v I)(hN:xs.length=n)(h0:0<=lo)(lU:lo<=hi.getD n)(hn:hi.getD n<=n)(hk:∀fr,bH G (bO .Is) key .none (Z fr) (.bool bb) (Z fr))
  (hr:jh (λk=>decide (x<v k)) (hi.getD n-lo).toNat lo (hi.getD n)=r)
  (hw:cond bb W1 W2=[.While (.Compare (.Name (So "lo") w1) [.Lt] [.Name (So "hi") w2] w3) [.Assign [.Name (So "mid") w4] (.BinOp (.BinOp (.Name (So "lo") w5) .Add (.Name (So "hi") w6) w7) .FloorDiv (.Constant (.int 2) k8 w8) w9) Th,
   .If (.Compare (.Name (So "x") u0) [.Lt] [I] u9) [.Assign [.Name (So "hi") u6] (.Name (So "mid") u7) u8] [.Assign [.Name (So "lo") u1] (.BinOp (.Name (So "mid") u2) .Add (.Constant (.int 1) kk u3) u4) u5] Tg] [] Tf]) (hm:behindInMarks .Lt I=false):
  eA G m e [.If (.Compare (.Name (So "lo") p1) [.Lt] [.Constant (.int 0) k1 p2] p3) R [] p4,
   .If (.Compare (.Name (So "hi") p5) [.Is] [.Constant .none k2 p6] p7) [.Assign [.Name (So "hi") p8] (.Call (.Name (So "len") p9) [.Name (So "a") wG] [] wD) Ie] [] Oo,
   .If (.Compare (.Name (So "key") Om) [.Is] [.Constant .none k3 Ol] Oj) W1 W2 q1,.Return (some (.Name (So "lo") q2)) q3] (Z (bF (.ref 0) (.int x) (.int lo) (mY hi) key)) (.ret (.int r)) (Z (bF (.ref 0) (.int x) (.int r) (.int r) key)):=
 by subst hN;exact xY S.b S.z S.hb S.len S.a S.f h0 hk (hw ▸ .cons (xX (S:=λlo hi=>Z (bF (.ref 0) (.int x) (.int lo) (.int hi) key)) (n:=xs.length) S.hb (λlo hi=>.cmp (S.z.loc rfl S.b.lo) (S.z.loc rfl S.b.hi) jv)
  (λlo hi c0 c1=>⟨_,xW (up:=false) S.b S.z (S.zm _) S.hb (.cmp (S.z.loc rfl S.b.x) (S.i _ _ _ _ c0 c1) jv hm),S.s _ _ _ _⟩) h0 lU hn (D9 lU) hr) .nil S.hb)
theorem Df.left{w1 w2 w3 w4 w5 w6 w7 w8 w9 Th Tg Tf u0 u1 u2 u3 u4 u5 u6 u7 u8 u9: Pos}{k8 kk: Nat}(S:Df G e m Z Zm xs key v I)(hN:xs.length=n)(h0:0<=lo)(lU:lo<=hi.getD n)(hn:hi.getD n<=n)(hk:∀fr,bH G (bO .Is) key .none (Z fr) (.bool bb) (Z fr))
  (hr:jh (λk=>!decide (v k<x)) (hi.getD n-lo).toNat lo (hi.getD n)=r)
  (hw:cond bb W1 W2=[.While (.Compare (.Name (So "lo") w1) [.Lt] [.Name (So "hi") w2] w3) [.Assign [.Name (So "mid") w4] (.BinOp (.BinOp (.Name (So "lo") w5) .Add (.Name (So "hi") w6) w7) .FloorDiv (.Constant (.int 2) k8 w8) w9) Th,
   .If (.Compare I [.Lt] [.Name (So "x") u0] u9) [.Assign [.Name (So "lo") u1] (.BinOp (.Name (So "mid") u2) .Add (.Constant (.int 1) kk u3) u4) u5] [.Assign [.Name (So "hi") u6] (.Name (So "mid") u7) u8] Tg] [] Tf]):
  eA G m e [.If (.Compare (.Name (So "lo") p1) [.Lt] [.Constant (.int 0) k1 p2] p3) R [] p4,
   .If (.Compare (.Name (So "hi") p5) [.Is] [.Constant .none k2 p6] p7) [.Assign [.Name (So "hi") p8] (.Call (.Name (So "len") p9) [.Name (So "a") wG] [] wD) Ie] [] Oo,
   .If (.Compare (.Name (So "key") Om) [.Is] [.Constant .none k3 Ol] Oj) W1 W2 q1,.Return (some (.Name (So "lo") q2)) q3] (Z (bF (.ref 0) (.int x) (.int lo) (mY hi) key)) (.ret (.int r)) (Z (bF (.ref 0) (.int x) (.int r) (.int r) key)):=
 by subst hN;exact xY S.b S.z S.hb S.len S.a S.f h0 hk (hw ▸ .cons (xX (S:=λlo hi=>Z (bF (.ref 0) (.int x) (.int lo) (.int hi) key)) (n:=xs.length) S.hb (λlo hi=>.cmp (S.z.loc rfl S.b.lo) (S.z.loc rfl S.b.hi) jv)
  (λlo hi c0 c1=>⟨_,xW (up:=true) S.b S.z (S.zm _) S.hb (.cmp (S.i _ _ _ _ c0 c1) ((S.zm _).loc rfl S.b.x) jv),S.s _ _ _ _⟩) h0 lU hn (D9 lU) hr) .nil S.hb)
noncomputable abbrev Zp(ns:List Int)(fr:List (Str×CV)):St:=⟨[(1,.frame fr),(0,.list (ns.map .int))],2⟩
theorem Df.plain{ns: List Int}{p1 p2 p3: Pos}(b:BE e)(he:e.locals=1)(hb:EB 2 e=true)(len:Glob G (So "len") (.builtin "len"))(f:ns.length<2^60)(hs:∀a b,iI (.Name (So "mid") p2) false a b=operate [a,b] (iq a b):=by intro _ _;with_unfolding_all rfl):
  Df G e 2 (Zp ns) (λzz=>Zp ns) (ns.map .int) .none (λk=>ns.getD k.toNat 0) (.Subscript (.Name (So "a") p1) (.Name (So "mid") p2) p3):=
 have z:vG e (Zp ns):=⟨λm=>he▸rfl,λm m'=>he▸rfl⟩;have fl:(ns.map CV.int).length<2^60:=by rw[aj];exact f
 ⟨b,z,λzz=>z,hb,len,λzz=>rfl,fl,
  λx lo hi mid h0 h1=>.sub (z.loc rfl b.a) (z.loc rfl b.mid) (ix rfl h0 (kQ h0 (by rw[aj]at h1;exact h1)) (aA fl (by decide)) hs),
  λx lo hi mid=>fz.mk [] rfl rfl ⟨⟨_,rfl,_,rfl,rfl,rfl,rfl,rfl,rfl,trivial⟩,⟨_,rfl,av⟩,trivial⟩⟩
end
section
variable{G:Gv}{e:Env}{m:Nat}{σ σ1:St}{f:CF}{g:n3}{nm:Str}{c r:Nat}{ns row:List Int}{x:Str}{i:Int}
def iV(g:n3)(nm:Str):Prop:=
 (∃p1 p2 p3 p4 p5,g.body=.BinOp (.Subscript (.Name (So "row") p1) (.Name nm p2) p3) .Sub (.Name nm p4) p5)/\(∀cl pm cv vg (v:af),bindArgs (kla_fn "<lambda>" g.q g.params g.body g.scope cl pm cv vg) ⟨[v],[]⟩=bA [(nm,v)]) /\
 (g.scope.names.lookup nm=some .local/\g.scope.names.lookup (So "row")=some .free)/\(g.scope.names.all λx=>x.2 != .cell)=true/\Ip nm=false/\g.scope.isCoroutine=false/\g.scope.isGenerator=false/\g.scope.kind=.function
noncomputable def keyOf(row:List Int)(i:Int):Int:=row.getD i.toNat 0-i
theorem CE{k:NameKind}(h1:e.scope.kind=.function)(h2:e.scope.names.lookup x=some k):bx e x k=true:=by
 unfold bx;rw[h1,show e.kindOf x=some k from h2];simp
theorem iV.call{i: Int}(K:iV g nm)(hc:g.clos=[(So "row",c)])(room:G.A.depth<b9)(kS:G.h₀.NoLimit){n: Nat}(hn:σ.get n=some (.fn g))(e1:σ.get c=some (.cell (some (.ref r))))(e2:σ.get r=some (.list (row.map .int)))
  (hc':c<σ.n) (hr:r<σ.n) (h0:0<=i) (h1:i<row.length) (hf:row.length<2^60):SF G n [.int i] σ (.int (keyOf row i)) (σ.push (.frame [(nm,.int i)])):=by
 refine K_ (K) λrm hbi lX X7 hd zv Qj hk=>?_;refine c_ λj7 ef=>?_;obtain⟨p1,p2,p3,p4,p5,hb⟩:=rm;obtain⟨hl,g_⟩:=lX;refine ef ?_;have old:∀k,k<σ.n->(σ.push (.frame [(nm,.int i)])).get k=σ.get k:=λk h=>by
  show cL ((σ.n,_)::σ.objs) k=_;rw[cL,kY (cR h)];rfl
 have top:(σ.push (.frame [(nm,.int i)])).get σ.n=some (.frame [(nm,.int i)]):=by
  show cL ((σ.n,_)::σ.objs) σ.n=_;rw[cL,bL]
 have lk:([(nm,CV.int i)]:List (Str×CV)).lookup nm=some (.int i):=by simp[kA]
 refine SF.rY (rb:=[(nm,.int i)]) room kS hn ?_ ?_ X7 (λenv cv=>?_) zv Qj hk
 ·intro α s _ cl pm cv vg Nh
  refine fu (Nh) λv zz M1 rv MZ=>?_;obtain rfl:=M1;obtain rfl:=MZ;exact⟨_,BindsTo.of_eq (hbi cl pm cv vg v),rfl,v,_,rfl,rv,rfl⟩
 ·simp[hl]
 ·have kl:∀x k,g.scope.names.lookup x=some k->bx (PY g σ.n cv) x k=true:=λx k h=>CE (e:=PY g σ.n cv) hk h
  rw[hb];refine .bin (.sub (.free (k:=c) (kl _ _ g_) ?_ ((old c hc').trans e1)) (.loc top lk (kl _ _ hl) hd) (ix ((old r hr).trans e2) h0 (kQ h0 h1) ?_)) (.loc top lk (kl _ _ hl) hd) lH
  ·show g.clos.lookup (So "row")=some c
   rw[hc];rfl
  ·rw[aj];exact aA hf (by decide)
theorem getD_mem(h0:0<=i)(h:i<ns.length):ns.getD i.toNat 0∈ns:=by
 have:i.toNat<ns.length:=by lia
 have e:ns.getD i.toNat 0=ns[i.toNat]:=by simp[this]
 exact e▸fm this
theorem mO{r:Nat->Nat}(hc:g.clos=[(x,c)])(h:r c=c):jt r (.fn g) (.fn g):=by
 cases g;cases hc;show AO.fn _=AO.fn _;rw[ba,h];rfl
noncomputable abbrev Zk(g:n3)(row ns:List Int)(fr:List (Str×CV)):St:=⟨[(4,.frame fr),(3,.list (row.map .int)),(2,.cell (some (.ref 3))),(1,.fn g),(0,.list (ns.map .int))],5⟩
noncomputable abbrev Zk'(g:n3)(row ns:List Int)(nm:Str)(mid:Int)(fr:List (Str×CV)):St:=(Zk g row ns fr).push (.frame [(nm,.int (ns.getD mid.toNat 0))])
theorem Df.keyed{p1 p2 p3 p4 p5: Pos}(K:iV g nm)(hc:g.clos=[(So "row",2)])(room:G.A.depth<b9)(kS:G.h₀.NoLimit)(hr:row.length<2^60)(hd:∀x∈ns,0<=x/\x<row.length)
  (b:BE e) (he:e.locals=4) (hb:EB 5 e=true) (len:Glob G (So "len") (.builtin "len")) (f:ns.length<2^60) (hs:∀a b,iI (.Name (So "mid") p2) false a b=operate [a,b] (iq a b):=by intro _ _;with_unfolding_all rfl):
  Df G e 5 (Zk g row ns) (Zk' g row ns nm) (ns.map .int) (.ref 1) (λk=>keyOf row (ns.getD k.toNat 0)) (.Call (.Name (So "key") p4) [.Subscript (.Name (So "a") p1) (.Name (So "mid") p2) p3] [] p5):=
 have z:vG e (Zk g row ns):=⟨λm=>he▸rfl,λm m'=>he▸rfl⟩;have fl:(ns.map CV.int).length<2^60:=by rw[aj];exact f
 ⟨b,z,λmid=>⟨λm=>he▸rfl,λm m'=>he▸rfl⟩,hb,len,λzz=>rfl,fl,
  λx lo hi mid h0 h1 =>
   have h1:mid<ns.length:=by rw[aj]at h1;exact h1
   have q:=hd _ (getD_mem h0 h1)
   .L9 (z.loc rfl b.key) (.cons (.sub (z.loc rfl b.a) (z.loc rfl b.mid) (ix rfl h0 (kQ h0 h1) (aA fl (by decide)) hs)) .nil) rfl (K.call hc room kS rfl rfl rfl (show 2<5 by decide) (show 3<5 by decide) q.1 q.2 hr),
  λx lo hi mid=>fz.mk [] rfl rfl ⟨⟨_,rfl,_,rfl,rfl,rfl,rfl,rfl,rfl,trivial⟩,⟨_,rfl,av⟩,⟨_,rfl,rfl⟩,⟨_,rfl,mO hc rfl⟩,⟨_,rfl,av⟩,trivial⟩⟩
end
section
variable{G:Gv}{a b c d k:CV}{cs:List CV}
theorem dq.aT{α h}{v: af}{vs: List af}(r:VR α h c v)(q:dq α h cs vs):dq α h (c::cs) (v::vs):=⟨v,vs,rfl,r,q⟩
theorem m_{α h}{i: Int}{t:Tok}:VR α h (.int i) (.int i t):=⟨t,rfl⟩
theorem cf{α h}:dq α h [] []:=rfl
theorem dw{α h}:VR α h .none .none:=rfl
theorem SK.fy{cs ks: List CV}{σ σ1 σ2: St}{f: CF}{m a: Nat}{fd body cl rb}{names: List Str}(room:G.A.depth<b9)(D:f9 G a fd)(kS:G.h₀.NoLimit)(uS:G.h₀.CodeRec fd.code fd.qualname)(K:iW fd body cl)
  (j3:∀α s vs ws,GS G α σ s->dq α s.heap cs vs->dq α s.heap ks ws->∃dh,bW s fd ⟨vs,names.zip ws⟩ dh/\dh.reverse.map (·.1)=rb.map (·.1)/\dq α s.heap (rb.map (·.2)) (dh.reverse.map (·.2)))
  (hk:(rb.all λp=>fd.scope.names.lookup p.1==some .local || (fd.scope.names.lookup p.1==some .cell&&(cl.lookup p.1).isSome))=true) (hm:dv σ.n m=true) (he:u' fd cl rb σ=σ1)
  (h:∀env,eA (deep G env) m (entryE fd cl σ.n a) body σ1 f σ2) {c:CV}(hc:tE f=c:=by rfl):SK G (λvs ws=>call (.ref a) vs (names.zip ws)) cs ks σ c σ2:=
 hc▸SK.entry room D kS uS K j3 hk (a_ hm) λenv=>he▸h env
theorem Kn{σ: St}{P:AM->aq->List af->List af->Prop}(h:∀α s v w,GS G α σ s->VR α s.heap a v->VR α s.heap b w->P α s [v,w] []):∀α s vs ws,GS G α σ s->dq α s.heap [a,b] vs->dq α s.heap [] ws->P α s vs ws:=by
 intro α s _ _ g o9 o8;refine c_ λj7 ef=>?_;obtain⟨va,_,rfl,ra,vx,_,rfl,rx,rfl⟩:=o9;obtain rfl:=o8;refine ef ?_;exact h α s va vx g ra rx
theorem Km{σ: St}{P:AM->aq->List af->List af->Prop}(h:∀α s v w u,GS G α σ s->VR α s.heap a v->VR α s.heap b w->VR α s.heap k u->P α s [v,w] [u]):∀α s vs ws,GS G α σ s->dq α s.heap [a,b] vs->dq α s.heap [k] ws->P α s vs ws:=by
 intro α s _ _ g o9 o8;refine c_ λj7 ef=>?_;obtain⟨va,_,rfl,ra,vx,_,rfl,rx,rfl⟩:=o9;obtain⟨vk,_,rfl,rk,rfl⟩:=o8;refine ef ?_;exact h α s va vx vk g ra rx rk
theorem G8{σ: St}{P:AM->aq->List af->List af->Prop}(h:∀α s v w x y,GS G α σ s->VR α s.heap a v->VR α s.heap b w->VR α s.heap c x->VR α s.heap d y->P α s [v,w,x,y] []):∀α s vs ws,GS G α σ s->dq α s.heap [a,b,c,d] vs->dq α s.heap [] ws->P α s vs ws:=by
 intro α s _ _ g o9 o8;refine c_ λj7 ef=>?_;obtain⟨va,_,rfl,ra,vx,_,rfl,rx,vl,_,rfl,rl,vh,_,rfl,rh,rfl⟩:=o9;obtain rfl:=o8;refine ef ?_;exact h α s va vx vl vh g ra rx rl rh
theorem VT{σ: St}{P:AM->aq->List af->List af->Prop}(h:∀α s v w x y u,GS G α σ s->VR α s.heap a v->VR α s.heap b w->VR α s.heap c x->VR α s.heap d y->VR α s.heap k u->P α s [v,w,x,y] [u]):∀α s vs ws,GS G α σ s->dq α s.heap [a,b,c,d] vs->dq α s.heap [k] ws->P α s vs ws:=by
 intro α s _ _ g o9 o8;refine c_ λj7 ef=>?_;obtain⟨va,_,rfl,ra,vx,_,rfl,rx,vl,_,rfl,rl,vh,_,rfl,rh,rfl⟩:=o9;obtain⟨vk,_,rfl,rk,rfl⟩:=o8;refine ef ?_;exact h α s va vx vl vh vk g ra rx rl rh rk
noncomputable abbrev sP(xs:List Int):St:=⟨[(0,.list (xs.map .int))],1⟩
noncomputable abbrev sK(g:n3)(row xs:List Int):St:=⟨[(3,.list (row.map .int)),(2,.cell (some (.ref 3))),(1,.fn g),(0,.list (xs.map .int))],4⟩
variable{e:Env}{m:Nat}{σ:St}{ns row:List Int}{g:n3}{nm bn:Str}{x lo r:Int}{hi:Option Int}{bf:Nat}{fd:cm}{E:List Stmt}{p1 p2 p3 p4 p5 p6 p7 p8 p9 wG wD Ie Oo Om Ol Oj p17 q1 q2 q3 q4 q5 q6:Pos}{k1:Nat}{fr tX:List (Str×CV)}
structure BI(e:Env)(bn:Str):Prop where
 a:bx e (So "a") .local=true
 x:bx e (So "x") .local=true
 lo:bx e (So "lo") .local=true
 hi:bx e (So "hi") .local=true
 key:bx e (So "key") .local=true
 fn:bx e bn .globalImplicit=true
 g:e.globals=3
 b:e.builtins=0
 d:Ip bn=false
noncomputable def insI(xs:List Int)(k:Int)(x:Int):List Int:=xs.take k.toNat++x::xs.drop k.toNat
theorem Cv(xs:List Int)(k x:Int):GR (xs.map CV.int) k (.int x)=(insI xs k x).map CV.int:=by
 simp[GR,insI,kq,List.map_drop]
theorem zD{k: Int}(h0:0<=k)(h1:k<2^40):cK k=true:=by
 unfold cK;simp;lia
theorem r9{k: Int}(h0:0<=k)(h1:k<=ns.length)(h:ns.length<2^20):k<=(ns.map CV.int).length/\(ns.map CV.int).length<=bC/\cK k=true:=by
 rw[aj];exact⟨h1,by simp[bC];lia,zD h0 (by lia)⟩
theorem A2{r:Nat->Nat}:l_ r (mY hi)=mY hi:=by cases hi<;>rfl
theorem tT{T: Stmt}{σ: St}(b:BI e bn)(he:e.locals=1)(hb:EB 2 e=true)(D:f9 G bf fd)(hg:Glob G bn (.ref bf))(spec:∀h₀,(∀b o,G.h₀.get? b=some o->h₀.get? b=some o)->SK (ext G h₀) (λvs ws=>call (.ref bf) vs ([].zip ws)) [.ref 0,.int x,.int lo,mY hi] [] (sP ns) (.int r) (Zp ns tX))
  (hT:eA G 2 e [T] (Zp ns (bF (.ref 0) (.int x) (.int r) (mY hi) .none)) .next σ):
  eA G 2 e [.If (.Compare (.Name (So "key") p1) [.Is] [.Constant .none k1 p2] p3) [.Assign [.Name (So "lo") p4] (.Call (.Name bn p5) [.Name (So "a") p6,.Name (So "x") p7,.Name (So "lo") p8,.Name (So "hi") p9] [] wG) wD] E Ie,T]
   (Zp ns (bF (.ref 0) (.int x) (.int lo) (mY hi) .none)) .next σ:=
 have z:vG e (Zp ns):=⟨λm=>he▸rfl,λm m'=>he▸rfl⟩
 .cons (.jK (b:=true) (.cmp (z.loc rfl b.key) .none kN) (.cons (z.put (.gy D (.glob hg b.fn b.g b.b b.d) (.cons (z.loc rfl b.a) (.cons (z.loc rfl b.x) (.cons (z.loc rfl b.lo) (.cons (z.loc rfl b.hi) .nil))))
  (SK.og (g:=λvs=>call (.ref bf) vs) (SK.tH (τ0:=sP ns) (τ1:=Zp ns tX) (l:=[(0,0)]) (c:=.int r) (ks:=[]) (ks0:=[]) rfl rfl rfl ⟨⟨_,rfl,av⟩,trivial⟩ rfl (λzz zz h zz=>h) ⟨⟨_,_,rfl,rfl,av⟩,trivial⟩ spec (by rw[cV,cV,cV,cV,A2];rfl) rfl rfl)) ) b.lo rfl) .nil hb)) hT hb
end
section
variable{G:Gv}{e:Env}{m:Nat}{σ:St}{ns row:List Int}{g:n3}{nm bn:Str}{x lo r:Int}{hi:Option Int}{bf:Nat}{fd:cm}{E:List Stmt}{p1 p2 p3 p4 p5 p6 p7 p8 p9 wG wD Ie Oo Om Ol Oj p17 q1 q2 q3 q4 q5 q6:Pos}{k1:Nat}{fr tX:List (Str×CV)}
noncomputable abbrev Z6(g:n3)(row ns:List Int)(nm:Str)(x:Int)(fr:List (Str×CV)):St:=(Zk g row ns fr).push (.frame [(nm,.int x)])
theorem tU{T: Stmt}{σ: St}(K:iV g nm)(hc:g.clos=[(So "row",2)])(room:G.A.depth<b9)(kS:G.h₀.NoLimit)(hr:row.length<2^60)(hx:0<=x/\x<row.length)
  (b:BI e bn) (he:e.locals=4) (hb:EB 5 e=true) (D:f9 G bf fd) (hg:Glob G bn (.ref bf)) (spec:∀h₀,(∀b o,G.h₀.get? b=some o->h₀.get? b=some o)->SK (ext G h₀) (λvs ws=>call (.ref bf) vs ([So "key"].zip ws)) [.ref 0,.int (keyOf row x),.int lo,mY hi] [.ref 1] (sK g row ns) (.int r) (Zk g row ns tX))
  (hT:eA G 5 e [T] (Z6 g row ns nm x (bF (.ref 0) (.int x) (.int r) (mY hi) (.ref 1))) .next σ):
  eA G 5 e [.If (.Compare (.Name (So "key") p1) [.Is] [.Constant .none k1 p2] p3) E [.Assign [.Name (So "lo") p4] (.Call (.Name bn p5) [.Name (So "a") p6,.Call (.Name (So "key") p7) [.Name (So "x") p8] [] p9,.Name (So "lo") wG,.Name (So "hi") wD] [⟨some (So "key"),.Name (So "key") Ie,Oo⟩] Om) Ol] Oj,T]
   (Zk g row ns (bF (.ref 0) (.int x) (.int lo) (mY hi) (.ref 1))) .next σ:=
 have z:vG e (Zk g row ns):=⟨λm=>he▸rfl,λm m'=>he▸rfl⟩;have z':vG e (Z6 g row ns nm x):=⟨λm=>he▸rfl,λm m'=>he▸rfl⟩
 .cons (.jK (b:=false) (.cmp (z.loc rfl b.key) .none (mB rfl)) (.cons (z'.put (.qq (names:=[So "key"]) D (.glob hg b.fn b.g b.b b.d)
  (.cons (z.loc rfl b.a) (.cons (.L9 (z.loc rfl b.key) (.cons (z.loc rfl b.x) .nil) rfl (K.call hc room kS rfl rfl rfl (show 2<5 by decide) (show 3<5 by decide) hx.1 hx.2 hr)) (.cons (z'.loc rfl b.lo) (.cons (z'.loc rfl b.hi) .nil))))
  (.cons (z'.loc rfl b.key) .nil)
  (SK.tH (τ0:=sK g row ns) (τ1:=Zk g row ns tX) (l:=[(0,0),(1,1),(2,2),(3,3)]) (c:=.int r) rfl rfl rfl ⟨⟨_,rfl,av⟩,⟨_,rfl,rfl⟩,⟨_,rfl,mO hc rfl⟩,⟨_,rfl,av⟩,trivial⟩ rfl (λzz zz h zz=>h)
   ⟨⟨_,_,rfl,rfl,av⟩,⟨_,_,rfl,rfl,mO hc rfl⟩,⟨_,_,rfl,rfl,rfl⟩,⟨_,_,rfl,rfl,av⟩,trivial⟩ spec (by rw[cV,cV,cV,cV,A2];rfl) rfl rfl)) b.lo rfl) .nil hb)) hT hb
theorem lx{n: Nat}(h:σ.get n=some (.list (ns.map .int)))(h0:0<=r)(h1:r<=ns.length)(hf:ns.length<2^20):bN G (λvs=>call (.builtin "list.insert") vs) [.ref n,.int r,.int x] σ .none (σ.set n (.list ((insI ns r x).map .int))):=
 Cv ns r x▸xf h h0 (r9 h0 h1 hf).1 (r9 h0 h1 hf).2.1 (r9 h0 h1 hf).2.2
end
section
variable{G:Gv}{σ τ1:St}{ns Ly row:List Int}{g:n3}{f:List af->List af->Sem af}{cs0:List CV}{c0:CV}{k0 k1 k2 k3:Nat}
theorem SS.mM{m: Nat}{e: Env}{x: Stmt}{σ1 σ2: St}(h:SS G m e x σ .next σ1)(k:fz m σ1 σ2):SS G m e x σ .next σ2:=by
 intro α s env E i g;refine wQ (h α s env E i g) ?_;rintro v s' ⟨β,le,g',rfl⟩;obtain⟨γ,yi,g2⟩:=k _ _ _ g';exact⟨γ,le.trans yi,g2,rfl⟩
theorem GS.below{α s k ao}(g:GS G α σ s)(e:σ.get k=some ao):a9 k σ.n=true:=by
 obtain⟨a,ha,_⟩:=g.own _ _ e;exact Nat.blt_eq.mpr (Nat.lt_of_not_le λh=>by rw[g.new k h]at ha;cases ha)
theorem Qx{r:Nat->Nat}{x: Str}{c d: Nat}(hc:g.clos=[(x,c)])(h:r c=d):AO.fn {g with clos:=[(x,d)]}=U0 r (.fn g):=by
 subst h;cases g;cases hc;rfl
theorem aa6(k:Nat):dv 0 k=true:=Nat.ble_eq.mpr (aW k)
theorem SK.wu(h:σ.get k0=some (.list (ns.map .int)))(spec:∀h₀,(∀b o,G.h₀.get? b=some o->h₀.get? b=some o)->SK (ext G h₀) f (.ref 0::cs0) [] (sP ns) c0 τ1)(e0:τ1.get 0=some (.list (Ly.map .int)))
  (sf:∀r,cV r cs0=cs0) (G6:∀r,l_ r c0=c0):SK G f (.ref k0::cs0) [] σ c0 (σ.set k0 (.list (Ly.map .int))):=by
 intro α s vs ws E g;have hb:=g.below h;have ht:τ1.get 0=some (.list (Ly.map .int)):=e0;refine SK.tH (σ':=σ.set k0 (.list (Ly.map .int))) (τ0:=sP ns) (τ1:=τ1) (l:=[(k0,0)]) (ks0:=[]) ?_ ?_ ?_ ⟨⟨_,h,av⟩,trivial⟩ rfl (rZ (.head _)) ⟨⟨_,_,?_,e0,av⟩,trivial⟩ spec ?_ rfl (G6 _).symm α s vs ws E g
 ·show(a9 0 1&&dv 0 k0&&true&&true)=true
  rw[aa6];rfl
 ·show(true&&a9 k0 σ.n&&true)=true
  rw[hb];rfl
 ·show(a9 k0 σ.n&&dv 0 0&&true&&true)=true
  rw[hb];rfl
 ·show cL (mX σ.objs k0 _) k0=_
  have h:cL σ.objs k0=some (.list (ns.map .int)):=h;rw[dc,if_pos rfl,h];rfl
 ·rw[cV,sf];rfl
theorem SK.EO(h0:σ.get k0=some (.list (ns.map .int)))(h1:σ.get k1=some (.fn g))(hc:g.clos=[(So "row",k2)])(h2:σ.get k2=some (.cell (some (.ref k3))))(h3:σ.get k3=some (.list (row.map .int)))(mQ:k0≠k3)
  (spec:∀h₀,(∀b o,G.h₀.get? b=some o->h₀.get? b=some o)->SK (ext G h₀) f (.ref 0::cs0) [.ref 1] (sK {g with clos:=[(So "row",2)]} row ns) c0 τ1)
  (e0:τ1.get 0=some (.list (Ly.map .int))) (e1:τ1.get 1=some (.fn {g with clos:=[(So "row",2)]})) (e2:τ1.get 2=some (.cell (some (.ref 3)))) (e3:τ1.get 3=some (.list (row.map .int)))
  (sf:∀r,cV r cs0=cs0) (G6:∀r,l_ r c0=c0):SK G f (.ref k0::cs0) [.ref k1] σ c0 (σ.set k0 (.list (Ly.map .int))):=by
 intro α s vs ws E gs;have b0:=gs.below h0;have b1:=gs.below h1;have b2:=gs.below h2;have b3:=gs.below h3;have ne:∀{i j ao ao'},σ.get i=some ao->σ.get j=some ao'->ao≠ao'->aU j i=false:=λ{i j ao ao'} e e' n=>kY λq=>n (by rw[q,e]at e';cases e';rfl);have RI:=ne h0 h1 (by intro q;cases q);have RH:=ne h0 h2 (by intro q;cases q);have ZG:aU k3 k0=false:=kY (Ne.symm mQ);have XK:=ne h1 h2 (by intro q;cases q);have n31:=ne h1 h3 (by intro q;cases q);have n32:=ne h2 h3 (by intro q;cases q);have r2:∀d,eE [(k0,0),(k1,1),(k2,2),(k3,3)] k2 d=2:=λd=>by
  show(match aU k2 k0 with|true=>_|false=>match aU k2 k1 with|true=>_|false=>match aU k2 k2 with|true=>_|false=>_)=_;rw[RH,XK,bL]
 have r3:∀d,eE [(k0,0),(k1,1),(k2,2),(k3,3)] k3 d=3:=λd=>by
  show(match aU k3 k0 with|true=>_|false=>match aU k3 k1 with|true=>_|false=>match aU k3 k2 with|true=>_|false=>match aU k3 k3 with|true=>_|false=>_)=_;rw[ZG,n31,n32,bL]
 have gt:∀{k ao},k≠k0->σ.get k=some ao->(σ.set k0 (.list (Ly.map .int))).get k=some ao:=λ{k ao} n e=>by
  show cL (mX σ.objs k0 _) k=_;rw[dc,if_neg n];exact e
 have nq:∀{i j},aU j i=false->j≠i:=λ{i j} h q=>by rw[q,bL]at h;cases h
 refine SK.tH (σ':=σ.set k0 (.list (Ly.map .int))) (τ0:=sK {g with clos:=[(So "row",2)]} row ns) (τ1:=τ1) (l:=[(k0,0),(k1,1),(k2,2),(k3,3)]) ?_ ?_ ?_ ⟨⟨_,h3,av⟩,⟨_,h2,rfl⟩,⟨_,h1,?_⟩,⟨_,h0,av⟩,trivial⟩ rfl (rZ (.head _))
  ⟨⟨_,_,?_,e0,av⟩,⟨_,_,gt (nq RI) h1,e1,?_⟩,⟨_,_,gt (nq RH) h2,e2,?_⟩,⟨_,_,gt (nq ZG) h3,e3,av⟩,trivial⟩ spec ?_ rfl (G6 _).symm α s vs ws E gs
 ·simp[hV,dY,RI,RH,ZG,XK,n31,n32]
 ·simp only[List.all,b0,b1,b2,b3];rfl
 ·simp only[hV,List.all,b0,b1,b2,b3];rfl
 ·cases g;cases hc;rfl
 ·show cL (mX σ.objs k0 _) k0=_
  have h:cL σ.objs k0=some (.list (ns.map .int)):=h0;rw[dc,if_pos rfl,h];rfl
 ·exact Qx hc (r2 _)
 ·show AO.cell _=AO.cell _
  rw[show(Option.map (l_ λk=>eE [(k0,0),(k1,1),(k2,2),(k3,3)] k τ1.n) (some (CV.ref k3)))=some (.ref (eE [(k0,0),(k1,1),(k2,2),(k3,3)] k3 τ1.n))from rfl,r3]
 ·rw[cV,sf];rfl
end
section
theorem jT{α β:Type}(f:α->β)(l:List α):∀is:List Nat,is.filterMap ((l.map f)[·]?)=(is.filterMap (l[·]?)).map f
 |[]=>rfl
 |i::is=>by
  cases e:l[i]? with
  |none=>rw[fZ (by simp[e]),fZ e,jT f l is]
  |some a=>rw[fY (by simp[e];rfl),fY e,jT f l is];rfl
theorem gp{α:Type}(xs:List α)(d:α):(az xs.length).map (λi=>xs.getD i d)=xs:=by
 refine List.ext_getElem (by simp) λi h1 h2=>?_;simp at h1;simp[h1]
theorem rP(xs:List CV)(lo hi st:Option Int)(is:List Nat)(h:slicePick (((az xs.length).map λi=>bZ i).toArray) lo hi st=(is.map λi=>bZ i).toArray):om xs lo hi st=is.map (λi=>xs.getD i .none):=by
 have h2:=jH ((az xs.length).map λi=>bZ i) lo hi st;rw[h]at h2;simp only[aj,bU]at h2;rw[jT]at h2;have h3:=congrArg Array.toList h2;simp only at h3;have h4:=(List.map_inj_right (f:=λi:Nat=>bZ i) (λa b e=>by cases e;rfl)).mp h3;unfold om
 conv=>lhs;rw[←gp xs CV.none]
 rw[show((az xs.length).map λi=>xs.getD i CV.none).length=xs.length by simp,jT,←h4]
theorem rO(xs:List CV)(k:Int)(h:0<=k):om xs none (some k) none=xs.take k.toNat:=by
 obtain⟨n,rfl⟩:=cu h;rw[rP xs _ _ _ ((az xs.length).take n)]
 ·rw[kq,gp];rfl
 ·rw[slicePick_upto',kq]
theorem yP(xs:List CV)(k:Int)(h:0<=k):om xs (some k) none none=xs.drop k.toNat:=by
 obtain⟨n,rfl⟩:=cu h;rw[rP xs _ _ _ ((az xs.length).drop n)]
 ·rw[List.map_drop,gp];rfl
 ·rw[slicePick_from',List.map_drop]
theorem BZ(xs:List CV):om xs none none (some (-1))=xs.reverse:=by
 rw[rP xs _ _ _ ((az xs.length).reverse)]
 ·rw[List.map_reverse,gp]
 ·rw[krv_pick,List.map_reverse]
theorem tn(ns:List Int){k:Int}(h:0<=k):om (ns.map .int) none (some k) none=(ns.take k.toNat).map .int:=by rw[rO _ _ h,kq]
theorem CD(ns:List Int){k:Int}(h:0<=k):om (ns.map .int) (some k) none none=(ns.drop k.toNat).map .int:=by rw[yP _ _ h,List.map_drop]
theorem ED(ns:List Int):om (ns.map .int) none none (some (-1))=ns.reverse.map .int:=by rw[BZ,List.map_reverse]
variable{G:Gv}{σ:St}{ns ms:List Int}{j k:Nat}{cs0:List CV}{vs:Array af}{o:Obj}{c k0 n:Nat}{i:Int}{c0:CV}{τ1:St}{h:Heap}
theorem pk(h:ns.length<2^20):(ns.map CV.int).length<=bC:=by rw[aj];exact dn (bY h)
theorem mw(e:σ.get k=some (.list (ns.map .int)))(h:0<=i)(hf:ns.length<2^20):dk G (.ref k) none (some i) none σ (.ref σ.n) (σ.push (.list ((ns.take i.toNat).map .int))):=tn ns h▸slice_list e (by decide) (pk hf)
theorem my(e:σ.get k=some (.list (ns.map .int)))(h:0<=i)(hf:ns.length<2^20):dk G (.ref k) (some i) none none σ (.ref σ.n) (σ.push (.list ((ns.drop i.toNat).map .int))):=CD ns h▸slice_list e (by decide) (pk hf)
theorem BN(e:σ.get k=some (.list (ns.map .int)))(hf:ns.length<2^20):dk G (.ref k) none none (some (-1)) σ (.ref σ.n) (σ.push (.list (ns.reverse.map .int))):=ED ns▸slice_list e (by decide) (pk hf)
theorem j5(e1:σ.get j=some (.list (ns.map .int)))(e2:σ.get k=some (.list (ms.map .int)))(hf:ns.length+ms.length<=2^20):bH G (ft .Add) (.ref j) (.ref k) σ (.ref σ.n) (σ.push (.list ((ns++ms).map .int))):=
 aY (f:=CV.int)▸add_lists e1 e2 (by rw[aj,aj];exact dn hf)
noncomputable def bh(n:Nat):List Int:=(az n).map λi=>(0:Int)+(i:Nat)*1
theorem gO(n:Nat):(bh n).length=n:=by simp[bh]
theorem yJ(n:Nat):eN 0 1 n=(bh n).map CV.int:=by simp[bh,eN]
theorem kL{x: Int}(h:x∈bh n):0<=x/\x<n:=by
 simp[bh]at h;obtain⟨i,hi,rfl⟩:=h;lia
theorem rangeSize_one(a b:Int):bT a b 1=(b-a).toNat:=by
 unfold bT;rw[if_pos (by decide)]
 split
 ·rw[Int.ediv_one];lia
 ·lia
theorem nj(h:n<2^20):d_ 0 n 1=true/\bT 0 n 1=n:=
 ⟨small_one (by decide) (by decide) (by lia) (by lia),by rw[rangeSize_one];lia⟩
theorem list_range(hh:G.A.handled=none)(e:σ.get k=some (.gQ 0 n 1))(hn:n<2^20):bN G (λvs=>call (.type "list") vs) [.ref k] σ (.ref σ.n) (σ.push (.list ((bh n).map .int))):=
 yJ n▸oy hh e (nj hn).1 (nj hn).2 (ak (bY hn) (by decide))
theorem j2(e:σ.get k=some (.list (ns.map .int)))(hf:ns.length<2^20):bN G (λvs=>call (.builtin "len") vs) [.ref k] σ (.int ns.length) σ:=by
 have:=qf (G:=G) e (by rw[aj];exact aA hf (by decide))
 rwa [aj]at this
theorem SK.GC{f:List af->List af->Sem af}(h:σ.get k0=some (.list (ns.map .int)))(spec:∀h₀,(∀b o,G.h₀.get? b=some o->h₀.get? b=some o)->SK (ext G h₀) f (.ref 0::cs0) [] (sP ns) c0 τ1)(e0:τ1.get 0=some (.list (ns.map .int)))
  (sf:∀r,cV r cs0=cs0) (G6:∀r,l_ r c0=c0):SK G f (.ref k0::cs0) [] σ c0 σ:=by
 have:=SK.wu h spec e0 sf G6
 rwa [St.set_same h]at this
theorem SK.AR{row: List Int}{g: n3}{k1 k2 k3: Nat}{τ1: St}{f:List af->List af->Sem af}{cs0: List CV}{c0: CV}(h0:σ.get k0=some (.list (ns.map .int)))(h1:σ.get k1=some (.fn g))(hc:g.clos=[(So "row",k2)])(h2:σ.get k2=some (.cell (some (.ref k3))))(h3:σ.get k3=some (.list (row.map .int)))(mQ:k0≠k3)
  (spec:∀h₀,(∀b o,G.h₀.get? b=some o->h₀.get? b=some o)->SK (ext G h₀) f (.ref 0::cs0) [.ref 1] (sK {g with clos:=[(So "row",2)]} row ns) c0 τ1)
  (e0:τ1.get 0=some (.list (ns.map .int))) (e1:τ1.get 1=some (.fn {g with clos:=[(So "row",2)]})) (e2:τ1.get 2=some (.cell (some (.ref 3)))) (e3:τ1.get 3=some (.list (row.map .int)))
  (sf:∀r,cV r cs0=cs0) (G6:∀r,l_ r c0=c0):SK G f (.ref k0::cs0) [.ref k1] σ c0 σ:=by
 have:=SK.EO h0 h1 hc h2 h3 mQ spec e0 e1 e2 e3 sf G6
 rwa [St.set_same h0]at this
theorem ql{P: Nat}{file: Str}{tf:Tok}{Hg: Int}{tg:Tok}{Z8: Bool}{text: Int}{tt:Tok}(e:h.get? c=some o)(e1:o.cls=.type "code")(e2:o.data=.fields vs)(e3:vs[11]?=some (.ref P))(e4:vs.getD 11 .none=.ref P)(e5:vs.getD 18 .none=.str file tf)
  (e6:vs.getD 7 .none=.int Hg tg) (e7:vs.getD 9 .none=.bool Z8) (e8:vs.getD 10 .none=.int text tt) (e9:aU c P=false):CodeHd h c P:=
 ⟨o,vs,file,tf,Hg,tg,Z8,text,tt,e,e1,e2,e3,e4,e5,e6,e7,e8,λq=>by cases q;rw[bL]at e9;cases e9⟩
theorem dA{q: Str}{t:Tok}(e:h.get? c=some o)(e1:o.data=.fields vs)(e2:vs[1]?=some (.str q t)):h.CodeRec (.ref c) q:=⟨c,o,vs,t,rfl,e,e1,e2⟩
theorem bE{ts: List Expr}{v: Expr}{env e: Env}(h:env.scope=e.scope):swappedStores ts v env=swappedStores ts v e:=by
 cases env;cases e;cases h;rfl
end
section
variable{G:Gv}{σ:St}{l:List Nat}
noncomputable abbrev tx(l:List Nat):Str:=⟨l.toArray⟩
theorem dT(l:List Nat):(tx l).length=l.length:=dJ
theorem rH{i j: Int}(h0:0<=i)(h1:i<=j)(h2:j<=l.length):Txt.slice (tx l) (some i) (some j)=tx ((l.drop i.toNat).take (j-i).toNat):=by
 have:=PySem.StrLaws.sliceText_plain (x:=tx l) (i:=i) (j:=j) ⟨h0,h1,by simpa using h2⟩;exact this
theorem U'{c: Nat}:(!(d3 (tx l) ⟨#[c]⟩ 0 (tx l).length 1).isEmpty)=decide (c∈l):=by
 rw[PySem.StrLaws.found_one]
theorem xA(xs:List (List Nat)):∀a:Array Nat,((xs.map tx).foldl (λacc p=>acc++(gL:Str).cps++p.cps) a)=a++xs.flatten.toArray:=by
 induction xs with
 |nil=>intro a;simp
 |cons x xs ih =>
  intro a;rw[ba,List.foldl_cons,gW,ih];simp[gL]
theorem xx(xs:List (List Nat)):Builtin.Str.glued gL (xs.map tx)=tx xs.flatten:=by
 cases xs with
 |nil=>rfl
 |cons x xs =>
  unfold Builtin.Str.glued;rw[ba,List.drop_succ_cons,List.drop_zero,List.headD_cons,xA];simp
theorem J_(xs:List (List Nat)):LI (gL) (xs.map tx)=tx xs.flatten:=by
 cases xs with
 |nil=>rfl
 |cons x xs =>
  cases xs with
  |nil=>show tx x=tx (x++[]);rw[bV]
  |cons y xs=>exact xx (x::y::xs)
theorem uP{k: Nat}{xs: List (List Nat)}(e:σ.get k=some (.list (xs.map λx=>.str (tx x))))(hf:xs.flatten.length<=2^20):bN G (λvs=>call (.builtin "str.join") vs) [.str gL,.ref k] σ (.str (tx xs.flatten)) σ:=by
 have e':xs.map (λx=>CV.str (tx x))=(xs.map tx).map .str:=(bq ..).symm;rw[e']at e;have hg:∀(ys:List (List Nat)) (k:Nat),((ys.map tx).foldl (λa b=>a+b.length+(gL:Str).length) k)=k+ys.flatten.length:=by
  intro ys
  induction ys with
  |nil=>intro k;rfl
  |cons y ys ih =>
   intro k;rw[ba,List.foldl_cons,gW,aC,ih,dT,←kz];rfl
 have:=join_list (G:=G) (sep:=gL) e ?_ (by rw[xx,dT];exact dn hf)
 ·rwa [J_]at this
 ·rw[←Array.foldl_toList,List.toList_toArray,hg,fh]
  exact decide_eq_false (Nat.not_lt.mpr (dn hf))
end
noncomputable def gS:List Nat->Nat->List Nat
 |x::y::r,i=>if x=102/\y=105 then i::gS (y::r) (i+1)else gS (y::r) (i+1)
 |_,_=>[]
theorem fi0(k:Nat):gS [] k=[]:=rfl
theorem fi1(x k:Nat):gS [x] k=[]:=rfl
theorem fi2(x y:Nat)(r:List Nat)(i:Nat):gS (x::y::r) i=if x=102/\y=105 then i::gS (y::r) (i+1)else gS (y::r) (i+1):=rfl
noncomputable def bQ(l:List Nat):List (List Nat):=((0::(gS l 0).map (·+2)).zip (gS l 0++[l.length])).map λp=>(l.drop p.1).take (p.2-p.1)
open PySem.StrLaws PySem.Builtin.Str in
theorem rU(l:List Nat):∀(m k:Nat)(acc:Array Nat)(free:Nat),k+m=l.length+1->acc.size<=k->(free<=k∨(free=k+1/\∃r,l.drop k=105::r)) ->
  (forIn (List.range' k m) (acc,free) (occBody (tx l) (tx [102,105]) l.length (l.length+1))).run.fst.toList=acc.toList++gS (l.drop k) k
 |0,k,acc,free,hk,ha,hf=>by
  have:l.drop k=[]:=List.drop_eq_nil_of_le (by lia);rw[this];simp[fi0,fi1]
 |m+1,k,acc,free,hk,ha,hf=>by
  rw[List.range'_succ,c8];have sd:subAt (tx l) (tx [102,105]) k=((l.drop k).take 2==[102,105]):=by
   unfold Builtin.Str.subAt;show(l.toArray.extract k (k+2)==#[102,105])=_;rw[List.extract_toArray];simp[List.extract]
  unfold occBody;rw[sd];have hd:l.drop k=(l.drop k).take 1++l.drop (k+1):=by
   rw[←ib];exact(fE 1 _).symm
  match hl:l.drop k with
  |[] =>
   rw[if_neg (by simp)];have:=rU l m (k+1) acc free (by lia) (by lia) (by rcases hf with h|⟨h,r,e⟩;exact .inl (by lia);rw[hl]at e;cases e);refine this.trans ?_;have h0:l.drop (k+1)=[]:=by rw[←ib,hl];rfl
   rw[h0];simp[fi0,fi1]
  |[x] =>
   rw[if_neg (by simp)];have:=rU l m (k+1) acc free (by lia) (by lia) (by rcases hf with h|⟨h,r,e⟩;exact .inl (by lia);exact .inl (by lia));refine this.trans ?_;have h0:l.drop (k+1)=[]:=by rw[←ib,hl];rfl
   rw[h0];simp[fi0,fi1]
  |x::y::r =>
   have h0:l.drop (k+1)=y::r:=by rw[←ib,hl];rfl
   have cx:k+2<=l.length:=by
    have:=congrArg List.length hl;simp at this;lia
   by_cases Kd:x=102/\y=105
   ·refine gM (Kd) λMH MG=>?_
    obtain rfl:=MH;obtain rfl:=MG;have te:free<=k:=by
     rcases hf with h|⟨h,r',e⟩
     ·exact h
     ·rw[hl]at e;cases e
    rw[if_pos ⟨⟨⟨by show acc.size<_;lia,te⟩,by show k+2<=_;exact cx⟩,by simp⟩];have:=rU l m (k+1) (acc.push k) (k+2) (by lia) (by simp;lia) (.inr ⟨rfl,r,h0⟩);refine this.trans ?_;rw[h0]
    conv=>rhs;rw[fi2]
    simp
   ·rw[if_neg (by rintro⟨_,h⟩;simp at h;exact Kd h)]
    have:=rU l m (k+1) acc free (by lia) (by lia) (by rcases hf with h|⟨h,r,e⟩;exact .inl (by lia);exact .inl (by lia));refine this.trans ?_;rw[h0]
    conv=>rhs;rw[fi2]
    rw[if_neg Kd]
theorem v7(l:List Nat):rG (tx l) (tx [102,105])=(bQ l).map tx:=by
 have aak:d3 (tx l) (tx [102,105]) 0 (tx l).length ((tx l).length+1)=gS l 0:=by
  rw[PySem.StrLaws.occ_eq,dT];have:=rU l (l.length+1) 0 #[] 0 (by lia) (by simp) (.inl (aG _));simpa using this
 have Vm:bQ l=[l]->[tx l]=(bQ l).map tx:=λh=>by rw[h];rfl
 have Vo:gS l 0=[]->bQ l=[l]:=λh=>by unfold bQ;rw[h];simp
 unfold rG;rw[aak]
 split
 ·rename_i h
  simp only[Bool.or_eq_true,decide_eq_true_eq,dT]at h;rcases h with h|h
  ·refine Vm (Vo ?_)
   cases l with
   |nil=>rfl
   |cons x l=>cases l with
    |nil=>rfl
    |cons y r=>simp at h;lia
  ·exfalso
   have:fK (tx [102,105])=1:=by decide +kernel
   rw[this]at h;unfold fK at h
   split at h
   ·lia
   ·split at h<;>lia
 ·split
  ·rename_i h
   exact Vm (Vo (by simpa using h))
  ·unfold Builtin.Str.partsBetween bQ
   simp only[bq];rw[dT];refine dN λp zz=>?_;show Builtin.Str.strSub _ _ _=_;unfold Builtin.Str.strSub;simp[List.extract]
section
variable{G:Gv}{m:Nat}{e:Env}{σ σ1 σ2 XC:St}{a b:CV}{cs:List CV}{x y:Str}{target iter elt:Expr}{p pos:Pos}{it acc N n:Nat}{scope:iK}{name:Str}{kF:Pos}{o:Expr}{fr:List (Str×CV)}{l l':List CV}{i k:Nat}{args:List Expr}{lo:Int}{c:CV}{I:St}
noncomputable abbrev PP(σ:St)(l:List CV)(fr:List (Str×CV)):St:=(σ.push (.list l)).push (.frame fr)
theorem EM{ao: AO}(h:(PP σ l []).get k=some ao):(k=σ.n+1/\ao=.frame []/\(PP σ l fr).get k=some (.frame fr))∨(PP σ l fr).get k=some ao:=by
 have h:(match aU k (σ.n+1)with|true=>some (AO.frame [])|false=>cL (σ.push (.list l)).objs k)=some ao:=h;have e:(PP σ l fr).get k=(match aU k (σ.n+1)with|true=>some (AO.frame fr)|false=>cL (σ.push (.list l)).objs k):=rfl;rw[e];cases z:aU k (σ.n+1)with
 |true=>rw[z]at h;cases h;exact .inl ⟨aO z,rfl,rfl⟩
 |false=>rw[z]at h;exact .inr h
theorem BQ:fz m (PP σ l fr) (PP σ l []):=by
 intro G α s g;have ex:∀{k ao},(PP σ l []).get k=some ao->∃ao',(PP σ l fr).get k=some ao':=λh=>(EM h).elim (λq=>⟨_,q.2.2⟩) λq=>⟨_,q⟩;refine⟨α,qt.refl _ _,⟨λk ao h=>?_,λk ao a h ha=>?_,g.base,λj k ao ao' a h1 h2=>?_,g.new,g.lt,g.pW,g.os,g.bare⟩⟩
 ·rcases EM (fr:=fr) h with⟨_,rfl,q⟩|q
  ·obtain⟨a,ha,mf,hn,_⟩:=g.own _ _ q
   exact⟨a,ha,mf,hn,λy c hy=>nomatch hy⟩
  ·exact g.own _ _ q
 ·refine dX (ex h) λo q=>?_
  exact g.ow _ _ _ q ha
 ·refine dX (ex h1) λo q=>?_
  refine dX (ex h2) λo' q'=>?_;exact g.inj _ _ _ _ _ q q'
theorem cW.qW{gens:List cg}{g:cg}{st:af->Env->Sem Unit}(I:Nat->St)(c:Nat->CV)(out:Nat->List CV)(hN:∀i,(I i).n=N)(hb:EB (N+2) e=true)(hit:it<N+2)(hg:gens[0]?=some g)(ha:g.is_async=0)(h0:out 0=[])
  (VJ:∀it acc env,ki (.ListComp elt gens scope pos) 0 it acc env=ka target iter it env (st acc env) (again (.compLoop (.ListComp elt gens scope pos) 0 it acc env)))
  (self:d0 G fN (.ref it) (PP (I 0) [] []) (.ref it) (PP (I 0) [] [])) (turn:∀i,i<n->∃τ1 tj τ,fH G target it (PP (I i) (out i) []) (c i) τ1/\du G e target (c i) τ1 tj/\eU G (N+2) e st N tj τ/\fz (N+2) τ (PP (I (i+1)) (out (i+1)) []))
  (last:fV G it (PP (I n) (out n) []) XC):cW G (N+2) e (λit acc env=>.compStart (.ListComp elt gens scope pos) 0 it acc env) it N (PP (I 0) [] []) XC:=by
 have L:=cW.loop (m:=N+2) n (λi=>PP (I i) (out i) []) hb (aG _) hit (eI (bg N)) VJ (λi hi=>by obtain⟨τ1,tj,τ,h1,h2,h3,h4⟩:=turn i hi;exact⟨τ,⟨c i,τ1,tj,h1,h2,h3⟩,h4⟩) last;rw[h0]at L;exact cW.start hg ha self L
theorem cW.simple{gens:List cg}{g:cg}{st:af->Env->Sem Unit}(I:Nat->St)(c:Nat->CV)(fr:Nat->List (Str×CV))(out:Nat->List CV)(hN:∀i,(I i).n=N)(hb:EB (N+2) e=true)(hit:it<N+2)(hg:gens[0]?=some g)(ha:g.is_async=0)(h0:out 0=[])
  (VJ:∀it acc env,ki (.ListComp elt gens scope pos) 0 it acc env=ka target iter it env (st acc env) (again (.compLoop (.ListComp elt gens scope pos) 0 it acc env)))
  (self:d0 G fN (.ref it) (PP (I 0) [] []) (.ref it) (PP (I 0) [] [])) (turn:∀i,i<n->fH G target it (PP (I i) (out i) []) (c i) (PP (I (i+1)) (out i) [])/\du G e target (c i) (PP (I (i+1)) (out i) []) (PP (I (i+1)) (out i) (fr i))/\eU G (N+2) e st N (PP (I (i+1)) (out i) (fr i)) (PP (I (i+1)) (out (i+1)) (fr i)))
  (last:fV G it (PP (I n) (out n) []) XC):cW G (N+2) e (λit acc env=>.compStart (.ListComp elt gens scope pos) 0 it acc env) it N (PP (I 0) [] []) XC:=
 cW.qW I c out hN hb hit hg ha h0 VJ self (λi hi=>⟨_,_,_,(turn i hi).1,(turn i hi).2.1,(turn i hi).2.2,BQ⟩) last
theorem eU.Hu{out T': List CV}(h:aV G e elt σ c σ1)(hl:σ1.get acc=some (.list out))(hf:out.length<=bC)(ho:out++[c]=T'):eU G m e (kV elt) acc σ (σ1.set acc (.list T')):=ho▸eU.emit h hl hf
theorem T5:(PP I l fr).get I.n=some (.list l):=by
 show(match aU I.n (I.n+1)with|true=>some (AO.frame fr)|false=>match aU I.n I.n with|true=>some (AO.list l)|false=>_)=_;rw[kY (cR (bg _)),bL]
theorem Od:(PP I l fr).set I.n (.list l')=PP I l' fr:=by
 show St.mk (match aU I.n (I.n+1)with|true=>_|false=>(I.n+1,AO.frame fr)::match aU I.n I.n with|true=>(I.n,AO.list l')::I.objs|false=>_) _=_;rw[kY (cR (bg _)),bL];rfl
theorem eU.md(h:aV G e elt σ c (PP I l fr))(hN:I.n=acc)(hf:l.length<=bC)(ho:l++[c]=l'):eU G m e (kV elt) acc σ (PP I l' fr):=by
 subst hN;have:=eU.Hu (G:=G) (m:=m) h T5 hf ho
 rwa [Od]at this
noncomputable def eu(F:Nat->CV)(i:Nat):List CV:=(az i).map F
theorem eS{F:Nat->CV}:eu F i++[F i]=eu F (i+1):=by unfold eu;rw[dm,aY];rfl
theorem f5{F:Nat->CV}(h:i<=2^20):(eu F i).length<=bC:=by unfold eu;rw[aj,bU];exact dn h
noncomputable def outF(b:Nat->Bool)(F:Nat->CV)(i:Nat):List CV:=((az i).filter b).map F
theorem wI{b:Nat->Bool}{F:Nat->CV}(h:b i=true):outF b F i++[F i]=outF b F (i+1):=by
 unfold outF;rw[dm,lC,aY];simp[h]
theorem Ay{b:Nat->Bool}{F:Nat->CV}(h:b i=false):outF b F i=outF b F (i+1):=by
 unfold outF;rw[dm,lC,aY];simp[h]
theorem wJ{b:Nat->Bool}{F:Nat->CV}(h:i<=2^20):(outF b F i).length<=bC:=by
 unfold outF;rw[aj];exact dn (ak (List.length_filter_le _ _) (by rw[bU];exact h))
noncomputable def AW(lo:Int)(n i:Nat):AO:=.itR (lo+i) ((n:Int)-i) 1
theorem iP{hi: Int}(e:σ.get k=some (.gQ lo hi 1))(hs:d_ lo hi 1=true)(hn:bT lo hi 1=(n:Int)):d0 G fN (.ref k) σ (.ref σ.n) (σ.push (AW lo n 0)):=by
 have:=zo (G:=G) e hs (n:=n) hn;unfold AW
 rwa [show lo+((0:Nat):Int)=lo from Int.add_zero lo,show(n:Int)-((0:Nat):Int)=n from Int.sub_zero _]
theorem nk(hh:G.A.handled=none)(e:σ.get it=some (AW lo n i))(h:i<=n):d0 G fN (.ref it) σ (.ref it) σ:=yL hh e (Int.sub_nonneg.mpr (Int.ofNat_le.mpr h))
theorem X.jI(e:σ.get it=some (AW lo n i))(h:i<n):fH G (.Name x p) it σ (.int (lo+i)) (σ.set it (AW lo n (i+1))):=by
 have:=X.range (G:=G) (x:=x) (p:=p) e (Int.sub_pos.mpr (Int.ofNat_lt.mpr h));unfold AW
 rwa [show lo+((i+1:Nat):Int)=lo+i+1 from(Int.add_assoc lo i 1).symm,show(n:Int)-((i+1:Nat):Int)=n-i-1 from(Int.sub_sub (n:Int) i 1).symm]
theorem D.jI(hh:G.A.handled=none)(e:σ.get it=some (AW lo n n)):fV G it σ (σ.del it):=D.range hh e (Int.le_of_eq (Int.sub_self _))
theorem Hf{α β:Type}(g:α->β)(l:List α):(l.map λi=>[g i]).flatten=l.map g:=by
 induction l with
 |nil=>rfl
 |cons x l ih=>rw[ba,ba,gW,ih];rfl
theorem r6{h:Nat->Nat}(e:σ.get k=some (.list (eu (λi=>.str (tx [h i])) n)))(hf:n<=2^20):bN G (λvs=>call (.builtin "str.join") vs) [.str gL,.ref k] σ (.str (tx ((az n).map h))) σ:=by
 have e1:eu (λi=>.str (tx [h i])) n=((az n).map λi=>[h i]).map λx=>CV.str (tx x):=by unfold eu;rw[bq];rfl
 have e2:=Hf h (az n);rw[e1]at e;have:=uP (G:=G) e (by rw[e2,aj,bU];exact hf)
 rwa [e2]at this
theorem SS.to{x: Stmt}{f: CF}(h:SS G m e x σ f σ1)(q:σ1=σ2):SS G m e x σ f σ2:=q▸h
theorem Cf{env: Env}(h0:∀w,attributeBase o name env w=w)(hl:(kF.endLine==pos.line)=true)(hf:methodCallForm (args.length+0) (kj pos (fq args env)) (backToKw pos (keywordEach [] env))=true):
  eval (.Call (.Attribute o name kF) args [] pos) env=(do
   let ov ←eval o env
   fR kF.atName
   let(f,first) ←iY [ov] (iZ ov name (do return (←importBound o env).getD true))
   callWith pos f first (kj pos (fq args env)) []):=by
 have e:eval (.Call (.Attribute o name kF) args [] pos) env=(do
  let ov ←attributeBase o name env (eval o env)
  fR kF.atName
  methodCall o name kF pos env ov (args.length+0) (kj pos (fq args env)) (backToKw pos (keywordEach [] env))):=rfl
 rw[e,h0];unfold methodCall methodCallPos calleeOf;rw[hf,hl];rfl
theorem aV.qG{o: Expr}{kF pos: Pos}{args: List Expr}{id:String}{Tn:String}{c: CV}{σ3: St}(slot:Slot Tn name id)(pa:PlainAttrs Tn)(hty:typeOf (.builtin id)=pure (.type "method_descriptor"))
  (h1:aV G e o σ a σ1) (ht:∀α s v,GS G α σ1 s->VR α s.heap a v->s.TypeIs v Tn/\∀a,v=.ref a->∃o,s.heap.get? a=some o/\o.dict=bB) (h2:kG G e pos args σ1 cs σ2) (h3:bN G (λvs=>call (.builtin id) vs) (a::cs) σ2 c σ3)
  (h0:∀env w,attributeBase o name env w=w:=by intro _ _;rfl) (hl:(kF.endLine==pos.line)=true:=by rfl) (hf:∀env,methodCallForm (args.length+0) (kj pos (fq args env)) (backToKw pos (keywordEach [] env))=true:=by intro _;rfl):aV G e (.Call (.Attribute o name kF) args [] pos) σ c σ3:=
 aV.qR slot pa hty h1 ht h2 h3 λenv=>Cf (h0 env) hl (hf env)
end
section
variable{G:Gv}{σ τ1:St}{xs ys:List (Str×Str)}{f:List af->List af->Sem af}{cs0:List CV}{c0:CV}{x d t P C:Nat}{k:Int}{q:Nat->Nat->Str}
noncomputable abbrev sC(C P:Nat)(q:Nat->Nat->Str)(k:Int)(xs:List (Str×Str)):St:=⟨[(2,.tab P q),(1,.size k),(0,.cX C 1 (xs.map gc))],3⟩
theorem nC(r:Nat->Nat)(xs:List (Str×Str)):cV r (xs.map gc)=xs.map gc:=by
 induction xs with
 |nil=>rfl
 |cons p xs ih=>rw[ba,cV,ih];rfl
theorem SK.Aw(hx:σ.get x=some (.cX C d (xs.map gc)))(hd:σ.get d=some (.size k))(ht:σ.get t=some (.tab P q))
  (spec:∀h₀,(∀b o,G.h₀.get? b=some o->h₀.get? b=some o)->SK (ext G h₀) f (.ref 0::cs0) [] (sC C P q k xs) c0 τ1) (e0:τ1.get 0=some (.cX C 1 (ys.map gc))) (e1:τ1.get 1=some (.size k)) (e2:τ1.get 2=some (.tab P q))
  (sf:∀r,cV r cs0=cs0) (G6:∀r,l_ r c0=c0):SK G f (.ref x::cs0) [] σ c0 (σ.set x (.cX C d (ys.map gc))):=by
 intro α s vs ws E gs;have b0:=gs.below hx;have b1:=gs.below hd;have b2:=gs.below ht;have ne:∀{i j ao ao'},σ.get i=some ao->σ.get j=some ao'->ao≠ao'->aU j i=false:=λ{i j ao ao'} e e' n=>kY λq=>n (by rw[q,e]at e';cases e';rfl);have RI:=ne hx hd (by intro q;cases q);have RH:=ne hx ht (by intro q;cases q);have XK:=ne hd ht (by intro q;cases q);have r1:∀z,eE [(x,0),(d,1),(t,2)] d z=1:=λz=>by
  show(match aU d x with|true=>_|false=>match aU d d with|true=>_|false=>_)=_;rw[RI,bL]
 have gt:∀{k ao},aU k x=false->σ.get k=some ao->(σ.set x (.cX C d (ys.map gc))).get k=some ao:=λ{k ao} n e=>by
  show cL (mX σ.objs x _) k=_;rw[dc,if_neg λq=>by rw[q,bL]at n;cases n];exact e
 refine SK.tH (σ':=σ.set x (.cX C d (ys.map gc))) (τ0:=sC C P q k xs) (τ1:=τ1) (l:=[(x,0),(d,1),(t,2)]) (ks0:=[]) ?_ ?_ ?_ ⟨⟨_,ht,rfl⟩,⟨_,hd,rfl⟩,⟨_,hx,?_⟩,trivial⟩ rfl (rZ (.head _))
  ⟨⟨.cX C d (ys.map gc),_,?_,e0,?_⟩,⟨_,_,gt RI hd,e1,rfl⟩,⟨_,_,gt RH ht,e2,rfl⟩,trivial⟩ spec ?_ rfl (G6 _).symm α s vs ws E gs
 ·simp[hV,dY,RI,RH,XK]
 ·simp only[List.all,b0,b1,b2];rfl
 ·simp only[hV,List.all,b0,b1,b2];rfl
 ·show AO.cX C d _=AO.cX C _ (cV _ (xs.map gc))
  rw[nC];rfl
 ·show cL (mX σ.objs x _) x=_
  have h:cL σ.objs x=some (.cX C d (xs.map gc)):=hx;rw[dc,if_pos rfl,h];rfl
 ·show AO.cX C 1 _=AO.cX C (eE [(x,0),(d,1),(t,2)] d τ1.n) (cV _ (ys.map gc))
  rw[nC,r1]
 ·rw[cV,sf];rfl
end
section
variable{G:Gv}{m:Nat}{e:Env}{σ σ1 σ2 σ3:St}{cs xs:List CV}{c:CV}{x:Str}{p pos rN:Pos}{K:Frag}{n C d:Nat}{k:Int}{args:List Expr}
theorem aV.callC(X:K.In G.h₀)(hk:keepIn K (.ref C)=true)(hf:aV G e (.Name x p) σ (.val (.ref C)) σ1)(h:kG G e pos args σ1 cs σ2)(k:bN G (λvs=>call (.ref C) vs) cs σ2 c σ3):aV G e (.Call (.Name x p) args [] pos) σ c σ3:=by
 intro α s env E i g;refine aa (La (hf α s env E i g) λβ s1 y g1=>?_);refine callWith_of (P:=λh=>K.In h) (by rw[plain_any h.1];rfl) (keeps_K hk) (cZ h.1 (jb (h.2 β s1 env _ (i.mono y) g1) λγ vs s2 z g2 r=>?_));exact⟨λb o e=>(g2.base b o (X b o e)).2,wQ (k γ s2 vs E g2 r) λzz zz w=>w.trans (y.trans z)⟩
theorem BO(P:ae)(k:Int)(tk t:Tok):∃es n,(rJ P k tk t).data=.dict es n/\es.size<=1000:=⟨_,_,rfl,show 1<=1000 by decide⟩
theorem SS.setField{o value:Expr}{cd:ClassData}(X:K.In G.h₀)(hs:fx K (.ref C) "__setattr__"=some (some (.builtin "object.__setattr__")))(hc:clsIn K C=some cd)(hm:cd.mro=[.ref C,.type "list",.type "object"])(hhd:cd.hasDict=true)
  (ht:takerIn K C (So "_initial_size")=some bB) (h1:aV G e value σ (.int k) σ1) (h2:aV G e o σ1 (.ref n) σ2) (hx:σ2.get n=some (.cX C d xs)) (hd:σ2.get d=some .bare)
  (hsw:∀env,swapsWith value (some (.Attribute o (So "_initial_size") rN)) pos.line env=bA false:=by intro _;rfl):SS G m e (.Assign [.Attribute o (So "_initial_size") rN] value pos) σ .next (σ2.set d (.size k)):=by
 intro α s env E i g Γ q hΓ;refine ks_wpAt_Assign_Attr (c:=Γ.code) (_root_.PySem.wpAt_of_wpAny (jb (h1 α s env _ i g) λβ vq s1 y g1 rq=>?_)) (hsw env) Γ q rfl hΓ;obtain⟨t,rfl⟩:=rq;refine Lc (h2 β s1 env _ (i.mono y) g1) λγ a s2 z g2 ha=>?_;refine c_ λDd up1=>?_;obtain⟨a',qZ,b,vs,j,hb,eh,_⟩:=g2.own _ _ hx;cases qZ.symm.trans ha;refine up1 ?_;refine aH (g2.own _ _ hd) λb' C_ ed=>?_;cases C_.symm.trans hb;refine kJ (BO G.w.params k (s2.toks+1) t) λes j' e' hz=>?_;refine Em (K:=K) (C:=C) (es:=es.toList) (n:=j') (λb o e=>(g2.base b o (X b o e)).2) ⟨eh,rfl,rfl,ed⟩ rfl hs hc hm hhd ht rfl rfl (by rw[Array.toArray_toList];exact e') hz rfl ?_;have T:=g2.turn (h':=s2.heap.update b _) (ao':=.size k) hd hb (λc o hc eo=>((fI s2.heap b _).2 c hc).trans eo) (λle=>⟨s2.toks+1,t,fF _ ed rfl⟩) (s2.toks+1+1);exact⟨γ,((y.trans z).trans T.1).mL,T.2,rfl⟩
theorem GS.make{α s}(g:GS G α σ s):Le α s.heap (α.lN σ.n s.heap.objs.size 2) ((s.heap.push hZ).push (ny C s.heap.objs.size [] 0))/\GS G (α.lN σ.n s.heap.objs.size 2) (σ.oh [.bare,.cX C σ.n []]) {s with heap:=(s.heap.push hZ).push (ny C s.heap.objs.size [] 0)}:=by
 have k1:∀b o,s.heap.get? b=some o->((s.heap.push hZ).push (ny C s.heap.objs.size [] 0)).get? b=some o:=λb o e=>aw _ (aw _ e);refine g.AJ (os:=[.bare,.cX C σ.n []]) k1 (λi zz=>?_) (λle i ao h=>?_) s.toks
 ·cases e:s.heap.get? (s.heap.objs.size+i)with
  |none=>rfl
  |some o=>exact absurd (bJ e) (Nat.not_lt.mpr (bj _ _))
 ·cases i with
  |zero=>cases h;exact aw _ (aM _ rfl)
  |succ i=>cases i with
   |zero =>
    cases h;refine XD s.heap.objs.size [] 0 ⟨AM.gr (i:=0) (kn 1),?_,rfl⟩;have:=aM (s.heap.push hZ) (o:=ny C s.heap.objs.size [] 0) rfl
    rwa [ie]at this
   |succ i=>cases h
end
section
open PyProof
variable{G:Gv}{m:Nat}{e:Env}{σ σ1 σ2 σ3:St}{α β:AM}{s s2:aq}{msg:Str}{ks:List Nat}{l:List Env}
def yd(α:AM):List Nat->List Env->Prop
 |[],l=>l=[]
 |k::ks,l=>∃env r L,l=env::r/\env.scope.kind=.function/\env.frame=some L/\α.f k=some L/\yd α ks r
def vJ(σ:St)(ks:List Nat):Prop:=∀k∈ks,∃fr,σ.get k=some (.frame fr)
theorem yd.mono(le:∀k∈ks,∀a,α.f k=some a->β.f k=some a):∀{l},yd α ks l->yd β ks l:=by
 induction ks with
 |nil=>exact λh=>h
 |cons k ks ih=>rintro l ⟨env,r,L,e1,e2,e3,e4,h⟩;exact⟨env,r,L,e1,e2,e3,le k (.head _) _ e4,ih (λj hj=>le j (.tail _ hj)) h⟩
def sR(α:AM)(σ:St)(e:Nat)(a:Nat):Prop:=a=e∨∃k fr,σ.get k=some (.frame fr)/\α.f k=some a
theorem GS.Ks{k a: Nat}{fr: List (Str×CV)}(g:GS G α σ s)(e:σ.get k=some (.frame fr))(ha:α.f k=some a):∃o,s.heap.get? a=some o/\∀vs,o.data≠.fields vs:=by
 refine c_ λj7 ef=>?_;obtain⟨b,hb,mf,⟨o,es,ep,eo,d,_⟩,_⟩:=g.own _ _ e;cases hb.symm.trans ha;refine ef ?_;exact⟨o,eo,λvs q=>by rw[d]at q;cases q⟩
theorem GS.CC{h1: Heap}{x: Nat}(g:GS G α σ s)(kp:∀b o,s.heap.get? b=some o->h1.get? b=some o):∀{l},vJ σ ks->yd α ks l->h1.FunFrames (oN h1 (sR α σ x)) l:=by
 induction ks with
 |nil=>rintro l _ rfl;trivial
 |cons k ks ih =>
  intro l hs oT;refine z9 (oT) λenv r L SG e2 e3 e4 h=>?_;obtain rfl:=SG;obtain⟨fr,hk⟩:=hs k (.head _);refine aH (g.Ks hk e4) λo eo hd=>?_;refine⟨by rw[e2];decide,⟨L,o,e3,?_,kp _ _ eo,hd⟩,ih (λj hj=>hs j (.tail _ hj)) h⟩;cases q:(oN h1 (sR α σ x)).get? L with
  |none=>rfl
  |some o'=>exact absurd (.inr ⟨k,fr,hk,e4⟩) (fe.mp q).1
theorem GS.land{h: Heap}(g:GS G α σ s)(same:∀b o,(∀k fr,σ.get k=some (.frame fr)->α.f k≠some b)->s.heap.get? b=some o->h.get? b=some o)(up:∀k fr a mf,σ.get k=some (.frame fr)->α.f k=some a->s.heap.Ns a mf->h.Ns a mf):
  Le α s.heap α h/\GS G α σ {s with heap:=h}:=by
 have t:=g.goto (h':=h) (σ':=σ) (λk=>∃fr,σ.get k=some (.frame fr)) (λzz=>False) rfl (λk ⟨fr,q⟩=>⟨_,q⟩) (λzz f=>f.elim) (λb o hb=>same b o λk fr hk=>hb k ⟨fr,hk⟩) (λle=>?_) s.toks
 ·rwa [AM.less_none]at t
 ·rw[AM.less_none]at le ⊢
  refine⟨λk ⟨fr,hk⟩ a ha _=>?_,λk ao hk=>?_⟩
  ·obtain⟨b,hb,mf,hn,_⟩:=g.own _ _ hk
   cases hb.symm.trans ha;refine z_ (up k fr a mf hk ha hn) λo es ep eo zz=>?_;exact⟨o,eo⟩
  ·rcases Classical.em (∃fr,σ.get k=some (.frame fr))with⟨fr,q⟩|n
   ·cases q.symm.trans hk
    refine c_ λDd up1=>?_;obtain⟨b,hb,mf,hn,hf⟩:=g.own _ _ q;refine up1 ?_;exact .inr ⟨⟨fr,q⟩,b,hb,id,mf,up k fr b mf q hb hn,λy c hy=>(hf y c hy).imp λv r=>⟨r.1,r.2.mono le⟩⟩
   ·exact .inl ⟨hk,n⟩
inductive yk(msg:Str)(α:AM)(σ:St)(s2:aq)(l:List Env)(e:Nat)(h:Heap):Prop
 |mk (h1:Heap) (t:Nat) (tk:Tok) (n:Nat) (made:Heap.MadeExc s2.heap h1 e "ValueError" [.str msg tk]) (LZ:Heap.FlyingW (oN h1 (sR α σ e)) l e (.type "ValueError") (.ref t) h) (up:h1.UpToSlots h) (tup:h1.get? t=some (uk [.str msg tk] n)) (uo:s2.heap.get? t=none):yk msg α σ s2 l e h
end
section
open PyProof
variable{G:Gv}{m:Nat}{e:Env}{σ σ1 σ2 σ3:St}{α β:AM}{s s2:aq}{msg:Str}{ks:List Nat}{l:List Env}{cs:List CV}{h:Heap}{x:Nat}{env:Env}
theorem yk.Jv{M:fX}{A:b_}{h1: Heap}{k: Nat}{tk:Tok}{Q:Unit->aq->Prop}{E:af->aq->Prop}(te:A.frames=some (env::l))(hs:vJ σ (k::ks))(hr:yd α (k::ks) (env::l))(g:GS G α σ s2)(made:Heap.MadeExc s2.heap h1 x "ValueError" [.str msg tk])
  (hq:∀h,yk msg α σ s2 l x h->Q () {s2 with heap:=h}):ay M A (PySem.«leaving» env (.ref x)) Q E {s2 with heap:=h1}:=by
 refine kK (made.there) λt he htn ht=>?_;have ff:=g.CC (x:=x) made.keeps hs hr;refine z9 (hr) λzz zz L e0 zz eL zz zz=>?_;cases e0;have en:(oN h1 (sR α σ x)).get? x=none:=by
  cases q:(oN h1 (sR α σ x)).get? x with
  |none=>rfl
  |some o=>exact absurd (.inl rfl) (fe.mp q).1
 refine wpAny_leaving_firstW (base:=oN h1 (sR α σ x)) (a0:=.ref t) te ff eL he (λb o eb=>(fe.mp eb).2) en rfl rfl rfl λh2 hL2=>?_;refine Aa (hL2) λk1 M3 k3 k4=>?_;obtain⟨_,_,k2⟩:=M3;exact hq h2 ⟨h1,t,tk,_,made,⟨k1,en,k2,k3⟩,k4,ht,htn⟩
theorem yk.uO{M:fX}{A:b_}{L: Nat}{Q:Unit->aq->Prop}{E:af->aq->Prop}(te:A.frames=some (env::l))(hL:env.frame=some L)(f:yk msg α σ s2 (env::l) x h)(hq:∀h',yk msg α σ s2 l x h'->Q () {s2 with heap:=h'}):ay M A (PySem.«leaving» env (.ref x)) Q E {s2 with heap:=h}:=by
 obtain⟨h1,t,tk,n,made,LZ,up,tup,uo⟩:=f;exact wpAny_leaves_onW te hL LZ λh' hfl RO=>hq h' ⟨h1,t,tk,n,made,hfl,up.trans RO,tup,uo⟩
theorem yk.land(f:yk msg α σ s2 l x h)(g:GS G α σ s2):Le α s2.heap α h/\GS G α σ {s2 with heap:=h}:=by
 obtain⟨h1,t,tk,n,made,LZ,up,tup,uo⟩:=f;refine g.land (λb o hb eo=>LZ.1 b o (fe.mpr ⟨λq=>?_,made.keeps b o eo⟩)) λk fr a mf hk ha hn=>up.ns (hn.keeps made.keeps);rcases q with rfl|⟨k,fr,hk,ha⟩
 ·rw[made.new]at eo;cases eo
 ·exact hb k fr hk ha
def Rk(A:b_)(msg:Str)(β:AM)(σ:St)(s2:aq)(l:List Env)(env:Env)(v:af)(s':aq):Prop:=
 ∃x,v=.ref x/\∀(M:fX)(Q:Unit->aq->Prop)(E:af->aq->Prop),(∀h,yk msg β σ s2 l x h->Q () {s2 with heap:=h})->ay M A (PySem.«leaving» env v) Q E s'
def n9(G:Gv)(msg:Str)(m:Nat)(e:Env)(ks:List Nat)(xs:List Stmt)(σ σ':St):Prop:=∀α s env l Q E,EI α e env->GS G α σ s->G.A.frames=some (env::l)->yd α (e.locals::ks) (env::l) ->
 (∀β s2 v s',z0 m α s.heap β s2.heap->GS G β σ' s2->Rk G.A msg β σ' s2 l env v s'->E v s')->ay G.M G.A (jr xs env) Q E s
def dy(G:Gv)(msg:Str)(ks:List Nat)(f:List af->Sem af)(cs:List CV)(σ σ':St):Prop:=∀α s vs l Q E,GS G α σ s->dq α s.heap cs vs->G.A.frames=some l->yd α ks l ->
 (∀β s2 x h,Le α s.heap β s2.heap->GS G β σ' s2->yk msg β σ' s2 l x h->E (.ref x) {s2 with heap:=h})->ay G.M G.A (f vs) Q E s
theorem dy.entry{a: Nat}{fd: cm}{body: List Stmt}{rb: List (Str×CV)}(room:G.A.depth<b9)(D:f9 G a fd)(kS:G.h₀.NoLimit)(uS:G.h₀.CodeRec fd.code fd.qualname)(xw:fd.body=.stmts body)
  (j3:∀α s vs,GS G α σ s->dq α s.heap cs vs->∃dh,bW s fd ⟨vs,[]⟩ dh/\dh.reverse.map (·.1)=rb.map (·.1)/\dq α s.heap (rb.map (·.2)) (dh.reverse.map (·.2)))
  (nE:(fd.scope.names.all λx=>x.2 != .cell)=true) (hk:(rb.all λp=>fd.scope.names.lookup p.1==some .local)=true) (hm:σ.n<=m)
  (h:∀env,n9 (deep G env) msg m (entryE fd [] σ.n a) ks body (σ.push (.frame rb)) σ2)
  (zv:fd.scope.isCoroutine=false) (zu:fd.scope.isGenerator=false) (RS:fd.scope.kind=.function):dy G msg ks (λvs=>call (.ref a) vs) cs σ σ2:=by
 intro α s vs l Q E g r te hr hE;refine aH (D) λo ho hd=>?_;refine kK (j3 α s vs g r) λdh hb he hv=>?_;have kp:=λb o eb=>(g.base b o eb).2;refine iH (codeAny_call_def room (kp _ _ ho) hd (kS.keeps kp) (uS.keeps kp) xw hb (λx hx q=>?_) (λx hx=>?_) (λh1 qi hk1=>?_) zv zu RS)
 ·have:=List.all_eq_true.mp nE x hx
  rw[q]at this;cases this
 ·have:x.1∈rb.map (·.1):=he▸List.mem_map.mpr ⟨x,List.mem_reverse.mpr hx,rfl⟩
  refine aH (List.mem_map.mp this) λy hy e=>?_;rw[←e];exact beq_iff_eq.mp (List.all_eq_true.mp hk y hy)
 ·have t:=g.more (h':=h1) (ao:=.frame rb) hk1 (eG _) (λle=>⟨_,qi,λy c hy=>by obtain⟨v,Qb,r⟩:=(dq.lookup (x:=y) he hv).2 c hy;exact⟨v,Qb,r.mono le⟩⟩) (s.toks+dh.length)
  have ei:EI (α.add σ.n s.heap.objs.size) (entryE fd [] σ.n a) (callEnv fd s.heap.objs.size a):=⟨AM.d7 _ _ _,λx k e=>(nomatch e),rfl,rfl,rfl,rfl,rfl⟩;refine h (callEnv fd s.heap.objs.size a) _ _ _ l _ _ ei (t.2.deep _) (Around.frames_deeper te) ⟨_,l,_,rfl,RS,rfl,AM.d7 _ _ _,hr.mono λk zz a ha=>t.1.le k trivial a ha⟩ ?_;intro β s2 v s' x2 g2 Nd;refine aH (Nd) λx MM hl=>?_;obtain rfl:=MM;refine hl _ _ _ λh2 fl=>hE β s2 x h2 (qt.trans' t.1 x2 λk b zz e=>x2.le k (aA ?_ hm) b (t.1.le k trivial b e)) g2.uj fl;cases iB k σ.n with
  |inl q=>exact q
  |inr q=>rw[g.new k q]at e;cases e
end
section
open PyProof
variable{G:Gv}{m:Nat}{e:Env}{σ σ1 σ2 σ3:St}{α β:AM}{s s2:aq}{msg:Str}{ks:List Nat}{l:List Env}{cs:List CV}{env:Env}{x:Str}{p pos:Pos}{c:CV}{f:CF}{target:Expr}{it:Nat}{bM:List Stmt}
theorem yd.le{h h'}(le:Le α h β h'){l}(r:yd α ks l):yd β ks l:=r.mono λk zz a ha=>le.le k trivial a ha
theorem yd.XO{h h'}(hk:(ks.all λk=>a9 k m)=true)(le:z0 m α h β h'){l}(r:yd α ks l):yd β ks l:=r.mono λk q a ha=>le.le k (Nat.blt_eq.mp (List.all_eq_true.mp hk k q)) a ha
theorem n9.ifX{t: Expr}{x y: List Stmt}{b: Bool}(h:cD G e t σ b σ1)(k:n9 G msg m e ks (if b then x else y) σ1 σ2):n9 G msg m e ks (.If t x y pos::bM) σ σ2:=by
 intro α s env l Q E i g te hr hE;refine gD (wpAny_If (yv (h α s env E i g) λβ s1 x g1=>?_));cases b<;>exact k β s1 env l _ E (i.mono x) g1 te (hr.le x) λγ s2 v s' y=>hE γ s2 v s' (x.mL.trans y)
theorem n9.raise{np Wx cp: Pos}{k: Nat}{bM: List Stmt}(hh:G.A.handled=none)(hx:aV G e (.Name x np) σ (.val (.type "ValueError")) σ)(hs:vJ σ (e.locals::ks)):
  n9 G msg m e ks (.Raise (some (.Call (.Name x np) [.Constant (.str msg) k cp] [] Wx)) none pos::bM) σ σ:=by
 intro α s env l Q E i g te hr hE;refine gD (Raise_madeB PySem.F.excCall_ValueError PySem.F.excRaise_ValueError hh (La (hx α s env E i g) λβ s1 y g1=>?_));refine⟨rfl,?_⟩;show ay _ _ (spliced ((false,eval (.Constant (.str msg) k cp) env)::kj Wx (fq [] env))) _ _ _;refine i5 (Calls.Constant_str (ju ⟨show 1<=bC by decide,λh' e' hm=>?_⟩));exact hE β {s1 with toks:=s1.toks+1} _ _ y.mL (g1.tok _) ⟨e',rfl,λM Q E hq=>yk.Jv te hs (hr.le y) (g1.tok (s1.toks+1)) hm hq⟩
def sS(G:Gv)(msg:Str)(e:Env)(ks:List Nat)(x:Expr)(σ σ':St):Prop:=∀α s env l Q E,EI α e env->GS G α σ s->G.A.frames=some (env::l)->yd α ks (env::l) ->
 (∀β s2 y h,Le α s.heap β s2.heap->GS G β σ' s2->yk msg β σ' s2 (env::l) y h->E (.ref y) {s2 with heap:=h})->ay G.M G.A (eval x env) Q E s
theorem sS.call{a: Nat}{fd: cm}{args: List Expr}(D:f9 G a fd)(hf:aV G e (.Name x p) σ (.val (.ref a)) σ)(h:kG G e pos args σ cs σ1)(k:dy G msg ks (λvs=>call (.ref a) vs) cs σ1 σ2):
  sS G msg e ks (.Call (.Name x p) args [] pos) σ σ2:=by
 obtain⟨o,ho,hd⟩:=D;intro α s env l Q E i g te hr hE;refine aa (wQ (hf α s env E i g) ?_);rintro _ s1 ⟨β,l1,g1,rfl⟩;refine i_ (o:=o) (fd:=fd) (cZ h.1 (wQ (h.2 β s1 env E (i.mono l1) g1) ?_));rintro vs s2 ⟨γ,l2,g2,r2⟩;have l12:=l1.trans l2;exact⟨⟨(g2.base _ _ ho).2,hd⟩,k γ s2 vs (env::l) _ E g2 r2 te (hr.le l12) λδ s3 y h l3 g3 fl=>hE δ s3 y h (l12.trans l3) g3 fl⟩
theorem n9.assign{v: Expr}(h:sS G msg e (e.locals::ks) v σ σ1)(hc:oK v=false:=by rfl):n9 G msg m e ks (.Assign [.Name x p] v pos::bM) σ σ1:=by
 intro α s env l Q E i g te hr hE;have hr':=hr;refine Ds (hr') λzz zz L e0 zz eL zz=>?_;cases e0;exact gD (wpAny_Assign_Name (h α s env l _ E i g te hr λβ s2 y h le g2 fl=>hE β s2 _ _ le.mL g2 ⟨y,rfl,λM Q E hq=>fl.uO te eL hq⟩) (rV hc _ _ _))
def C7(G:Gv)(ks:List Nat)(env:Env)(α:AM):Prop:=∃l,G.A.frames=some (env::l)/\yd α ks (env::l)
def mZ(G:Gv)(ks:List Nat)(m:Nat)(e:Env)(x:Stmt)(σ:St)(f:CF)(σ':St):Prop:=∀α s env E,EI α e env->GS G α σ s->C7 G ks env α->ay G.M G.A (exec x env) (WM m G α s.heap f σ') E s
def iz(G:Gv)(ks:List Nat)(m:Nat)(e:Env)(x:List Stmt)(σ:St)(f:CF)(σ':St):Prop:=∀α s env E,EI α e env->GS G α σ s->C7 G ks env α->ay G.M G.A (jr x env) (WM m G α s.heap f σ') E s
theorem iz.of{xs: List Stmt}(h:eA G m e xs σ f σ1):iz G ks m e xs σ f σ1:=λα s env E i g zz=>h α s env E i g
theorem mZ.of{x: Stmt}(h:SS G m e x σ f σ1):mZ G ks m e x σ f σ1:=λα s env E i g zz=>h α s env E i g
theorem C7.XO{h h'}(hk:(ks.all λk=>a9 k m)=true)(le:z0 m α h β h')(c:C7 G ks env α):C7 G ks env β:=by
 obtain⟨l,h1,h2⟩:=c;exact⟨l,h1,h2.XO hk le⟩
theorem C7.le{h h'}(le:Le α h β h')(c:C7 G ks env α):C7 G ks env β:=by
 obtain⟨l,h1,h2⟩:=c;exact⟨l,h1,h2.le le⟩
theorem iz.cons{st: Stmt}(h:mZ G ks m e st σ .next σ1)(k:iz G ks m e bM σ1 f σ2)(hb:EB m e=true)(hk:(ks.all λk=>a9 k m)=true):iz G ks m e (st::bM) σ f σ2:=by
 intro α s env E i g c;refine gD (SW (h α s env E i g c) λβ s1 x g1=>?_);exact wQ (k β s1 env E (i.oq x hb) g1 (c.XO hk x)) λzz zz w=>w.trans x
inductive Bp(G:Gv)(ks:List Nat)(m:Nat)(e:Env)(target:Expr)(body:List Stmt)(it:Nat)(σ:St)(f:CF)(σ':St):Prop
 |mk (c:CV) (τ1 tj:St) (h1:fH G target it σ c τ1) (h2:du G e target c τ1 tj) (h3:iz G ks m e body tj f σ'):Bp G ks m e target body it σ f σ'
theorem Bp.run{body: List Stmt}{α s env a}{E:af->aq->Prop}{Q:Option af->aq->Prop}(t:Bp G ks m e target body it σ f σ1)(i:EI α e env)(g:GS G α σ s)(ha:α.f it=some a)(c:C7 G ks env α)
  (h:∀v s1,ay G.M G.A (fc target (.ref a) v) (λzz s2=>ay G.M G.A (ik target env v) (λzz s3=>ay G.M G.A (jr body env) (λr s4=>WM m G α s.heap f σ1 r s4) E s3) E s2) E s1->Q (some v) s1):ay G.M G.A (jJ (.ref a)) Q E s:=by
 obtain⟨c',τ1,tj,h1,h2,h3⟩:=t;refine wQ (h1 α s a E g ha) ?_;rintro _ s1 ⟨v,rfl,k⟩;refine h v s1 (wQ (k E) ?_);rintro _ s2 ⟨β,x,g2,r⟩;refine Ib (h2 β s2 env E v (i.mono x) g2 r) λγ s3 y g3=>?_;exact wQ (h3 γ s3 env E ((i.mono x).mono y) g3 ((c.le x).le y)) λzz zz w=>w.trans (x.trans y).mL
theorem mZ.for{target iter: Expr}{body pos}{m': Nat}(n:Nat)(S:Nat->St)(hb:EB m' e=true)(hk:(ks.all λk=>a9 k m')=true)(hm:m<=m')(hit:it<m')(h1:aV G e iter σ c σ1)(h2:d0 G fN c σ1 (.ref it) (S 0))
  (turn:∀i,i<n->∃τ,Bp G ks m' e target body it (S i) .next τ/\fz m' τ (S (i+1))) (last:fV G it (S n) σ2) (hs:∀env x,gd iter env x=bA x:=by intro _ _;rfl):
  mZ G ks m e (.For target iter body [] pos) σ .next σ2:=by
 intro α s env E i g c;refine wpAny_For (jb (h1 α s env E i g) λβ v s1 x g1 r1=>?_) (hs env);refine Lc (h2 β s1 v E g1 r1) λγ a s2 y g2 ha=>?_;have xy:=x.trans y;refine codeAny_forLoop_any (λk s'=>∃j δ,k=n-j/\j<=n/\z0 m' γ s2.heap δ s'.heap/\GS G δ (S j) s') ?_ n ⟨0,γ,rfl,aW _,qt.refl _ _,g2⟩;intro k s' DJ;refine tm (DJ) λj δ Dx hj le g'=>?_;obtain rfl:=Dx;have i':=(i.mono xy).oq le hb;have qZ:=le.le _ hit _ ha;by_cases ij:j<n
 ·refine aH (turn j ij) λτ t h3=>?_
  refine t.run i' g' qZ ((c.le xy).XO hk le) λv s1 w=>wQ w λzz s2 w=>wQ w λzz s3 w=>wQ w ?_;rintro _ s4 ⟨ε,z,g4,rfl⟩;refine aH (h3 G ε s4 g4) λζ z2 g5=>?_;exact⟨n-(j+1),Nat.sub_lt_sub_left ij (bg j),j+1,ζ,rfl,ij,(le.trans z).trans z2,g5⟩
 ·obtain rfl:j=n:=Nat.le_antisymm hj (iC ij)
  refine wQ (last δ s' a _ g' qZ) ?_;rintro _ s4 ⟨ε,z,g4,rfl⟩;exact wpAny_execs_nil ⟨ε,(xy.mL.trans (le.sub λk h=>aA h hm)).trans z.mL,g4,rfl⟩
end
section
open PyProof
variable{G:Gv}{m:Nat}{e:Env}{σ Bs σ1 σ2 σ3:St}{α β:AM}{s s2:aq}{msg:Str}{ks:List Nat}{l:List Env}{env:Env}{x n:Str}{v:af}{h:Heap}
noncomputable def ers(m:List (Str×CV))(n:Str):List (Str×CV):=m.filter λp=>p.1 != n
theorem zd{y: Str}{c: CV}{m: List (Str×CV)}(h:(ers m n).lookup y=some c):y≠n/\m.lookup y=some c:=by
 obtain⟨h1,h2⟩:=ou (f:=λy=>y != n) h;exact⟨bne_iff_ne.mp h1,h2⟩
noncomputable def Ry(G:Gv)(v:af)(h:Heap):Gv:=⟨G.prog,G.w,G.A.mark (some v),h,G.os⟩
theorem GS.re(g:GS G α σ s)(hb:∀b o,h.get? b=some o->α.off b/\s.heap.get? b=some o):GS (Ry G v h) α σ s:=
 ⟨λk ao e=>g.own k ao e,g.ow,hb,g.inj,g.new,g.lt,g.pW,g.os,g.bare⟩
theorem GS.YI(g:GS (Ry G v h) α σ s)(hb:∀b o,G.h₀.get? b=some o->h.get? b=some o):GS G α σ s:=
 ⟨λk ao e=>g.own k ao e,g.ow,λb o e=>g.base b o (hb b o e),g.inj,g.new,g.lt,g.pW,g.os,g.bare⟩
theorem Hc{M:fX}{A:b_}{p: Pos}{Q:af->aq->Prop}{E:af->aq->Prop}(h:Glob G x v)(kp:∀b o,G.h₀.get? b=some o->s.heap.get? b=some o)(hl:env.scope.kind=.function/\env.kindOf x=some .globalImplicit)(hg:env.globals=3)(hb:env.builtins=0)(q:Q v s)(hd:Ip x=false):ay M A (eval (.Name x p) env) Q E s:=by
 refine wpAny_Name ?_ hd;rw[jS hl.1 hl.2];rcases h with⟨mg,n1,e1⟩|⟨mg,mb,n1,e1,n2,e2⟩
 ·exact mJ (hg▸n1.keeps kp) e1 q
 ·exact iM (hg▸n1.keeps kp) e1 (hb▸n2.keeps kp) e2 q
structure H9(h₀ h:Heap)(msg:Str)(y t:Nat):Prop where
 sub:∀b o,h₀.get? b=some o->h.get? b=some o
 exc:h.ExcAt y "ValueError" (.ref t)
 tup:∃tk,h.TupAt t [.str msg tk]
theorem yk.landed{y t: Nat}{tk:Tok}{nt: Nat}{h1: Heap}{γ: AM}(g2:GS G β Bs s2)(made:Heap.MadeExc s2.heap h1 y "ValueError" [.str msg tk])(LZ:Heap.FlyingW (oN h1 (sR β Bs y)) (env::l) y (.type "ValueError") (.ref t) h)(up:h1.UpToSlots h)(tup:h1.get? t=some (uk [.str msg tk] nt))(uo:s2.heap.get? t=none)
  (ls:z0 m β h γ h) (gs:GS G γ σ1 {s2 with heap:=h}):H9 G.h₀ (oN h γ.O) msg y t/\GS (Ry G (.ref y) (oN h γ.O)) γ σ1 {s2 with heap:=h}:=by
 have off:∀a,s2.heap.get? a=none->¬γ.O a:=λa hn q=>by
  rcases ls.new a q with u|u
  ·obtain⟨o,ho⟩:=g2.lt a u;rw[hn]at ho;cases ho
  ·obtain⟨o,ho⟩:=gs.lt a q
   have ho:h.get? a=some o:=ho;rw[u]at ho;cases ho
 refine tm (LZ.first) λoe ws e1 e2 e3 e4=>?_;refine fu (Heap.TupAt.of_slots (vs:=[.str msg tk]) ⟨_,nt,tup,rfl,rfl⟩ up) λo n t1 t2 t3=>?_;exact⟨⟨λb o e=>fe.mpr (gs.base b o e),⟨oe,ws,fe.mpr ⟨off _ made.new,e1⟩,e2,e3,e4⟩,tk,o,n,fe.mpr ⟨off _ uo,t1⟩,t2,t3⟩,gs.re λb o e=>fe.mp e⟩
theorem mZ.NA{j: Nat}{y: Expr}{np aai aaG pos: Pos}{W8: Stmt}{Li: List Stmt}{S2:Nat->St}{m1: List (Str×CV)}(hx:Glob G x (.type "ValueError"))(hxk:bx e x .globalImplicit=true)(hl:bx e n .local=true)(hg:e.globals=3)(hb0:e.builtins=0)(hd:Ip x=false)(hc:oK y=false)
  (hX:∃Bs,sS G msg e (j::ks) y σ Bs/\fz m Bs σ1) (hm1:σ1.get e.locals=some (.frame m1)) (hb:EB m e=true)
  (hs:∀y t h,H9 G.h₀ h msg y t->eA (Ry G (.ref y) h) m e (W8::Li) (σ1.set e.locals (.frame (upd m1 n (.val (.ref y))))) .next (S2 y))
  (h2:∀y,∃m2,(S2 y).get e.locals=some (.frame m2)/\(S2 y).set e.locals (.frame (ers m2 n))=σ3):
  mZ G (j::ks) m e (.Try [.Expr y aaG] [.ExceptHandler (some (.Name x np)) (some n) (W8::Li) aai] [] [] pos) σ .next σ3:=by
 refine aH (hX) λBs hX hsh=>?_;intro α s env E i g ⟨l,te,hr⟩;have hf:=(bx.is hl i).1;have hi:interactive env=false:=by unfold interactive;rw[hf];rfl
 have hp:(env.scope.kind==.class || (env.scope.kind==.module&&env.locals != env.globals))=false:=by rw[hf];rfl
 refine wpAny_Try_except (gD (wpAny_Expr (hX α s env l _ _ i g te hr λβ s2 y h le g2 fl=>?_) hi (rV hc _ _ _)));obtain⟨h1,t,tk,nt,made,LZ,up,tup,uo⟩:=fl;refine Ds (hr) λzz zz L e0 zz hL zz=>?_;cases e0;refine wpAny_looks_onW te hL LZ λh4 VK sm4=>?_;refine wpAny_landsW VK λh5 Qy sm5=>?_;have F5:yk msg β Bs s2 (env::l) y h5:=⟨h1,t,tk,nt,made,Qy,(up.trans sm4).trans sm5,tup,uo⟩;refine aH (Qy.there) λob hob aal=>?_;refine wpAny_handleBy_builtin_as (X:="ValueError") (T:="ValueError") (b:=true) (by rw[isSubtype_type];kernel_rfl) (by rw[isSubtype_type];kernel_rfl) (by rw[isSubtype_type];kernel_rfl)
  (Hc hx (λb o q=>((F5.land g2).2.base b o q).2) (bx.is hxk i) (i.globals.trans hg) (i.builtins.trans hb0) ⟨rfl,⟨ob,hob,aal⟩,?_⟩ hd)
 rw[if_pos rfl];refine lands_againW (s:={s2 with heap:=h5}) Qy λh6 Wb sm6=>?_;have up6:=((up.trans sm4).trans sm5).trans sm6;refine gM (yk.land (s2:=s2) ⟨h1,t,tk,nt,made,Wb,up6,tup,uo⟩ g2) λlf gf=>?_;refine aH (hsh G β _ gf) λγ ls gs=>?_;refine gM (yk.landed g2 made Wb up6 tup uo ls gs) λea g7=>?_;have i7:=(i.mono (le.trans lf)).oq ls hb;refine jb (fg.loc (c:=.val (.ref y)) hm1 hl γ _ env _ (.ref y) i7 g7 rfl) λδ zz s8 l8 g8 zz=>?_;refine SW (hs y t _ ea δ s8 env _ (i7.mono l8) g8) λε s9 l9 g9=>?_;refine aH (h2 y) λm2 hm2 e3=>?_;refine c_ λDd up1=>?_;obtain⟨a,ha,mf,qi,q9⟩:=g9.own _ _ hm2;have i9:=(i7.mono l8).oq l9 hb;cases ha.symm.trans i9.loc;refine up1 ?_;refine wpAny_nameGoes_keeps (bx.is hl i).2 qi hp λh' v Qe uQ=>?_;have t9:=g9.turn (h':=h') (ao':=.frame (ers m2 n)) hm2 i9.loc (λb o hb eo=>(uQ.2 b hb).trans eo) (λle=>⟨_,Qe,λz c hz=>?_⟩) (s9.toks+1)
 ·exact⟨ε,((((le.trans lf).mL.trans ls).trans l8.mL).trans l9).trans t9.1.mL,e3▸t9.2.YI ea.sub,rfl⟩
 ·refine gM (zd hz) λh1 h2=>?_
  refine aH (q9 z c h2) λw hw r=>?_;exact⟨w,(if_neg h1).trans hw,r.mono le⟩
end
section
open PyProof
variable{G:Gv}{m:Nat}{e:Env}{σ σ0 σ1 σ2 σ3:St}{α β:AM}{s s2:aq}{msg:Str}{ks:List Nat}{l:List Env}{env:Env}{x:Str}{p pos:Pos}{a b c d:CV}{f:CF}{cs kc:List CV}{fr:List (Str×CV)}{k:Nat}{t:Bool}
theorem I_{y t: Nat}{h: Heap}(ea:H9 G.h₀ h msg y t)(hu:G.A.units+2<cLine):bN (Ry G (.ref y) h) (λvs=>call (.type "str") vs) [.val (.ref y)] σ (.str msg) σ:=by
 refine c_ λj7 ef=>?_;obtain⟨sub,⟨oe,ws,e1,e2,e3,e4⟩,tk,o,n,t1,t2,t3⟩:=ea;refine ef ?_;intro α s _ E g rz;refine fu (rz) λv zz lX SJ m8=>?_;obtain rfl:=lX;obtain rfl:=SJ;obtain rfl:=m8;exact P.str_of_exc_one (A:=G.A.mark (some (.ref y))) PySem.F.excStr_ValueError hu ⟨oe,ws,(g.base _ _ e1).2,e2,e3,e4⟩ ⟨o,n,(g.base _ _ t1).2,t2,t3⟩ (g.here (R:=VR) (d:=CV.str msg) (v:=.str msg tk) ⟨tk,rfl⟩)
def H8(G:Gv)(ks:List Nat)(α:AM):Prop:=∃l,G.A.frames=some l/\yd α ks l
theorem C7.toA(c:C7 G ks env α):H8 G ks α:=by
 obtain⟨l,h1,h2⟩:=c;exact⟨_,h1,h2⟩
theorem pJ.Hq{a: Nat}{fd body cl rb}{names: List Str}(room:G.A.depth<b9)(D:f9 G a fd)(kS:G.h₀.NoLimit)(uS:G.h₀.CodeRec fd.code fd.qualname)(K:iW fd body cl)
  (j3:∀α s vs ws,GS G α σ s->dq α s.heap cs vs->dq α s.heap kc ws->∃dh,bW s fd ⟨vs,names.zip ws⟩ dh/\dh.reverse.map (·.1)=rb.map (·.1)/\dq α s.heap (rb.map (·.2)) (dh.reverse.map (·.2)))
  (hk:(rb.all λp=>fd.scope.names.lookup p.1==some .local || (fd.scope.names.lookup p.1==some .cell&&(cl.lookup p.1).isSome))=true) (hm:dv σ.n m=true) (he:u' fd cl rb σ=σ1)
  (h:∀env,iz (deep G env) (σ.n::ks) m (entryE fd cl σ.n a) body σ1 f σ2) {c:CV}(hc:tE f=c:=by rfl):pJ G (H8 G ks) (λvs ws=>call (.ref a) vs (names.zip ws)) cs kc σ c σ2:=
 hc▸pJ.entry (C2:=λenv β=>C7 (deep G env) (σ.n::ks) env β) room D kS uS K j3 hk (a_ hm) (λα β L ⟨l,h1,h2⟩ le hL=>⟨l,Around.frames_deeper h1,_,l,L,rfl,K.kind,rfl,hL,h2.mono λk zz=>le k⟩) λenv α s E i g q=>h env α s env E i (he▸g) q
def nL(G:Gv)(ks:List Nat)(e:Env)(x:Expr)(σ:St)(b:Bool)(σ':St):Prop:=∀α s env E,EI α e env->GS G α σ s->C7 G ks env α->ay G.M G.A (isTrue x env (eval x env)) (W RB G α s.heap b σ') E s
theorem nL.of{x: Expr}(h:cD G e x σ t σ1):nL G ks e x σ t σ1:=λα s env E i g zz=>h α s env E i g
theorem mZ.jK{t: Expr}{x y: List Stmt}{b: Bool}(h:nL G ks e t σ b σ1)(k:eA G m e (if b then x else y) σ1 f σ2):mZ G ks m e (.If t x y pos) σ f σ2:=by
 intro α s env E i g c;refine wpAny_If (yv (h α s env E i g c) λβ s1 x g1=>?_);cases b<;>exact wQ (k β s1 env E (i.mono x) g1) λzz zz w=>w.trans x.mL
theorem nL.not{x: Expr}(h:nL G ks e x σ t σ1):nL G ks e (.UnaryOp .Not x pos) σ (!t) σ1:=by
 intro α s env E i g c;refine PyProof.Rows.isTrue_not (wQ (h α s env E i g c) ?_);rintro _ s1 ⟨β,x,g1,rfl⟩;exact⟨β,x,g1,rfl⟩
theorem nL.XA{x y: Expr}(h:cD G e x σ true σ1)(k:nL G ks e y σ1 t σ2):nL G ks e (.BoolOp .And [x,y] pos) σ t σ2:=by
 intro α s env E i g c;refine fJ (yv (h α s env E i g) λβ s1 x g1=>?_);refine fJ (yv (k β s1 env E (i.mono x) g1 (c.le x)) λγ s2 y g2=>?_);cases t with
 |false=>exact⟨γ,x.trans y,g2,rfl⟩
 |true=>exact PyProof.Rows.isTrue_and_nil ⟨γ,x.trans y,g2,rfl⟩
theorem nL.gy{a fd}{args: List Expr}(D:f9 G a fd)(hf:aV G e (.Name x p) σ (.val (.ref a)) σ1)(h:kG G e pos args σ1 cs σ2)(k:pJ G (H8 G ks) (λvs ws=>call (.ref a) vs ([].zip ws)) cs [] σ2 (.bool t) σ3)
  (he:∀env,isTrue (.Call (.Name x p) args [] pos) env (eval (.Call (.Name x p) args [] pos) env)=(do let v ←eval (.Call (.Name x p) args [] pos) env;fR (Expr.Call (.Name x p) args [] pos).pos;iY [v] (truthy v)):=by intro _;rfl):nL G ks e (.Call (.Name x p) args [] pos) σ t σ3:=by
 refine aH (D) λo ho hd=>?_;intro α s env E i g c;refine PyProof.Rows.isTrue_plain (aa (La (hf α s env E i g) λβ s1 l1 g1=>?_)) (he env);refine i_ (o:=o) (fd:=fd) (cZ h.1 (jb (h.2 β s1 env E (i.mono l1) g1) λγ vs s2 l2 g2 r2=>?_));refine⟨⟨(g2.base _ _ ho).2,hd⟩,wQ (k γ s2 vs [] E ((c.le l1).le l2).toA g2 r2 rfl) ?_⟩;rintro v s3 ⟨δ,l3,g3,rfl⟩;exact gb ⟨δ,(l1.trans l2).trans l3,g3,rfl⟩
def yj(fr:List (Str×CV)):Prop:=∀r,C6 r fr fr
noncomputable def uB(mf:Str->Option af)(fr:List (Str×CV)):List (Str×CV):=fr.map λp=>(p.1,.val ((mf p.1).getD .none))
theorem pZ{mf:Str->Option af}:(uB mf fr).lookup x=(fr.lookup x).map λzz=>.val ((mf x).getD .none):=by
 induction fr with
 |nil=>rfl
 |cons p fr ih =>
  rw[show uB mf (p::fr)=(p.1,.val ((mf p.1).getD .none))::uB mf fr from rfl,aR,aR,ih];cases q:x==p.1 with
  |true=>rw[←beq_iff_eq.mp q];rfl
  |false=>rfl
theorem EG{mf:Str->Option af}:yj (uB mf fr):=by
 intro r;have:∀l:List (Str×CV),(∀p∈l,(fr.lookup p.1).isSome=true)->C6 r (uB mf fr) (uB mf l):=by
  intro l
  induction l with
  |nil=>exact λzz=>trivial
  |cons p l ih =>
   intro h;refine⟨?_,ih λq hq=>h q (.tail _ hq)⟩;refine dX (Option.isSome_iff_exists.mp (h p (.head _))) λc hc=>?_;rw[pZ,hc];rfl
 refine this fr λp hp=>?_;clear this
 induction fr with
 |nil=>cases hp
 |cons q fr ih =>
  rw[aR];cases z:p.1==q.1 with
  |true=>rfl
  |false =>
   rcases List.mem_cons.mp hp with e|hp
   ·rw[e,beq_self_eq_true]at z;cases z
   ·exact ih hp
theorem St.get_set{o ao: AO}(h:σ.get k=some o):(σ.set k ao).get k=some ao:=by
 rw[show(σ.set k ao).get k=_ from dc k ao k,if_pos rfl,show cL σ.objs k=some o from h];rfl
theorem pJ.raw{C:AM->Prop}{F:List af->List af->Sem af}(hk:σ.get k=some (.frame fr))(xv:σ1.get k=some (.frame fr))
  (h:∀tX,yj tX->pJ G C F cs kc (σ.set k (.frame tX)) c (σ1.set k (.frame tX))):pJ G C F cs kc σ c σ1:=by
 intro α s vs ws E Kc g r1 r2;refine c_ λj7 ef=>?_;obtain⟨a,ha,mf,qi,q⟩:=g.own _ _ hk;refine ef ?_;have t:=g.turn (h':=s.heap) (ao':=.frame (uB mf fr)) hk ha (λb o zz e=>e) (λle=>⟨mf,qi,λx c hx=>?_⟩) s.toks
 ·refine jb (h _ EG α s vs ws E Kc t.2 r1 r2) λβ v s' le g' r=>?_
  have zt:(σ1.set k (.frame (uB mf fr))).get k=some (.frame (uB mf fr)):=St.get_set xv;refine c_ λDd up1=>?_;obtain⟨b,hb,mf',aam,q'⟩:=g'.own _ _ zt;cases(le.le k trivial a ha).symm.trans hb;refine up1 ?_;have t':=g'.turn (ao':=.frame fr) (h':=s'.heap) zt hb (λb o zz e=>e) (λzz=>⟨mf',aam,λx c hx=>?_⟩) s'.toks
  ·rw[St.set_set,St.set_same xv]at t'
   exact⟨β,le,t'.2,r⟩
  ·refine aH (q x c hx) λv h1 h2=>?_
   refine aH (q' x (.val v) (by rw[pZ,hx,h1];rfl)) λw h3 rt=>?_;obtain rfl:=rt;exact⟨_,h3,h2.mono le⟩
 ·rw[pZ]at hx
  cases z:fr.lookup x with
  |none=>rw[z]at hx;cases hx
  |some d =>
   rw[z]at hx;refine aH (q x d z) λv h1 zz=>?_;cases hx;exact⟨v,h1,by rw[h1];rfl⟩
end
section
open PyProof
variable{G:Gv}{σ:St}{a b c:CV}{n:Nat}{d:km}{ds:List km}{pos:Pos}{e:Env}{σ1:St}{x:Expr}{l:List Int}
structure Lay(n:Nat)(d:km):Prop where
 lay:d.canLay0=true
 eq:iU d d=true
 dep:d.depth<=n
structure yc(n:Nat)(ds:List km):Prop where
 lay:PyData.canLayAll0 ds=true
 eq:PyData.eqvAll ds ds=true
 dep:PyData.depthAll ds<=n
theorem Lay.int{i: Int}:Lay n (.int i):=⟨by rfl,by simp[iU],aW _⟩
theorem Lay.none:Lay n .none:=⟨by rfl,by simp[iU],aW _⟩
theorem Lay.str{x: Str}(h:gv x=true):Lay n (.str x):=⟨by simp only[PyData.canLay0,h],by simp[iU],aW _⟩
theorem Lay.list(h:yc n ds):Lay (n+1) (.list ds):=⟨by rw[PyData.canLay0];exact h.lay,by rw[iU];exact h.eq,by rw[PyData.depth];exact d8 h.dep⟩
theorem yc.nil:yc n []:=⟨by rfl,by simp[PyData.eqvAll],aW _⟩
theorem yc.cons(h:Lay n d)(k:yc n ds):yc n (d::ds):=⟨by rw[PyData.canLayAll0,h.lay,k.lay];rfl,by rw[PyData.eqvAll,h.eq,k.eq];rfl,by rw[PyData.depthAll];exact Nat.max_le.mpr ⟨h.dep,k.dep⟩⟩
theorem yc.map{β:Type}{g:β->km}(l:List β)(h:∀b∈l,Lay n (g b)):yc n (l.map g):=by
 induction l with
 |nil=>exact .nil
 |cons b l ih=>exact .cons (h b (.head _)) (ih λc hc=>h c (.tail _ hc))
theorem kO(L:Lay n d)(ha:Rd G σ a d)(hb:Rd G σ b d)(hu:G.A.units+n<cLine):bH G (bO .Eq) a b σ (.bool true) σ:=
 B8 ha hb L.lay L.lay (bc (gk (ak (Nat.min_le_left _ _) L.dep) _) hu) L.eq
theorem fb(L:Lay n d)(ha:Rd G σ a d)(hb:Rd G σ b d)(hu:G.A.units+n<cLine):bH G (bO .NotEq) a b σ (.bool false) σ:=
 qc ha hb L.lay L.lay (bc (gk (ak (Nat.min_le_left _ _) L.dep) _) hu) (by rw[L.eq];rfl)
theorem Lay.ints:Lay (n+1) (.list (l.map .int)):=.list (.map l λzz zz=>.int)
theorem Rd.ints{k: Nat}(e:σ.get k=some (.list (l.map .int))):Rd G σ (.ref k) (.list (l.map .int)):=.list e (.map (λzz=>.int) l)
theorem aV.zV(h:aV G e x σ c σ1):aV G e (.BoolOp .And [x] pos) σ c σ1:=λα s env E i g=>BoolOp_one (h α s env E i g)
theorem aV.vE{y: Expr}{bM: List Expr}{σ2: St}(h:aV G e x σ (.bool true) σ1)(k:aV G e (.BoolOp .And (y::bM) pos) σ1 c σ2):aV G e (.BoolOp .And (x::y::bM) pos) σ c σ2:=by
 intro α s env E i g;refine BoolOp_and (wQ (h α s env E i g) ?_);rintro _ s1 ⟨β,x,g1,rfl⟩;exact gb (wQ (k β s1 env E (i.mono x) g1) λzz zz w=>w.trans x)
end
section
open PyProof
variable{G:Gv}{σ τ0 τ1:St}{c c0:CV}{cs ks cs0 ks0:List CV}{l l2:List (Nat×Nat)}{σ':St}{ao:AO}{τ:St}{k:Nat}
def yb(r:Nat->Nat)(τ:St):List (Nat×AO)->Prop
 |[]=>True
 |(k,ao)::q=>(∃o,τ.get (r k)=some o/\jt r o ao)/\yb r τ q
def ya(r:Nat->Nat)(σ τ:St):List (Nat×Nat)->Prop
 |[]=>True
 |(k,_)::l=>(∃ao o,σ.get k=some ao/\τ.get (r k)=some o/\jt r o ao)/\ya r σ τ l
theorem yb.look{r:Nat->Nat}{ys: List (Nat×AO)}{xs: List (Nat×AO)}:yb r τ xs->cL (xs++ys) k=some ao->(∃o,τ.get (r k)=some o/\jt r o ao)∨cL ys k=some ao:=by
 induction xs with
 |nil=>exact λzz h=>.inr h
 |cons p xs ih =>
  obtain⟨j,o⟩:=p;intro x h;rw[fo]at h;unfold cL at h;cases z:aU k j with
  |true=>rw[z]at h;cases h;cases aO z;exact .inl x.1
  |false=>rw[z]at h;exact ih x.2 h
theorem ya.look{r:Nat->Nat}{j: Nat}(h:σ.get k=some ao):∀{l:List (Nat×Nat)},ya r σ τ l->(k,j)∈l->∃o,τ.get (r k)=some o/\jt r o ao:=by
 intro l
 induction l with
 |nil=>intro _ h;cases h
 |cons p l ih =>
  intro x q;rcases List.mem_cons.mp q with e|q
  ·cases e
   refine fu (x.1) λao' o h1 h2 h3=>?_;cases h1.symm.trans h;exact⟨o,h2,h3⟩
  ·exact ih x.2 q
theorem pJ.kx{C C0:AM->Prop}{f:List af->List af->Sem af}{news: List (Nat×AO)}{n': Nat}(hC:∀α yf:AM,C α->(∀j,yf.f j=α.f (eE (dY l) j σ.n))->C0 yf)
  (a:hV 0 τ0.n (dY l)=true) (b:(l.all λp=>(τ0.get p.2).isSome&&a9 p.1 σ.n)=true) (c':hV 0 n' (l++l2)=true) (d:(l2.all λp=>dv σ.n p.1)=true) (e:dv σ.n n'=true) (into:vH (λj=>eE (dY l) j σ.n) σ τ0.objs)
  (ro:ya (λk=>eE (l++l2) k τ1.n) σ τ1 l) (rn:yb (λk=>eE (l++l2) k τ1.n) τ1 news)
  (spec:∀h₀,(∀b o,G.h₀.get? b=some o->h₀.get? b=some o)->pJ (ext G h₀) C0 f cs0 ks0 τ0 c0 τ1)
  (sf:cs=cV (λj=>eE (dY l) j σ.n) cs0) (Ki:ks=cV (λj=>eE (dY l) j σ.n) ks0) (hr:c0=l_ (λk=>eE (l++l2) k τ1.n) c):pJ G C f cs ks σ c ⟨news++σ.objs,n'⟩:=by
 refine pJ.pass (l:=l) (l2:=l2) (σ':=⟨news++σ.objs,n'⟩) ⟨a,b,c',d,e,into,λk ao h=>?_⟩ hC spec sf Ki hr;rcases rn.look h with q|q
 ·exact .inr q
 ·exact(Classical.em (∃j,(k,j)∈l)).symm.imp (λn=>⟨λj hj=>n ⟨j,hj⟩,q⟩) λ⟨j,hj⟩=>ro.look q hj
theorem SK.kx{f:List af->List af->Sem af}{news: List (Nat×AO)}{n': Nat}(l l2:List (Nat×Nat))
  (a:hV 0 τ0.n (dY l)=true) (b:(l.all λp=>(τ0.get p.2).isSome&&a9 p.1 σ.n)=true) (c':hV 0 n' (l++l2)=true) (d:(l2.all λp=>dv σ.n p.1)=true) (e:dv σ.n n'=true) (into:vH (λj=>eE (dY l) j σ.n) σ τ0.objs)
  (ro:ya (λk=>eE (l++l2) k τ1.n) σ τ1 l) (rn:yb (λk=>eE (l++l2) k τ1.n) τ1 news)
  (spec:∀h₀,(∀b o,G.h₀.get? b=some o->h₀.get? b=some o)->SK (ext G h₀) f cs0 ks0 τ0 c0 τ1)
  (sf:cs=cV (λj=>eE (dY l) j σ.n) cs0) (Ki:ks=cV (λj=>eE (dY l) j σ.n) ks0) (hr:c0=l_ (λk=>eE (l++l2) k τ1.n) c):SK G f cs ks σ c ⟨news++σ.objs,n'⟩:=λα s vs ws E =>
 pJ.kx (C:=λzz=>True) (C0:=λzz=>True) (λzz zz zz zz=>trivial) a b c' d e into ro rn (λh b α s vs ws E zz=>spec h b α s vs ws E) sf Ki hr α s vs ws E trivial
end
section
open PyProof
variable{G:Gv}{σ σ1 σ2:St}{m n it:Nat}{objs:List (Nat×AO)}{a:CV}
theorem Hd{k:Nat}{ao:AO}:∀{l:List (Nat×AO)},cL l k=some ao->(k,ao)∈l:=by
 intro l
 induction l with
 |nil=>exact λh=>nomatch h
 |cons p l ih =>
  obtain⟨j,o⟩:=p;intro h;unfold cL at h;cases z:aU k j with
  |true=>rw[z]at h;cases h;cases aO z;exact .head _
  |false=>rw[z]at h;exact .tail _ (ih h)
theorem fz.mkX(l:List (Nat×Nat))(hm:dv m n=true)(hl:hV 0 n l=true)(hlm:(l.all λp=>dv m p.1)=true)(hX:(objs.all λp=>!(a9 p.1 m) || l.all λq=>!(aU q.2 p.1))=true)(h:vH (pX m σ.n l) σ objs):fz m σ ⟨objs,n⟩:=by
 intro G α s g;have lr:α.f σ.n=none:=g.new _ (aG _);have cs:∀k,(k<m/\pX m σ.n l k=k)∨(m<=k/\(pX m σ.n l k=σ.n∨(k,pX m σ.n l k)∈l/\k<n)):=λk=>by
  unfold pX;cases z:a9 k m with
  |true=>exact .inl ⟨Nat.blt_eq.mp z,rfl⟩
  |false=>exact .inr ⟨iC λq=>(by rw[Nat.blt_eq.mpr q]at z;cases z),(mz hl).imp id λq=>⟨q.1,q.2.1⟩⟩
 have low:∀{j k ao},cL objs j=some ao->j<m->(k,j) ∉ l:=λ{j k ao} e lt q=>by
  have:=List.all_eq_true.mp hX _ (Hd e);dsimp only at this;rw[Nat.blt_eq.mpr lt]at this;have:=List.all_eq_true.mp this _ q;rw[bL]at this;cases this
 have rr:K5 (pX m σ.n l) α ⟨λk=>α.f (pX m σ.n l k),α.O,α.R⟩:=⟨λzz zz e=>e,λzz f u=>⟨f,u⟩⟩;refine⟨⟨λk=>α.f (pX m σ.n l k),α.O,α.R⟩,⟨λk lt a e=>?_,λa e=>.inl e,rfl,λzz zz zz e=>e⟩,λk ao e=>?_,λk ao a e ha=>?_,g.base,λj k ao ao' a e1 e2 h1 h2=>?_,λk hk=>?_,g.lt,g.pW,g.os,g.bare⟩
 ·rcases cs k with⟨_,q⟩|⟨q,_⟩
  ·show α.f (pX m σ.n l k)=some a;rw[q];exact e
  ·exact absurd lt (Nat.not_lt.mpr q)
 ·refine aH (h.look e) λo ho q=>?_
  refine aH (g.own _ _ ho) λa ha r=>?_;exact⟨a,ha,r.sV rr q⟩
 ·refine aH (h.look e) λo ho q=>?_
  exact g.ow _ _ _ ho ha
 ·refine aH (h.look e1) λo1 q1 zz=>?_
  refine aH (h.look e2) λo2 q2 zz=>?_;have h1:α.f (pX m σ.n l j)=some a:=h1;have h2:α.f (pX m σ.n l k)=some a:=h2;have e:=g.inj _ _ _ _ _ q1 q2 h1 h2;rcases cs j with⟨a1,b1⟩|⟨a1,b1⟩
  ·rcases cs k with⟨a2,b2⟩|⟨a2,b2|b2⟩
   ·rw[←b1,←b2];exact e
   ·rw[b2,lr]at h2;cases h2
   ·rw[b1]at e;rw[←e]at b2;exact(low e1 a1 b2.1).elim
  ·rcases b1 with b1|b1
   ·rw[b1,lr]at h1;cases h1
   ·rcases cs k with⟨a2,b2⟩|⟨a2,b2|b2⟩
    ·rw[b2]at e;rw[e]at b1;exact(low e2 a2 b1.1).elim
    ·rw[b2,lr]at h2;cases h2
    ·rw[e]at b1;exact nR hl b1.1 b2.1
 ·rcases cs k with⟨a1,_⟩|⟨_,b1|b1⟩
  ·exact absurd (ak (a_ hm) hk) (Nat.not_le.mpr a1)
  ·show α.f (pX m σ.n l k)=none;rw[b1];exact lr
  ·exact absurd hk (Nat.not_le.mpr b1.2)
theorem d0.mM{f:af->Sem af}(h:d0 G f a σ (.ref it) σ1)(k:fz m σ1 σ2)(hm:dv σ.n m=true)(hit:a9 it m=true):d0 G f a σ (.ref it) σ2:=by
 intro α s v E g r;refine Lc (h α s v E g r) λβ b s1 x g1 hb=>?_;refine aH (k G β s1 g1) λγ y g2=>?_;refine⟨γ,x.trans' y λk a zz e=>y.le k ?_ a (x.le k trivial a e),g2,b,rfl,y.le it (Nat.blt_eq.mp hit) b hb⟩;refine aA ?_ (a_ hm);cases iB k σ.n with
 |inl q=>exact q
 |inr q=>rw[g.new k q]at e;cases e
end
section
variable{h:Heap}{a:Nat}
noncomputable def mq:List Nat:=[12,16,25,34,43,52,63,69,76,84,92,99,106,114,121,129,154,200,207,212,219,224,231,238,243]
inductive H7(P:ae)(h:Heap):Prop
 |mk (f:Nat->Obj) (kt tk:Nat) (es:Array bz) (ep:Nat) (a:EA (es:Array bz).toList mh) (b:f 0=dO es ep) (c:∀b o',mq.contains b=false->(fw P f kt tk).get? b=some o'->h.get? b=some o'):H7 P h
structure aF(G:Gv)(n:Nat):Prop where
 room:G.A.depth+n<b9
 hh:G.A.handled=none
 pg:G.prog=pw
 un:G.A.units+10*n<9000
 heap:H7 G.w.params G.h₀
theorem aF.ext{G n}(B:aF G n)(k:∀b o,G.h₀.get? b=some o->h.get? b=some o):aF (Mine.ext G h) n:=by
 obtain⟨f,kt,tk,es,ep,a,b,c⟩:=B.heap;exact⟨B.room,B.hh,B.pg,B.un,f,kt,tk,es,ep,a,b,λq o' n e=>k _ _ (c q o' n e)⟩
theorem aF.le{G n m}(B:aF G n)(h:dv m n=true):aF G m:=⟨by have:=B.room;have:=a_ h;lia,B.hh,B.pg,by have:=B.un;have:=a_ h;lia,B.heap⟩
theorem aF.deep{G n env}(B:aF G (n+1)):aF (Mine.deep G env) n:=⟨by have:=B.room;simp only[Mine.deep,Around.deeper];lia,B.hh,B.pg,by have:=B.un;simp only[Mine.deep,Around.deeper];lia,B.heap⟩
theorem aF.dH{G n}(B:aF G n):G.A.depth<b9:=bc (bj _ _) B.room
theorem aF.at{G n a}{o:ae->Obj}(B:aF G n)(h:∀P f kt tk,(fw P f kt tk).get? a=some (o P))(ha:mq.contains a=false:=by rfl):G.h₀.get? a=some (o G.w.params):=by
 obtain⟨f,kt,tk,es,ep,_,_,c⟩:=B.heap;exact c a _ ha (h _ _ _ _)
theorem aF.dZ{G n c q}(B:aF G n)(h:∀P f kt tk,(fw P f kt tk).CodeRec (.ref c) q)(ha:mq.contains c=false:=by rfl):G.h₀.CodeRec (.ref c) q:=by
 obtain⟨f,kt,tk,es,ep,_,_,k⟩:=B.heap;refine vN (h G.w.params f kt tk) λc' o vs t e1 g r=>?_;cases e1;exact Si c o vs t ⟨rfl,k _ _ ha g,r⟩
theorem Ns.of{h': Heap}{m}(x:h.Ns a m)(k:∀o,h.get? a=some o->h'.get? a=some o):h'.Ns a m:=by
 obtain⟨o,es,ep,e,r⟩:=x;exact⟨o,es,ep,k o e,r⟩
theorem aF.ns{G n a x v}(B:aF G n)(h:∀P f kt tk,(fw P f kt tk).isNs a=true)(hv:∀P f kt tk,(fw P f kt tk).nsMap a x=v)(ha:mq.contains a=false:=by rfl):∃m,G.h₀.Ns a m/\m x=v:=by
 obtain⟨f,kt,tk,es,ep,_,_,c⟩:=B.heap;exact⟨_,Ns.of (gA (h G.w.params f kt tk)) λo=>c _ o ha,hv _ _ _ _⟩
theorem PM(P:ae)(f:Nat->Obj)(kt tk:Nat):(fw P f kt tk).NoLimit:=Heap.NoLimit.of_ok (by kernel_rfl)
theorem LJ(P:ae)(f:Nat->Obj)(kt tk:Nat):(fw P f kt tk).isNs 0=true:=by kernel_rfl
theorem aF.dG{G n}(B:aF G n):G.h₀.NoLimit:=by
 obtain⟨f,kt,tk,es,ep,_,_,c⟩:=B.heap;exact Heap.NoLimit.at (PM G.w.params f kt tk) λo e=>c _ o (by rfl) e
theorem aF.glob{G n x v}(B:aF G n)(h3:∀P f kt tk,(fw P f kt tk).nsMap 3 x=some v):Glob G x v:=by
 obtain⟨m,h,e⟩:=B.ns tR h3;exact .inl ⟨m,h,e⟩
theorem aF.blt{G n x v}(B:aF G n)(h3:∀P f kt tk,(fw P f kt tk).nsMap 3 x=none)(h0:∀P f kt tk,(fw P f kt tk).nsMap 0 x=some v):Glob G x v:=by
 obtain⟨f,kt,tk,es,ep,_,_,c⟩:=B.heap;exact .inr ⟨_,_,Ns.of (gA (tR G.w.params f kt tk)) λo=>c _ o (by rfl),h3 _ _ _ _,Ns.of (gA (LJ G.w.params f kt tk)) λo=>c _ o (by rfl),h0 _ _ _ _⟩
theorem aF.defAt{G n a fd}{o:ae->Obj}(B:aF G n)(h:∀P f kt tk,(fw P f kt tk).get? a=some (o P))(hd:∀P,(o P).data=.func fd)(ha:mq.contains a=false:=by rfl):f9 G a fd:=⟨_,B.at h ha,hd _⟩
theorem zc{K: Frag}{o: Obj}(e:K.lookup a=some o):a∈K.map (·.1):=by
 induction K with
 |nil=>cases e
 |cons p K ih =>
  simp only[kA]at e
  split at e
  ·rename_i h
   rw[beq_iff_eq.mp h];simp
  ·exact .tail _ (ih e)
theorem aF.Wa{G n}{K:ae->Frag}(B:aF G n)(as:List Nat)(h:∀P f kt tk,(K P).In (fw P f kt tk))(hk:∀P,(K P).map (·.1)=as)(hd:(as.all λa=>!mq.contains a)=true):(K G.w.params).In G.h₀:=by
 obtain⟨f,kt,tk,es,ep,_,_,c⟩:=B.heap;intro a o ha;refine c a o ?_ (h _ _ _ _ a o ha);have:=List.all_eq_true.mp hd a (hk G.w.params▸zc ha)
 rwa [jD]at this
noncomputable abbrev fdOf(k:Nat)(name:Str)(d kd m c:af):cm:=
 {name:=name,qualname:=name,params:=fA (st k),body:=.stmts (fB (st k)),scope:=fS (st k),globals:=3,closure:=[],defaults:=d,kwdefaults:=kd,doc:=N,pyModule:=m,annotations:=none,code:=c,closureTuple:=N,builtins:=0}
end
section
noncomputable def KS(P:ae):Frag:=[(22,JK P),(23,JJ P),(31,JH P),(32,JG P),(40,JE P),(41,JD P),(49,JB P),(50,JA P)]
theorem aF.KS{G n}(B:aF G n):(KS G.w.params).In G.h₀:=B.Wa [22,23,31,32,40,41,49,50] (λP f kt tk=>Frag.in_of (as:=[22,23,31,32,40,41,49,50]) rfl (by kernel_rfl)) (λP=>rfl) (by kernel_rfl)
theorem ey{G n}(B:aF G n):Glob G (So "len") (.builtin "len"):=B.blt (λzz zz zz zz=>by kernel_rfl) (λzz zz zz zz=>by kernel_rfl)
theorem bH.to{G f a b σ σ1}{t u:Bool}(h:bH G f a b σ (.bool t) σ1)(e:t=u):bH G f a b σ (.bool u) σ1:=e▸h
theorem je{K:Frag}{G:Gv}{α σ s}(X:K.In G.h₀)(g:GS G α σ s):K.In s.heap:=λb o e=>(g.base b o (X b o e)).2
noncomputable abbrev zK:cm:=fdOf 2 (Sx [105,110,115,111,114,116,95,114,105,103,104,116]) (R 22) (R 23) (.str (Sx [99,112,121,51,49,51,46,98,105,115,101,99,116]) 194) (R 29)
theorem xP(P:ae):(Fd P).data=.func zK:=by kernel_rfl
theorem x9(P:ae)(f:Nat->Obj)(kt tk:Nat):(fw P f kt tk).get? 30=some (Fd P):=by kernel_rfl
theorem vj(P:ae)(f:Nat->Obj)(kt tk:Nat):(fw P f kt tk).CodeRec (R 29) (Sx [105,110,115,111,114,116,95,114,105,103,104,116]):=dA (o:=JI P) (by kernel_rfl) rfl rfl
theorem OG:iW zK (fB (st 2)) []:=⟨rfl,rfl,λL=>by kernel_rfl,rfl,rfl,by kernel_rfl,by kernel_rfl,by kernel_rfl⟩
theorem abc{P s}(X:(KS P).In s.heap)(a x:af):bW s zK ⟨[a,x],[]⟩ [(So "a",a),(So "x",x),(So "lo",.int 0 196),(So "hi",.none),(So "key",.none)]:=cj X λS=>by kernel_rfl
theorem Q3{P s}(X:(KS P).In s.heap)(a x l h:af):bW s zK ⟨[a,x,l,h],[]⟩ [(So "a",a),(So "x",x),(So "lo",l),(So "hi",h),(So "key",.none)]:=cj X λS=>by kernel_rfl
theorem Q2{P s}(X:(KS P).In s.heap)(a x k:af):bW s zK ⟨[a,x],[(So "key",k)]⟩ [(So "a",a),(So "x",x),(So "lo",.int 0 196),(So "hi",.none),(So "key",k)]:=cj X λS=>by kernel_rfl
noncomputable abbrev zH:cm:=fdOf 3 (Sx [98,105,115,101,99,116,95,114,105,103,104,116]) (R 31) (R 32) (.str (Sx [99,112,121,51,49,51,46,98,105,115,101,99,116]) 194) (R 38)
theorem qT(P:ae):(Fc P).data=.func zH:=by kernel_rfl
theorem qU(P:ae)(f:Nat->Obj)(kt tk:Nat):(fw P f kt tk).get? 39=some (Fc P):=by kernel_rfl
theorem sx(P:ae)(f:Nat->Obj)(kt tk:Nat):(fw P f kt tk).CodeRec (R 38) (Sx [98,105,115,101,99,116,95,114,105,103,104,116]):=dA (o:=JF P) (by kernel_rfl) rfl rfl
theorem OF:iW zH (fB (st 3)) []:=⟨rfl,rfl,λL=>by kernel_rfl,rfl,rfl,by kernel_rfl,by kernel_rfl,by kernel_rfl⟩
theorem HX{P s}(X:(KS P).In s.heap)(a x l h:af):bW s zH ⟨[a,x,l,h],[]⟩ [(So "a",a),(So "x",x),(So "lo",l),(So "hi",h),(So "key",.none)]:=cj X λS=>by kernel_rfl
theorem Q0{P s}(X:(KS P).In s.heap)(a x k:af):bW s zH ⟨[a,x],[(So "key",k)]⟩ [(So "a",a),(So "x",x),(So "lo",.int 0 209),(So "hi",.none),(So "key",k)]:=cj X λS=>by kernel_rfl
theorem KY{P s}(X:(KS P).In s.heap)(a x l h k:af):bW s zH ⟨[a,x,l,h],[(So "key",k)]⟩ [(So "a",a),(So "x",x),(So "lo",l),(So "hi",h),(So "key",k)]:=cj X λS=>by kernel_rfl
noncomputable abbrev Yf(n:Nat):Env:=entryE zH [] n 39
theorem QR(n:Nat):BE (Yf n):=⟨by kernel_rfl,by kernel_rfl,by kernel_rfl,by kernel_rfl,by kernel_rfl,by kernel_rfl,by kernel_rfl,rfl,rfl⟩
noncomputable abbrev zG:cm:=fdOf 4 (Sx [105,110,115,111,114,116,95,108,101,102,116]) (R 40) (R 41) (.str (Sx [99,112,121,51,49,51,46,98,105,115,101,99,116]) 194) (R 47)
theorem xO(P:ae):(Fb P).data=.func zG:=by kernel_rfl
theorem x8(P:ae)(f:Nat->Obj)(kt tk:Nat):(fw P f kt tk).get? 48=some (Fb P):=by kernel_rfl
theorem vi(P:ae)(f:Nat->Obj)(kt tk:Nat):(fw P f kt tk).CodeRec (R 47) (Sx [105,110,115,111,114,116,95,108,101,102,116]):=dA (o:=JC P) (by kernel_rfl) rfl rfl
theorem OE:iW zG (fB (st 4)) []:=⟨rfl,rfl,λL=>by kernel_rfl,rfl,rfl,by kernel_rfl,by kernel_rfl,by kernel_rfl⟩
theorem abb{P s}(X:(KS P).In s.heap)(a x:af):bW s zG ⟨[a,x],[]⟩ [(So "a",a),(So "x",x),(So "lo",.int 0 223),(So "hi",.none),(So "key",.none)]:=cj X λS=>by kernel_rfl
theorem QY{P s}(X:(KS P).In s.heap)(a x l h:af):bW s zG ⟨[a,x,l,h],[]⟩ [(So "a",a),(So "x",x),(So "lo",l),(So "hi",h),(So "key",.none)]:=cj X λS=>by kernel_rfl
theorem QX{P s}(X:(KS P).In s.heap)(a x k:af):bW s zG ⟨[a,x],[(So "key",k)]⟩ [(So "a",a),(So "x",x),(So "lo",.int 0 223),(So "hi",.none),(So "key",k)]:=cj X λS=>by kernel_rfl
noncomputable abbrev xF:cm:=fdOf 5 (Sx [98,105,115,101,99,116,95,108,101,102,116]) (R 49) (R 50) (.str (Sx [99,112,121,51,49,51,46,98,105,115,101,99,116]) 194) (R 56)
theorem pv(P:ae):(E_ P).data=.func xF:=by kernel_rfl
theorem pG(P:ae)(f:Nat->Obj)(kt tk:Nat):(fw P f kt tk).get? 57=some (E_ P):=by kernel_rfl
theorem qn(P:ae)(f:Nat->Obj)(kt tk:Nat):(fw P f kt tk).CodeRec (R 56) (Sx [98,105,115,101,99,116,95,108,101,102,116]):=dA (o:=Jz P) (by kernel_rfl) rfl rfl
theorem Ju:iW xF (fB (st 5)) []:=⟨rfl,rfl,λL=>by kernel_rfl,rfl,rfl,by kernel_rfl,by kernel_rfl,by kernel_rfl⟩
theorem aba{P s}(X:(KS P).In s.heap)(a x:af):bW s xF ⟨[a,x],[]⟩ [(So "a",a),(So "x",x),(So "lo",.int 0 236),(So "hi",.none),(So "key",.none)]:=cj X λS=>by kernel_rfl
theorem HW{P s}(X:(KS P).In s.heap)(a x l h:af):bW s xF ⟨[a,x,l,h],[]⟩ [(So "a",a),(So "x",x),(So "lo",l),(So "hi",h),(So "key",.none)]:=cj X λS=>by kernel_rfl
theorem QV{P s}(X:(KS P).In s.heap)(a x k:af):bW s xF ⟨[a,x],[(So "key",k)]⟩ [(So "a",a),(So "x",x),(So "lo",.int 0 236),(So "hi",.none),(So "key",k)]:=cj X λS=>by kernel_rfl
theorem KX{P s}(X:(KS P).In s.heap)(a x l h k:af):bW s xF ⟨[a,x,l,h],[(So "key",k)]⟩ [(So "a",a),(So "x",x),(So "lo",l),(So "hi",h),(So "key",k)]:=cj X λS=>by kernel_rfl
noncomputable abbrev Yd(n:Nat):Env:=entryE xF [] n 57
theorem QQ(n:Nat):BE (Yd n):=⟨by kernel_rfl,by kernel_rfl,by kernel_rfl,by kernel_rfl,by kernel_rfl,by kernel_rfl,by kernel_rfl,rfl,rfl⟩
variable{G:Gv}{xs:List Int}{x lo r:Int}{hi:Option Int}{g:n3}{nm:Str}{row:List Int}
unseal st in
theorem Yw(B:aF G 0)(cx:xs.length<2^60)(h0:0<=lo)(lU:lo<=hi.getD xs.length)(hn:hi.getD xs.length<=xs.length)(hr:jh (λk=>decide (x<xs.getD k.toNat 0)) (hi.getD xs.length-lo).toNat lo (hi.getD xs.length)=r):
  eA G 2 (Yf 1) (fB (st 3)) (Zp xs (bF (.ref 0) (.int x) (.int lo) (mY hi) .none)) (.ret (.int r)) (Zp xs (bF (.ref 0) (.int x) (.int r) (.int r) .none)):=by
 conv in fB (st 3)=>whnf
 exact(Df.plain (QR 1) rfl rfl (ey B) cx).right (bb:=true) (aj _) h0 lU hn (λzz=>kN) hr rfl rfl
unseal st in
theorem S_(B:aF G 0)(K:iV g nm)(hc:g.clos=[(So "row",2)])(g_:row.length<2^60)(hd:∀x∈xs,0<=x/\x<row.length)(cx:xs.length<2^60)(h0:0<=lo)(lU:lo<=hi.getD xs.length)(hn:hi.getD xs.length<=xs.length)
  (hr:jh (λk=>decide (x<keyOf row (xs.getD k.toNat 0))) (hi.getD xs.length-lo).toNat lo (hi.getD xs.length)=r):
  eA G 5 (Yf 4) (fB (st 3)) (Zk g row xs (bF (.ref 0) (.int x) (.int lo) (mY hi) (.ref 1))) (.ret (.int r)) (Zk g row xs (bF (.ref 0) (.int x) (.int r) (.int r) (.ref 1))):=by
 conv in fB (st 3)=>whnf
 exact(Df.keyed K hc B.dH B.dG g_ hd (QR 4) rfl rfl (ey B) cx).right (bb:=false) (aj _) h0 lU hn (λzz=>mB rfl) hr rfl rfl
unseal st in
theorem S7(B:aF G 0)(cx:xs.length<2^60)(h0:0<=lo)(lU:lo<=hi.getD xs.length)(hn:hi.getD xs.length<=xs.length)(hr:jh (λk=>!decide (xs.getD k.toNat 0<x)) (hi.getD xs.length-lo).toNat lo (hi.getD xs.length)=r):
  eA G 2 (Yd 1) (fB (st 5)) (Zp xs (bF (.ref 0) (.int x) (.int lo) (mY hi) .none)) (.ret (.int r)) (Zp xs (bF (.ref 0) (.int x) (.int r) (.int r) .none)):=by
 conv in fB (st 5)=>whnf
 exact(Df.plain (QQ 1) rfl rfl (ey B) cx).left (bb:=true) (aj _) h0 lU hn (λzz=>kN) hr rfl
unseal st in
theorem S8(B:aF G 0)(K:iV g nm)(hc:g.clos=[(So "row",2)])(g_:row.length<2^60)(hd:∀x∈xs,0<=x/\x<row.length)(cx:xs.length<2^60)(h0:0<=lo)(lU:lo<=hi.getD xs.length)(hn:hi.getD xs.length<=xs.length)
  (hr:jh (λk=>!decide (keyOf row (xs.getD k.toNat 0)<x)) (hi.getD xs.length-lo).toNat lo (hi.getD xs.length)=r):
  eA G 5 (Yd 4) (fB (st 5)) (Zk g row xs (bF (.ref 0) (.int x) (.int lo) (mY hi) (.ref 1))) (.ret (.int r)) (Zk g row xs (bF (.ref 0) (.int x) (.int r) (.int r) (.ref 1))):=by
 conv in fB (st 5)=>whnf
 exact(Df.keyed K hc B.dH B.dG g_ hd (QQ 4) rfl rfl (ey B) cx).left (bb:=false) (aj _) h0 lU hn (λzz=>mB rfl) hr rfl
end
section
variable{G:Gv}{xs:List Int}{x lo r:Int}{hi:Option Int}{g:n3}{nm:Str}{row:List Int}
theorem Ei(B:aF G 1)(cx:xs.length<2^60)(h0:0<=lo)(lU:lo<=hi.getD xs.length)(hn:hi.getD xs.length<=xs.length)(hr:jh (λk=>decide (x<xs.getD k.toNat 0)) (hi.getD xs.length-lo).toNat lo (hi.getD xs.length)=r):
  SK G (λvs ws=>call (.ref 39) vs ([].zip ws)) [.ref 0,.int x,.int lo,mY hi] [] (sP xs) (.int r) (Zp xs (bF (.ref 0) (.int x) (.int r) (.int r) (.none))):=
 SK.fy (names:=[]) (m:=2) (f:=.ret (.int r)) (rb:=[(So "key",.none),(So "hi",mY hi),(So "lo",.int lo),(So "x",.int x),(So "a",.ref 0)]) B.dH (B.defAt qU qT) B.dG (B.dZ sx) OF (G8 λα s va vx vl vh g ra rx rl rh=>⟨_,HX (je B.KS g) va vx vl vh,rfl,.aT dw (.aT rh (.aT rl (.aT rx (.aT ra cf))))⟩) (by kernel_rfl) rfl (by kernel_rfl) λenv=>Yw B.deep cx h0 lU hn hr
theorem Ao(B:aF G 1)(K:iV g nm)(hc:g.clos=[(So "row",2)])(g_:row.length<2^60)(hd:∀x∈xs,0<=x/\x<row.length)(cx:xs.length<2^60)(h0:0<=lo)(lU:lo<=hi.getD xs.length)(hn:hi.getD xs.length<=xs.length)(hr:jh (λk=>decide (x<keyOf row (xs.getD k.toNat 0))) (hi.getD xs.length-lo).toNat lo (hi.getD xs.length)=r):
  SK G (λvs ws=>call (.ref 39) vs ([So "key"].zip ws)) [.ref 0,.int x,.int lo,mY hi] [.ref 1] (sK g row xs) (.int r) (Zk g row xs (bF (.ref 0) (.int x) (.int r) (.int r) (.ref 1))):=
 SK.fy (names:=[So "key"]) (m:=5) (f:=.ret (.int r)) (rb:=[(So "key",.ref 1),(So "hi",mY hi),(So "lo",.int lo),(So "x",.int x),(So "a",.ref 0)]) B.dH (B.defAt qU qT) B.dG (B.dZ sx) OF (VT λα s va vx vl vh vk g ra rx rl rh rk=>⟨_,KY (je B.KS g) va vx vl vh vk,rfl,.aT rk (.aT rh (.aT rl (.aT rx (.aT ra cf))))⟩) (by kernel_rfl) rfl (by kernel_rfl) λenv=>S_ B.deep K hc g_ hd cx h0 lU hn hr
theorem N2(B:aF G 1)(K:iV g nm)(hc:g.clos=[(So "row",2)])(g_:row.length<2^60)(hd:∀x∈xs,0<=x/\x<row.length)(cx:xs.length<2^60)(hr:jh (λk=>decide (x<keyOf row (xs.getD k.toNat 0))) ((xs.length:Int)-0).toNat 0 xs.length=r):
  SK G (λvs ws=>call (.ref 39) vs ([So "key"].zip ws)) [.ref 0,.int x] [.ref 1] (sK g row xs) (.int r) (Zk g row xs (bF (.ref 0) (.int x) (.int r) (.int r) (.ref 1))):=
 SK.fy (names:=[So "key"]) (m:=5) (f:=.ret (.int r)) (rb:=[(So "key",.ref 1),(So "hi",.none),(So "lo",.int 0),(So "x",.int x),(So "a",.ref 0)]) B.dH (B.defAt qU qT) B.dG (B.dZ sx) OF (Km λα s va vx vk g ra rx rk=>⟨_,Q0 (je B.KS g) va vx vk,rfl,.aT rk (.aT dw (.aT m_ (.aT rx (.aT ra cf))))⟩) (by kernel_rfl) rfl (by kernel_rfl) λenv=>S_ B.deep K hc g_ hd cx (hi:=bB) (bD 0) (aP _) (bD _) hr
theorem YZ(B:aF G 1)(cx:xs.length<2^60)(hr:jh (λk=>!decide (xs.getD k.toNat 0<x)) ((xs.length:Int)-0).toNat 0 xs.length=r):
  SK G (λvs ws=>call (.ref 57) vs ([].zip ws)) [.ref 0,.int x] [] (sP xs) (.int r) (Zp xs (bF (.ref 0) (.int x) (.int r) (.int r) (.none))):=
 SK.fy (names:=[]) (m:=2) (f:=.ret (.int r)) (rb:=[(So "key",.none),(So "hi",.none),(So "lo",.int 0),(So "x",.int x),(So "a",.ref 0)]) B.dH (B.defAt pG pv) B.dG (B.dZ qn) Ju (Kn λα s va vx g ra rx=>⟨_,aba (je B.KS g) va vx,rfl,.aT dw (.aT dw (.aT m_ (.aT rx (.aT ra cf))))⟩) (by kernel_rfl) rfl (by kernel_rfl) λenv=>S7 B.deep cx (hi:=bB) (bD 0) (aP _) (bD _) hr
theorem Eh(B:aF G 1)(cx:xs.length<2^60)(h0:0<=lo)(lU:lo<=hi.getD xs.length)(hn:hi.getD xs.length<=xs.length)(hr:jh (λk=>!decide (xs.getD k.toNat 0<x)) (hi.getD xs.length-lo).toNat lo (hi.getD xs.length)=r):
  SK G (λvs ws=>call (.ref 57) vs ([].zip ws)) [.ref 0,.int x,.int lo,mY hi] [] (sP xs) (.int r) (Zp xs (bF (.ref 0) (.int x) (.int r) (.int r) (.none))):=
 SK.fy (names:=[]) (m:=2) (f:=.ret (.int r)) (rb:=[(So "key",.none),(So "hi",mY hi),(So "lo",.int lo),(So "x",.int x),(So "a",.ref 0)]) B.dH (B.defAt pG pv) B.dG (B.dZ qn) Ju (G8 λα s va vx vl vh g ra rx rl rh=>⟨_,HW (je B.KS g) va vx vl vh,rfl,.aT dw (.aT rh (.aT rl (.aT rx (.aT ra cf))))⟩) (by kernel_rfl) rfl (by kernel_rfl) λenv=>S7 B.deep cx h0 lU hn hr
theorem An(B:aF G 1)(K:iV g nm)(hc:g.clos=[(So "row",2)])(g_:row.length<2^60)(hd:∀x∈xs,0<=x/\x<row.length)(cx:xs.length<2^60)(h0:0<=lo)(lU:lo<=hi.getD xs.length)(hn:hi.getD xs.length<=xs.length)(hr:jh (λk=>!decide (keyOf row (xs.getD k.toNat 0)<x)) (hi.getD xs.length-lo).toNat lo (hi.getD xs.length)=r):
  SK G (λvs ws=>call (.ref 57) vs ([So "key"].zip ws)) [.ref 0,.int x,.int lo,mY hi] [.ref 1] (sK g row xs) (.int r) (Zk g row xs (bF (.ref 0) (.int x) (.int r) (.int r) (.ref 1))):=
 SK.fy (names:=[So "key"]) (m:=5) (f:=.ret (.int r)) (rb:=[(So "key",.ref 1),(So "hi",mY hi),(So "lo",.int lo),(So "x",.int x),(So "a",.ref 0)]) B.dH (B.defAt pG pv) B.dG (B.dZ qn) Ju (VT λα s va vx vl vh vk g ra rx rl rh rk=>⟨_,KX (je B.KS g) va vx vl vh vk,rfl,.aT rk (.aT rh (.aT rl (.aT rx (.aT ra cf))))⟩) (by kernel_rfl) rfl (by kernel_rfl) λenv=>S8 B.deep K hc g_ hd cx h0 lU hn hr
theorem NZ(B:aF G 1)(K:iV g nm)(hc:g.clos=[(So "row",2)])(g_:row.length<2^60)(hd:∀x∈xs,0<=x/\x<row.length)(cx:xs.length<2^60)(hr:jh (λk=>!decide (keyOf row (xs.getD k.toNat 0)<x)) ((xs.length:Int)-0).toNat 0 xs.length=r):
  SK G (λvs ws=>call (.ref 57) vs ([So "key"].zip ws)) [.ref 0,.int x] [.ref 1] (sK g row xs) (.int r) (Zk g row xs (bF (.ref 0) (.int x) (.int r) (.int r) (.ref 1))):=
 SK.fy (names:=[So "key"]) (m:=5) (f:=.ret (.int r)) (rb:=[(So "key",.ref 1),(So "hi",.none),(So "lo",.int 0),(So "x",.int x),(So "a",.ref 0)]) B.dH (B.defAt pG pv) B.dG (B.dZ qn) Ju (Km λα s va vx vk g ra rx rk=>⟨_,QV (je B.KS g) va vx vk,rfl,.aT rk (.aT dw (.aT m_ (.aT rx (.aT ra cf))))⟩) (by kernel_rfl) rfl (by kernel_rfl) λenv=>S8 B.deep K hc g_ hd cx (hi:=bB) (bD 0) (aP _) (bD _) hr
end
section
variable{G:Gv}{xs:List Int}{x lo r:Int}{hi:Option Int}{g:n3}{nm:Str}{row:List Int}
noncomputable abbrev Yg(n:Nat):Env:=entryE zK [] n 30
theorem QP(n:Nat):BI (Yg n) (So "bisect_right"):=⟨by kernel_rfl,by kernel_rfl,by kernel_rfl,by kernel_rfl,by kernel_rfl,by kernel_rfl,rfl,rfl,rfl⟩
theorem zB{n}(B:aF G n):Glob G (So "bisect_right") (.ref 39):=B.glob λzz zz zz zz=>by kernel_rfl
unseal st in
theorem Ta(B:aF G 1)(cx:xs.length<2^20)(h0:0<=lo)(lU:lo<=hi.getD xs.length)(hn:hi.getD xs.length<=xs.length)(hr:jh (λk=>decide (x<xs.getD k.toNat 0)) (hi.getD xs.length-lo).toNat lo (hi.getD xs.length)=r):
  eA G 2 (Yg 1) (fB (st 2)) (Zp xs (bF (.ref 0) (.int x) (.int lo) (mY hi) .none)) .next (Zp (insI xs r x) (bF (.ref 0) (.int x) (.int r) (mY hi) .none)):=by
 conv in fB (st 2)=>whnf
 have hb:=hr▸kX (λk=>decide (x<xs.getD k.toNat 0)) (hi.getD xs.length-lo).toNat lo (hi.getD xs.length) lU;exact tT (QP 1) rfl rfl (B.defAt qU qT) (zB B) (λh k=>Ei (B.ext k) (aA cx (by decide)) h0 lU hn hr)
  (.cons (.expr (.qR fP bI rfl (.loc rfl rfl) (gR rfl) (.cons (.loc rfl rfl) (.cons (.loc rfl rfl) .nil)) (lx rfl (aQ h0 hb.1) (aQ hb.2 hn) cx))) .nil rfl)
unseal st in
theorem Yx(B:aF G 1)(K:iV g nm)(hc:g.clos=[(So "row",2)])(g_:row.length<2^60)(hd:∀x∈xs,0<=x/\x<row.length)(hx:0<=x/\x<row.length)(cx:xs.length<2^20)(h0:0<=lo)(lU:lo<=hi.getD xs.length)(hn:hi.getD xs.length<=xs.length)
  (hr:jh (λk=>decide (keyOf row x<keyOf row (xs.getD k.toNat 0))) (hi.getD xs.length-lo).toNat lo (hi.getD xs.length)=r):
  eA G 5 (Yg 4) (fB (st 2)) (Zk g row xs (bF (.ref 0) (.int x) (.int lo) (mY hi) (.ref 1))) .next (Z6 g row (insI xs r x) nm x (bF (.ref 0) (.int x) (.int r) (mY hi) (.ref 1))):=by
 conv in fB (st 2)=>whnf
 have hb:=hr▸kX (λk=>decide (keyOf row x<keyOf row (xs.getD k.toNat 0))) (hi.getD xs.length-lo).toNat lo (hi.getD xs.length) lU;exact tU K hc B.dH B.dG g_ hx (QP 4) rfl rfl (B.defAt qU qT) (zB B) (λh k=>Ao (B.ext k) K hc g_ hd (aA cx (by decide)) h0 lU hn hr)
  (.cons (.expr (.qR fP bI rfl (.loc rfl rfl) (gR rfl) (.cons (.loc rfl rfl) (.cons (.loc rfl rfl) .nil)) (lx rfl (aQ h0 hb.1) (aQ hb.2 hn) cx))) .nil rfl)
theorem Y1(B:aF G 2)(cx:xs.length<2^20)(hr:jh (λk=>decide (x<xs.getD k.toNat 0)) ((xs.length:Int)-0).toNat 0 xs.length=r):
  SK G (λvs ws=>call (.ref 30) vs ([].zip ws)) [.ref 0,.int x] [] (sP xs) .none (Zp (insI xs r x) (bF (.ref 0) (.int x) (.int r) (.none) (.none))):=
 SK.fy (names:=[]) (m:=2) (f:=.next) (rb:=[(So "key",.none),(So "hi",.none),(So "lo",.int 0),(So "x",.int x),(So "a",.ref 0)]) B.dH (B.defAt x9 xP) B.dG (B.dZ vj) OG (Kn λα s va vx g ra rx=>⟨_,abc (je B.KS g) va vx,rfl,.aT dw (.aT dw (.aT m_ (.aT rx (.aT ra cf))))⟩) (by kernel_rfl) rfl (by kernel_rfl) λenv=>Ta B.deep cx (hi:=bB) (bD 0) (aP _) (bD _) hr
theorem N4(B:aF G 2)(cx:xs.length<2^20)(h0:0<=lo)(lU:lo<=hi.getD xs.length)(hn:hi.getD xs.length<=xs.length)(hr:jh (λk=>decide (x<xs.getD k.toNat 0)) (hi.getD xs.length-lo).toNat lo (hi.getD xs.length)=r):
  SK G (λvs ws=>call (.ref 30) vs ([].zip ws)) [.ref 0,.int x,.int lo,mY hi] [] (sP xs) .none (Zp (insI xs r x) (bF (.ref 0) (.int x) (.int r) (mY hi) (.none))):=
 SK.fy (names:=[]) (m:=2) (f:=.next) (rb:=[(So "key",.none),(So "hi",mY hi),(So "lo",.int lo),(So "x",.int x),(So "a",.ref 0)]) B.dH (B.defAt x9 xP) B.dG (B.dZ vj) OG (G8 λα s va vx vl vh g ra rx rl rh=>⟨_,Q3 (je B.KS g) va vx vl vh,rfl,.aT dw (.aT rh (.aT rl (.aT rx (.aT ra cf))))⟩) (by kernel_rfl) rfl (by kernel_rfl) λenv=>Ta B.deep cx h0 lU hn hr
theorem N3(B:aF G 2)(K:iV g nm)(hc:g.clos=[(So "row",2)])(g_:row.length<2^60)(hd:∀x∈xs,0<=x/\x<row.length)(hx:0<=x/\x<row.length)(cx:xs.length<2^20)(hr:jh (λk=>decide (keyOf row x<keyOf row (xs.getD k.toNat 0))) ((xs.length:Int)-0).toNat 0 xs.length=r):
  SK G (λvs ws=>call (.ref 30) vs ([So "key"].zip ws)) [.ref 0,.int x] [.ref 1] (sK g row xs) .none (Z6 g row (insI xs r x) nm x (bF (.ref 0) (.int x) (.int r) (.none) (.ref 1))):=
 SK.fy (names:=[So "key"]) (m:=5) (f:=.next) (rb:=[(So "key",.ref 1),(So "hi",.none),(So "lo",.int 0),(So "x",.int x),(So "a",.ref 0)]) B.dH (B.defAt x9 xP) B.dG (B.dZ vj) OG (Km λα s va vx vk g ra rx rk=>⟨_,Q2 (je B.KS g) va vx vk,rfl,.aT rk (.aT dw (.aT m_ (.aT rx (.aT ra cf))))⟩) (by kernel_rfl) rfl (by kernel_rfl) λenv=>Yx B.deep K hc g_ hd hx cx (hi:=bB) (bD 0) (aP _) (bD _) hr
noncomputable abbrev Ye(n:Nat):Env:=entryE zG [] n 48
theorem QO(n:Nat):BI (Ye n) (So "bisect_left"):=⟨by kernel_rfl,by kernel_rfl,by kernel_rfl,by kernel_rfl,by kernel_rfl,by kernel_rfl,rfl,rfl,rfl⟩
theorem xB{n}(B:aF G n):Glob G (So "bisect_left") (.ref 57):=B.glob λzz zz zz zz=>by kernel_rfl
unseal st in
theorem S9(B:aF G 1)(cx:xs.length<2^20)(h0:0<=lo)(lU:lo<=hi.getD xs.length)(hn:hi.getD xs.length<=xs.length)(hr:jh (λk=>!decide (xs.getD k.toNat 0<x)) (hi.getD xs.length-lo).toNat lo (hi.getD xs.length)=r):
  eA G 2 (Ye 1) (fB (st 4)) (Zp xs (bF (.ref 0) (.int x) (.int lo) (mY hi) .none)) .next (Zp (insI xs r x) (bF (.ref 0) (.int x) (.int r) (mY hi) .none)):=by
 conv in fB (st 4)=>whnf
 have hb:=hr▸kX (λk=>!decide (xs.getD k.toNat 0<x)) (hi.getD xs.length-lo).toNat lo (hi.getD xs.length) lU;exact tT (QO 1) rfl rfl (B.defAt pG pv) (xB B) (λh k=>Eh (B.ext k) (aA cx (by decide)) h0 lU hn hr)
  (.cons (.expr (.qR fP bI rfl (.loc rfl rfl) (gR rfl) (.cons (.loc rfl rfl) (.cons (.loc rfl rfl) .nil)) (lx rfl (aQ h0 hb.1) (aQ hb.2 hn) cx))) .nil rfl)
unseal st in
theorem Yv(B:aF G 1)(K:iV g nm)(hc:g.clos=[(So "row",2)])(g_:row.length<2^60)(hd:∀x∈xs,0<=x/\x<row.length)(hx:0<=x/\x<row.length)(cx:xs.length<2^20)(h0:0<=lo)(lU:lo<=hi.getD xs.length)(hn:hi.getD xs.length<=xs.length)
  (hr:jh (λk=>!decide (keyOf row (xs.getD k.toNat 0)<keyOf row x)) (hi.getD xs.length-lo).toNat lo (hi.getD xs.length)=r):
  eA G 5 (Ye 4) (fB (st 4)) (Zk g row xs (bF (.ref 0) (.int x) (.int lo) (mY hi) (.ref 1))) .next (Z6 g row (insI xs r x) nm x (bF (.ref 0) (.int x) (.int r) (mY hi) (.ref 1))):=by
 conv in fB (st 4)=>whnf
 have hb:=hr▸kX (λk=>!decide (keyOf row (xs.getD k.toNat 0)<keyOf row x)) (hi.getD xs.length-lo).toNat lo (hi.getD xs.length) lU;exact tU K hc B.dH B.dG g_ hx (QO 4) rfl rfl (B.defAt pG pv) (xB B) (λh k=>An (B.ext k) K hc g_ hd (aA cx (by decide)) h0 lU hn hr)
  (.cons (.expr (.qR fP bI rfl (.loc rfl rfl) (gR rfl) (.cons (.loc rfl rfl) (.cons (.loc rfl rfl) .nil)) (lx rfl (aQ h0 hb.1) (aQ hb.2 hn) cx))) .nil rfl)
theorem Y0(B:aF G 2)(cx:xs.length<2^20)(hr:jh (λk=>!decide (xs.getD k.toNat 0<x)) ((xs.length:Int)-0).toNat 0 xs.length=r):
  SK G (λvs ws=>call (.ref 48) vs ([].zip ws)) [.ref 0,.int x] [] (sP xs) .none (Zp (insI xs r x) (bF (.ref 0) (.int x) (.int r) (.none) (.none))):=
 SK.fy (names:=[]) (m:=2) (f:=.next) (rb:=[(So "key",.none),(So "hi",.none),(So "lo",.int 0),(So "x",.int x),(So "a",.ref 0)]) B.dH (B.defAt x8 xO) B.dG (B.dZ vi) OE (Kn λα s va vx g ra rx=>⟨_,abb (je B.KS g) va vx,rfl,.aT dw (.aT dw (.aT m_ (.aT rx (.aT ra cf))))⟩) (by kernel_rfl) rfl (by kernel_rfl) λenv=>S9 B.deep cx (hi:=bB) (bD 0) (aP _) (bD _) hr
theorem N1(B:aF G 2)(cx:xs.length<2^20)(h0:0<=lo)(lU:lo<=hi.getD xs.length)(hn:hi.getD xs.length<=xs.length)(hr:jh (λk=>!decide (xs.getD k.toNat 0<x)) (hi.getD xs.length-lo).toNat lo (hi.getD xs.length)=r):
  SK G (λvs ws=>call (.ref 48) vs ([].zip ws)) [.ref 0,.int x,.int lo,mY hi] [] (sP xs) .none (Zp (insI xs r x) (bF (.ref 0) (.int x) (.int r) (mY hi) (.none))):=
 SK.fy (names:=[]) (m:=2) (f:=.next) (rb:=[(So "key",.none),(So "hi",mY hi),(So "lo",.int lo),(So "x",.int x),(So "a",.ref 0)]) B.dH (B.defAt x8 xO) B.dG (B.dZ vi) OE (G8 λα s va vx vl vh g ra rx rl rh=>⟨_,QY (je B.KS g) va vx vl vh,rfl,.aT dw (.aT rh (.aT rl (.aT rx (.aT ra cf))))⟩) (by kernel_rfl) rfl (by kernel_rfl) λenv=>S9 B.deep cx h0 lU hn hr
theorem N0(B:aF G 2)(K:iV g nm)(hc:g.clos=[(So "row",2)])(g_:row.length<2^60)(hd:∀x∈xs,0<=x/\x<row.length)(hx:0<=x/\x<row.length)(cx:xs.length<2^20)(hr:jh (λk=>!decide (keyOf row (xs.getD k.toNat 0)<keyOf row x)) ((xs.length:Int)-0).toNat 0 xs.length=r):
  SK G (λvs ws=>call (.ref 48) vs ([So "key"].zip ws)) [.ref 0,.int x] [.ref 1] (sK g row xs) .none (Z6 g row (insI xs r x) nm x (bF (.ref 0) (.int x) (.int r) (.none) (.ref 1))):=
 SK.fy (names:=[So "key"]) (m:=5) (f:=.next) (rb:=[(So "key",.ref 1),(So "hi",.none),(So "lo",.int 0),(So "x",.int x),(So "a",.ref 0)]) B.dH (B.defAt x8 xO) B.dG (B.dZ vi) OE (Km λα s va vx vk g ra rx rk=>⟨_,QX (je B.KS g) va vx vk,rfl,.aT rk (.aT dw (.aT m_ (.aT rx (.aT ra cf))))⟩) (by kernel_rfl) rfl (by kernel_rfl) λenv=>Yv B.deep K hc g_ hd hx cx (hi:=bB) (bD 0) (aP _) (bD _) hr
end
section
noncomputable def e_(row:List Int)(ck:Int):Int:=jh (λk=>!decide (row.getD k.toNat 0<ck)) ((row.length:Int)-0).toNat 0 row.length
noncomputable def hU(n:Nat)(turn:Int)(row:List Int)(d:Int):Int:=
 if turn>0 then jh (λk=>decide (d<keyOf row ((bh n).getD k.toNat 0))) (((bh n).length:Int)-0).toNat 0 (bh n).length-1
 else jh (λk=>!decide (keyOf row ((bh n).getD k.toNat 0)<d)) (((bh n).length:Int)-0).toNat 0 (bh n).length
noncomputable def xo(turn:Int)(row:List Int)(box:Int):List Int:=
 if turn.fmod 2 != 0 then insI row (jh (λk=>!decide (row.getD k.toNat 0<box)) ((row.length:Int)-0).toNat 0 row.length) box
 else insI row (jh (λk=>decide (box<row.getD k.toNat 0)) ((row.length:Int)-0).toNat 0 row.length) box
noncomputable def hJ(n:Nat)(turn:Int)(row:List Int)(ck:Int):Option (List Int):=
 if row.length=n/\0<=hU n turn row (ck-e_ row ck)/\hU n turn row (ck-e_ row ck)<n then
  some (xo turn (row.take (e_ row ck).toNat++row.drop (e_ row ck+1).toNat)
   (if turn>0 then row.getD (hU n turn row (ck-e_ row ck)).toNat 0+1 else row.getD (hU n turn row (ck-e_ row ck)).toNat 0-1))
 else none
noncomputable def iJ(turn:Int)(row:List Int):Option (List Int):=(if turn>0 then row else row.reverse).foldlM (hJ row.length turn) row
theorem at4(P:ae)(f:Nat->Obj)(kt tk:Nat):(fw P f kt tk).get? 4=some (boot_o_4 P):=by kernel_rfl
theorem Xd(P:ae)(f:Nat->Obj)(kt tk:Nat):(fw P f kt tk).nsMap 3 (So "__builtins__")=some (.ref 4):=by kernel_rfl
theorem aF.mods{G n}(B:aF G n)(P:Nat)(hP:4≠P):∃mg,G.h₀.Ns fG mg/\G.h₀.BuiltinsAt mg P:=by
 obtain⟨f,kt,tk,es,ep,_,_,c⟩:=B.heap;exact⟨(fw G.w.params f kt tk).nsMap 3,Ns.of (gA (tR _ _ _ _)) λo=>c _ o (by rfl),4,boot_o_4 G.w.params,Xd _ _ _ _,by decide,by decide,hP,c _ _ (by rfl) (at4 _ _ _ _),rfl,rfl,rfl⟩
theorem sN(P:ae)(f:Nat->Obj)(kt tk:Nat):(fw P f kt tk).get? 229=some (Fj P kt tk):=by kernel_rfl
theorem Xp(P:ae)(f:Nat->Obj)(kt tk:Nat):(fw P f kt tk).get? 228=some (Fl P kt tk):=by kernel_rfl
noncomputable abbrev mR(tk:Nat):cm:=fdOf 18 (Sx [95,108,97,119,95,109,111,118,101,100]) N N (.str (Sx [108,97,119,95,119,99,48,48,50,49,95,48,51]) (tk+8)) (R 228)
theorem Wo(P:ae)(kt tk:Nat):(Fj P kt tk).data=.func (mR tk):=by kernel_rfl
def ku(G:Gv)(a c P:Nat)(fd:cm):Prop:=f9 G a fd/\G.h₀.CodeRec (R c) fd.qualname/\CodeHd G.h₀ c P
theorem aF.sN{G n}(B:aF G n):∃tk,ku G 229 228 224 (mR tk):=by
 obtain⟨f,kt,tk,es,ep,_,_,c⟩:=B.heap;have h1:=c _ _ (by rfl) (Mine.Xp G.w.params f kt tk);exact⟨tk,⟨_,c _ _ (by rfl) (Mine.sN _ _ _ _),Wo _ _ _⟩,dA h1 rfl rfl,ql h1 rfl rfl rfl rfl rfl rfl rfl rfl rfl⟩
noncomputable def qM:Nat->Nat->Str:=λzz zz=>Sx [95,108,97,119,95,109,111,118,101,100]++aE ".<locals>."++aE "<lambda>"
noncomputable abbrev eM(tk:Nat):Env:=entryE (mR tk) [(So "row",0)] 2 229
noncomputable abbrev iR:List Stmt:=fB (ai (fB (st 18)) 1)
noncomputable abbrev mF(turn:Int)(bl:Nat):List (Str×CV):=[(So "turn",.int turn),(So "balls",.ref bl),(So "spots",.ref 4)]
noncomputable abbrev ZO(turn:Int)(bl:Nat)(ck:Int):List (Str×CV):=mF turn bl++[(So "ball",.int ck)]
noncomputable abbrev XM(turn:Int)(bl:Nat)(ck place:Int):List (Str×CV):=mF turn bl++[(So "ball",.int ck),(So "place",.int place)]
noncomputable abbrev GB(turn:Int)(bl:Nat)(ck place box:Int):List (Str×CV):=mF turn bl++[(So "ball",.int ck),(So "place",.int place),(So "box",.int box)]
variable{G:Gv}{m tk a bl n:Nat}{cur:List Int}{turn ck place box:Int}{Z:List (Str×CV)->St}
unseal st in
theorem Am(B:aF G 1)(z:vG (eM tk) Z)(g_:∀fr,(Z fr).get 3=some (.cell (some (.ref a))))(Kk:∀fr,(Z fr).get a=some (.list (cur.map .int)))(hl:cur.length<2^60):
  SS G m (eM tk) (ai iR 0) (Z (ZO turn bl ck)) .next (Z (XM turn bl ck (e_ cur ck))):=by
 conv in ai iR 0=>whnf
 exact z.put (.gy (B.defAt pG pv) (.glob (xB B)) (.cons (.cell rfl (g_ _)) (.cons (z.loc rfl) .nil))
  (SK.og (g:=λvs=>call (.ref 57) vs) (SK.GC (Kk _) (λh k=>YZ (B.ext k) hl rfl) rfl (λzz=>rfl) λzz=>rfl))) (by kernel_rfl) rfl
end
section
variable{G:Gv}{m tk a bl n:Nat}{cur:List Int}{turn ck place box:Int}{Z:List (Str×CV)->St}{ao:AO}{i k:Nat}{row:List Int}
structure Iq(e:Env)(Z:List (Str×CV)->St)(a n:Nat)(cur:List Int):Prop where
 z:vG e Z
 row:∀fr,(Z fr).get 3=some (.cell (some (.ref a)))
 lst:∀fr,(Z fr).get a=some (.list (cur.map .int))
 sp:∀fr,(Z fr).get 4=some (.list ((bh n).map .int))
 ne:aU 4 a=false
 fit:cur.length<2^20
 len:cur.length=n
theorem jc{σ: St}{o: AO}:(σ.push o).get σ.n=some o:=by
 show cL ((σ.n,o)::σ.objs) σ.n=_;rw[cL,bL]
theorem JY(h:k<2^20):k<2^60:=aA h (by decide)
theorem LA{ns: List Int}(h:ns.length<2^20):(ns.map CV.int).length<2^62:=by rw[aj];exact aA h (by decide)
theorem nQ(h:n<2^20):(bh n).length<2^60:=by rw[gO];exact aA h (by decide)
unseal st in
theorem NV(B:aF G 2)(A9:ku G 229 228 224 (mR tk))(Y:Iq (eM tk) Z a n cur)(hb:EB m (eM tk)=true)(Cx:∀fr,(Z fr).get 1=some (.tab 224 qM))(YP:∀g,Iq (eM tk) (λfr=>(Z fr).push (.fn g)) a n cur)
  (ht:turn>0) (h0:0<=hU n turn cur (ck-place)) (h1:hU n turn cur (ck-place)<n):
  ∃g,SS G m (eM tk) (ai iR 1) (Z (XM turn bl ck place)) .next ((Z (GB turn bl ck place (cur.getD (hU n turn cur (ck-place)).toNat 0+1))).push (.fn g)):=by
 conv in ai iR 1=>whnf
 refine aH (B.mods 224 (by decide)) λmg Ij uT=>?_;have z:=Y.z;have hl:n<2^20:=Y.len▸Y.fit;have zr:hU n turn cur (ck-place)=jh (λk=>decide (ck-place<keyOf cur ((bh n).getD k.toNat 0))) (((bh n).length:Int)-0).toNat 0 (bh n).length-1:=if_pos ht;refine⟨_,SS.jK (b:=true) (.cmp (z.loc rfl) .int (rS.to (decide_eq_true ht))) (.cons (vG.put (Z:=λfr=>(Z fr).push (.fn _)) (YP _).z (.bin (.sub (.cell rfl (Y.row _)) (.bin (.qq (names:=[So "key"]) (B.defAt qU qT) (.glob (zB B))
  (.cons (z.loc rfl) (.cons (.bin (z.loc rfl) (z.loc rfl) lH) .nil))
  (.cons (.rY (c:=228) (P:=224) (clos:=[(So "row",3)]) rfl rfl Ij rfl A9.2.2 uT (Cx _) rfl) .nil)
  (SK.AR ((YP _).sp _) jc rfl ((YP _).row _) ((YP _).lst _) (λq=>by have:=Y.ne;rw[q,bL]at this;cases this)
   (λh k=>N2 (nm:=So "k") (B.le (m:=1) (by rfl) |>.ext k) ⟨⟨_,_,_,_,_,rfl⟩,λzz zz zz zz zz=>rfl,⟨rfl,rfl⟩,rfl,rfl,rfl,rfl,rfl⟩ rfl (JY Y.fit) (λx hx=>Y.len.symm▸kL hx) (nQ hl) rfl) rfl rfl rfl rfl (λzz=>rfl) λzz=>rfl)) .int lH)
  (ix ((YP _).lst _) (zr▸h0) (kQ (zr▸h0) (zr▸Y.len.symm▸h1)) (LA Y.fit))) .int cE) (by kernel_rfl) (by rw[zr];rfl)) .nil hb)⟩
unseal st in
theorem NW(B:aF G 2)(A9:ku G 229 228 224 (mR tk))(Y:Iq (eM tk) Z a n cur)(hb:EB m (eM tk)=true)(Cx:∀fr,(Z fr).get 1=some (.tab 224 qM))(YP:∀g,Iq (eM tk) (λfr=>(Z fr).push (.fn g)) a n cur)
  (ht:¬turn>0) (h0:0<=hU n turn cur (ck-place)) (h1:hU n turn cur (ck-place)<n):
  ∃g,SS G m (eM tk) (ai iR 1) (Z (XM turn bl ck place)) .next ((Z (GB turn bl ck place (cur.getD (hU n turn cur (ck-place)).toNat 0-1))).push (.fn g)):=by
 conv in ai iR 1=>whnf
 refine aH (B.mods 224 (by decide)) λmg Ij uT=>?_;have z:=Y.z;have hl:n<2^20:=Y.len▸Y.fit;have zr:hU n turn cur (ck-place)=jh (λk=>!decide (keyOf cur ((bh n).getD k.toNat 0)<ck-place)) (((bh n).length:Int)-0).toNat 0 (bh n).length:=if_neg ht;refine⟨_,SS.jK (b:=false) (.cmp (z.loc rfl) .int (rS.to (decide_eq_false ht))) (.cons (vG.put (Z:=λfr=>(Z fr).push (.fn _)) (YP _).z (.bin (.sub (.cell rfl (Y.row _)) (.qq (names:=[So "key"]) (B.defAt pG pv) (.glob (xB B))
  (.cons (z.loc rfl) (.cons (.bin (z.loc rfl) (z.loc rfl) lH) .nil))
  (.cons (.rY (c:=228) (P:=224) (clos:=[(So "row",3)]) rfl rfl Ij rfl A9.2.2 uT (Cx _) rfl) .nil)
  (SK.AR ((YP _).sp _) jc rfl ((YP _).row _) ((YP _).lst _) (λq=>by have:=Y.ne;rw[q,bL]at this;cases this)
   (λh k=>NZ (nm:=So "k") (B.le (m:=1) (by rfl) |>.ext k) ⟨⟨_,_,_,_,_,rfl⟩,λzz zz zz zz zz=>rfl,⟨rfl,rfl⟩,rfl,rfl,rfl,rfl,rfl⟩ rfl (JY Y.fit) (λx hx=>Y.len.symm▸kL hx) (nQ hl) rfl) rfl rfl rfl rfl (λzz=>rfl) λzz=>rfl))
  (ix ((YP _).lst _) (zr▸h0) (kQ (zr▸h0) (zr▸Y.len.symm▸h1)) (LA Y.fit))) .int lH) (by kernel_rfl) (by rw[zr];rfl)) .nil hb)⟩
theorem nv{d: Nat}{l: List (Nat×Nat)}(h:a9 k m=true):pX m d l k=k:=by unfold pX;rw[h]
theorem uJ{r:Nat->Nat}{l: Nat}(h:r l=l):jt r (.i6 l i) (.i6 l i):=(congrArg (AO.i6 · i) h).symm
theorem uX{r:Nat->Nat}{x: Str}{fr: List (Str×CV)}(h:r k=k)(e:fr.lookup x=some (.ref k)):fr.lookup x=some (l_ r (.ref k)):=e.trans (congrArg (λk=>some (CV.ref k)) h.symm)
noncomputable abbrev mU(row cur:List Int)(bl i n:Nat)(ao:AO)(fr:List (Str×CV)):St:=⟨[(7,.list (cur.map .int)),(6,.i6 bl i),(3,.cell (some (.ref 7))),(2,.frame fr),(5,ao),(4,.list ((bh n).map .int)),(1,.tab 224 qM),(0,.list (row.map .int))],8⟩
noncomputable abbrev RJ(row:List Int)(bl i n:Nat)(ao:AO)(fr:List (Str×CV)):St:=⟨[(6,.i6 bl i),(3,.cell (some (.ref 0))),(2,.frame fr),(5,ao),(4,.list ((bh n).map .int)),(1,.tab 224 qM),(0,.list (row.map .int))],7⟩
unseal st in
theorem Lj(B:aF G 2)(hl:cur.length<2^20):SS G m (eM tk) (ai iR 3) (mU row cur bl i n ao (GB turn bl ck place box)) .next (mU row (xo turn cur box) bl i n ao (GB turn bl ck place box)):=by
 conv in ai iR 3=>whnf
 by_cases hp:(turn.fmod 2 != 0)=true
 ·have e:xo turn cur box=_:=if_pos hp
  rw[e];exact .jK (b:=false) (.cmp (.jK (b:=true) (.plain (.bin (.loc rfl rfl) .int (gq (by decide))) (hp▸Tx)) (.gy (B.defAt x8 xO) (.glob (B.glob λzz zz zz zz=>by kernel_rfl)) (.cons (.cell rfl rfl) (.cons (.loc rfl rfl) .nil))
   (SK.og (g:=λvs=>call (.ref 48) vs) (SK.wu rfl (λh k=>Y0 (B.ext k) hl rfl) rfl (λzz=>rfl) λzz=>rfl)))) .none lJ) .nil
 ·have e:xo turn cur box=_:=if_neg hp
  rw[e];exact .jK (b:=false) (.cmp (.jK (b:=false) (.plain (.bin (.loc rfl rfl) .int (gq (by decide))) (Bool.eq_false_iff.mpr hp▸Tx)) (.gy (B.defAt x9 xP) (.glob (B.glob λzz zz zz zz=>by kernel_rfl)) (.cons (.cell rfl rfl) (.cons (.loc rfl rfl) .nil))
   (SK.og (g:=λvs=>call (.ref 30) vs) (SK.wu rfl (λh k=>Y1 (B.ext k) hl rfl) rfl (λzz=>rfl) λzz=>rfl)))) .none lJ) .nil
def Keeps(ao:AO):Prop:=∀r,jt r ao ao
theorem tC{b: Nat}(h:cur.length<2^19):(cur.take a).length+(cur.drop b).length<=2^20:=
 ak (gu (List.length_take_le' _ _) (ak (bK j8) (Nat.sub_le _ _))) (ak (gu (bY h) (bY h)) (show 2^19+2^19<=2^20 by decide))
noncomputable abbrev Ji(cur:List Int)(place:Int):List Int:=cur.take place.toNat++cur.drop (place+1).toNat
unseal st in
theorem NT{g: n3}{i: Nat}(hk:Keeps ao)(G7:a9 bl 7=true)(h0:0<=place)(hl:row.length<2^19):
  SS G 7 (eM tk) (ai iR 2) ((RJ row bl i n ao (GB turn bl ck place box)).push (.fn g)) .next (mU row (Ji row place) bl i n ao (GB turn bl ck place box)):=by
 conv in ai iR 2=>whnf
 exact .mM (.assign (.bin (.slice (.cell rfl rfl) .no (.at (.loc rfl rfl)) .no (mw rfl h0 (aA hl (by decide)))) (.slice (.cell rfl rfl) (.at (.bin (.loc rfl rfl) .int cE)) .no .no (my rfl (aQ h0 (fW (Int.lt_succ _))) (aA hl (by decide)))) (j5 rfl rfl (tC hl))) (.cell rfl rfl))
  (fz.mk [(7,10)] rfl rfl ⟨⟨_,rfl,av⟩,⟨_,rfl,uJ (nv G7)⟩,⟨_,rfl,rfl⟩,⟨_,rfl,_,rfl,rfl,uX (nv G7) rfl,rfl,rfl,rfl,rfl,trivial⟩,⟨_,rfl,hk _⟩,⟨_,rfl,av⟩,⟨_,rfl,rfl⟩,⟨_,rfl,av⟩,trivial⟩)
unseal st in
theorem NS{row: List Int}{g: n3}{i: Nat}(hk:Keeps ao)(G7:a9 bl 7=true)(h0:0<=place)(hl:cur.length<2^19):
  SS G 7 (eM tk) (ai iR 2) ((mU row cur bl i n ao (GB turn bl ck place box)).push (.fn g)) .next (mU row (Ji cur place) bl i n ao (GB turn bl ck place box)):=by
 conv in ai iR 2=>whnf
 exact .mM (.assign (.bin (.slice (.cell rfl rfl) .no (.at (.loc rfl rfl)) .no (mw rfl h0 (aA hl (by decide)))) (.slice (.cell rfl rfl) (.at (.bin (.loc rfl rfl) .int cE)) .no .no (my rfl (aQ h0 (fW (Int.lt_succ _))) (aA hl (by decide)))) (j5 rfl rfl (tC hl))) (.cell rfl rfl))
  (fz.mk [(7,11)] rfl rfl ⟨⟨_,rfl,av⟩,⟨_,rfl,uJ (nv G7)⟩,⟨_,rfl,rfl⟩,⟨_,rfl,_,rfl,rfl,uX (nv G7) rfl,rfl,rfl,rfl,rfl,trivial⟩,⟨_,rfl,hk _⟩,⟨_,rfl,av⟩,⟨_,rfl,rfl⟩,⟨_,rfl,av⟩,trivial⟩)
end
section
variable{G:Gv}{m tk a bl n i:Nat}{row cur B_ dz out:List Int}{turn ck place box:Int}{ao:AO}{σ:St}{v:CV}{f:CF}
theorem xT:iR=[ai iR 0,ai iR 1,ai iR 2,ai iR 3]:=by kernel_rfl
theorem Io:EB 7 (eM tk)=true:=rfl
theorem mz0(hf:row.length<2^20)(hn:row.length=n):Iq (eM tk) (RJ row bl i n ao) 0 n row:=⟨⟨λzz=>rfl,λzz zz=>rfl⟩,λzz=>rfl,λzz=>rfl,λzz=>rfl,rfl,hf,hn⟩
theorem ZJ(hf:row.length<2^20)(hn:row.length=n)(g:n3):Iq (eM tk) (λfr=>(RJ row bl i n ao fr).push (.fn g)) 0 n row:=⟨⟨λzz=>rfl,λzz zz=>rfl⟩,λzz=>rfl,λzz=>rfl,λzz=>rfl,rfl,hf,hn⟩
theorem mz1(hf:cur.length<2^20)(hn:cur.length=n):Iq (eM tk) (mU row cur bl i n ao) 7 n cur:=⟨⟨λzz=>rfl,λzz zz=>rfl⟩,λzz=>rfl,λzz=>rfl,λzz=>rfl,rfl,hf,hn⟩
theorem ZI(hf:cur.length<2^20)(hn:cur.length=n)(g:n3):Iq (eM tk) (λfr=>(mU row cur bl i n ao fr).push (.fn g)) 7 n cur:=⟨⟨λzz=>rfl,λzz zz=>rfl⟩,λzz=>rfl,λzz=>rfl,λzz=>rfl,rfl,hf,hn⟩
noncomputable def CU(n:Nat)(turn:Int)(cur:List Int)(ck:Int):Int:=if turn>0 then cur.getD (hU n turn cur (ck-e_ cur ck)).toNat 0+1 else cur.getD (hU n turn cur (ck-e_ cur ck)).toNat 0-1
theorem oW(h:hJ n turn cur ck=some B_):(cur.length=n/\0<=hU n turn cur (ck-e_ cur ck)/\hU n turn cur (ck-e_ cur ck)<n)/\xo turn (Ji cur (e_ cur ck)) (CU n turn cur ck)=B_:=by
 unfold hJ at h;by_cases c:cur.length=n/\0<=hU n turn cur (ck-e_ cur ck)/\hU n turn cur (ck-e_ cur ck)<n
 ·rw[if_pos c]at h;exact⟨c,a8 h⟩
 ·rw[if_neg c]at h;cases h
theorem wo:0<=e_ cur ck:=(kX _ _ _ _ (aP _)).1
theorem we{a: Int}(h:cur.length<2^19):(Ji cur a).length<2^20:=by
 rw[aC];exact bc (gu (List.length_take_le' _ _) (ak (bK j8) (Nat.sub_le _ _))) (aA (Nat.add_lt_add h h) (show 2^19+2^19<=2^20 by decide))
theorem Ef(B:aF G 2)(A9:ku G 229 228 224 (mR tk)){Z:List (Str×CV)->St}(Y:Iq (eM tk) Z a n cur)(Cx:∀fr,(Z fr).get 1=some (.tab 224 qM))(YP:∀g,Iq (eM tk) (λfr=>(Z fr).push (.fn g)) a n cur)(h:hJ n turn cur ck=some B_):
  ∃g,SS G 7 (eM tk) (ai iR 1) (Z (XM turn bl ck (e_ cur ck))) .next ((Z (GB turn bl ck (e_ cur ck) (CU n turn cur ck))).push (.fn g)):=by
 refine gM (oW h) λrm zz=>?_;obtain⟨_,h0,h1⟩:=rm;by_cases ht:turn>0
 ·rw[show CU n turn cur ck=_ from if_pos ht];exact NV B A9 Y Io Cx YP ht h0 h1
 ·rw[show CU n turn cur ck=_ from if_neg ht];exact NW B A9 Y Io Cx YP ht h0 h1
theorem Nx(B:aF G 2)(A9:ku G 229 228 224 (mR tk))(hk:Keeps ao)(G7:a9 bl 7=true)(hl:row.length<2^19)(h:hJ n turn row ck=some B_):
  eA G 7 (eM tk) iR (RJ row bl i n ao (ZO turn bl ck)) .next (mU row B_ bl i n ao (GB turn bl ck (e_ row ck) (CU n turn row ck))):=by
 refine gM (oW h) λrm vO=>?_;obtain⟨hn,_,_⟩:=rm;obtain rfl:=vO;have f:=aA hl (show 2^19<=2^20 by decide);refine dX (Ef (bl:=bl) B A9 (mz0 (bl:=bl) (i:=i) (ao:=ao) f hn) (λzz=>rfl) (ZJ f hn) h) λg hg=>?_;rw[xT];exact .cons (Am (B.le rfl) (mz0 f hn).z (λzz=>rfl) (λzz=>rfl) (JY f)) (.cons hg (.cons (NT hk G7 wo hl) (.cons (Lj B (we hl)) .nil Io) Io) Io) Io
theorem Nw(B:aF G 2)(A9:ku G 229 228 224 (mR tk))(hk:Keeps ao)(G7:a9 bl 7=true)(hl:cur.length<2^19)(h:hJ n turn cur ck=some B_):
  eA G 7 (eM tk) iR (mU row cur bl i n ao (ZO turn bl ck)) .next (mU row B_ bl i n ao (GB turn bl ck (e_ cur ck) (CU n turn cur ck))):=by
 refine gM (oW h) λrm vO=>?_;obtain⟨hn,_,_⟩:=rm;obtain rfl:=vO;have f:=aA hl (show 2^19<=2^20 by decide);refine dX (Ef (bl:=bl) B A9 (mz1 (row:=row) (bl:=bl) (i:=i) (ao:=ao) f hn) (λzz=>rfl) (ZI f hn) h) λg hg=>?_;rw[xT];exact .cons (Am (B.le rfl) (mz1 f hn).z (λzz=>rfl) (λzz=>rfl) (JY f)) (.cons hg (.cons (NS hk G7 wo hl) (.cons (Lj B (we hl)) .nil Io) Io) Io) Io
noncomputable abbrev mP(row:List Int)(bl:Nat)(ao:AO)(turn:Int):St:=⟨[(3,.cell (some (.ref 0))),(2,.frame (mF turn bl)),(5,ao),(4,.list ((bh row.length).map .int)),(1,.tab 224 qM),(0,.list (row.map .int))],6⟩
noncomputable def CN(turn:Int)(row dz:List Int)(i:Nat):List Int:=((dz.take i).foldlM (hJ row.length turn) row).getD row
noncomputable def mS(turn:Int)(row dz:List Int)(bl:Nat)(ao:AO):Nat->St
 |0=>RJ row bl 0 row.length ao (mF turn bl)
 |i+1=>mU row (CN turn row dz (i+1)) bl (i+1) row.length ao (mF turn bl)
theorem CM(h:dz.foldlM (hJ row.length turn) row=some out)(hi:i<dz.length):hJ row.length turn (CN turn row dz i) (dz.getD i 0)=some (CN turn row dz (i+1)):=by
 have e1:dz.take (i+1)=dz.take i++[dz.getD i 0]:=by rw[List.take_add_one];simp[hi]
 have e2:dz=dz.take (i+1)++dz.drop (i+1):=(fE _ _).symm;rw[e2,lB]at h;unfold CN;cases e4:(dz.take (i+1)).foldlM (hJ row.length turn) row with
 |none=>rw[e4]at h;cases h
 |some nx =>
  rw[e1,lB]at e4;cases e5:(dz.take i).foldlM (hJ row.length turn) row with
  |none=>rw[e5]at e4;cases e4
  |some c =>
   rw[e5]at e4;simpa using e4
theorem pF(hi:i<dz.length):(dz.map CV.int)[i]?=some (.int (dz.getD i 0)):=by simp[br,hi]
unseal st in
theorem LD(B:aF G 2)(hh:G.A.handled=none)(A9:ku G 229 228 224 (mR tk))(hk:Keeps ao)(G7:a9 bl 6=true)(hl:row.length<2^19)
  (hgp:(mP row bl ao turn).get bl=some (.list (dz.map .int))) (X4:∀i fr,(RJ row bl i row.length ao fr).get bl=some (.list (dz.map .int))) (hgU:∀cur i fr,(mU row cur bl i row.length ao fr).get bl=some (.list (dz.map .int))) (hm:dz.foldlM (hJ row.length turn) row=some out):
  SS G 4 (eM tk) (ai (fB (st 18)) 1) (mP row bl ao turn) .next ((mS turn row dz bl ao dz.length).del 6):=by
 conv in ai (fB (st 18)) 1=>whnf
 have b7:a9 bl 7=true:=Nat.blt_eq.mpr (eI (Nat.blt_eq.mp G7));refine SS.for (m':=7) (it:=6) dz.length (mS turn row dz bl ao) rfl (by decide) (by decide) (.loc rfl rfl) (cM hgp) (λi hi=>?_) ?_
 ·have hs:=CM hm hi
  cases i with
  |zero=>exact⟨_,⟨_,_,_,X.names rfl (X4 _ _) (pF hi),.name (.loc rfl),Nx B A9 hk b7 hl hs⟩,fz.mk [(7,7)] rfl rfl ⟨⟨_,rfl,av⟩,⟨_,rfl,uJ (nv b7)⟩,⟨_,rfl,rfl⟩,⟨_,rfl,_,rfl,rfl,uX (nv b7) rfl,rfl,trivial⟩,⟨_,rfl,hk _⟩,⟨_,rfl,av⟩,⟨_,rfl,rfl⟩,⟨_,rfl,av⟩,trivial⟩⟩
  |succ i=>exact⟨_,⟨_,_,_,X.names rfl (hgU _ _ _) (pF hi),.name (.loc rfl),Nw B A9 hk b7 ((oW hs).1.1.symm▸hl) hs⟩,fz.mk [(7,7)] rfl rfl ⟨⟨_,rfl,av⟩,⟨_,rfl,uJ (nv b7)⟩,⟨_,rfl,rfl⟩,⟨_,rfl,_,rfl,rfl,uX (nv b7) rfl,rfl,trivial⟩,⟨_,rfl,hk _⟩,⟨_,rfl,av⟩,⟨_,rfl,rfl⟩,⟨_,rfl,av⟩,trivial⟩⟩
 ·cases hz:dz.length with
  |zero=>exact D.list hh rfl (X4 _ _) (by rw[aj];exact hz)
  |succ k=>exact D.list hh rfl (hgU _ _ _) (by rw[aj];exact hz)
theorem me{G n}(B:aF G n):Glob G (So "list") (.type "list"):=B.blt (λzz zz zz zz=>by kernel_rfl) (λzz zz zz zz=>by kernel_rfl)
theorem dC{G n}(B:aF G n):Glob G (So "range") (.type "range"):=B.blt (λzz zz zz zz=>by kernel_rfl) (λzz zz zz zz=>by kernel_rfl)
noncomputable abbrev mE(row:List Int)(turn:Int):St:=⟨[(3,.cell (some (.ref 0))),(2,.frame [(So "turn",.int turn)]),(1,.tab 224 qM),(0,.list (row.map .int))],4⟩
unseal st in
theorem NU(B:aF G 2)(hh:G.A.handled=none)(hl:row.length<2^20)(ht:turn>0):SS G 4 (eM tk) (ai (fB (st 18)) 0) (mE row turn) .next (mP row 0 (.gQ 0 row.length 1) turn):=by
 conv in ai (fB (st 18)) 0=>whnf
 exact .mM (.swap (names:=[So "spots",So "balls"]) hh (.tuple (.cons (.gi (.glob (me B)) (.cons (.gi (.glob (dC B)) (.cons (.dP (.glob (ey B)) (.cons (.cell rfl rfl) .nil) (j2 rfl hl)) .nil) mA) .nil) (list_range hh rfl hl))
  (.cons (.jK (b:=true) (.cmp (.loc rfl rfl) .int (rS.to (decide_eq_true ht))) (.cell rfl rfl)) .nil)) rfl) rfl (.bind (.loc rfl) (.bind (.loc rfl) .nil)) (hw:=λenv h=>(bE h).trans (by kernel_rfl)))
  (fz.mk [(4,5),(5,4)] rfl rfl ⟨⟨_,rfl,rfl⟩,⟨_,rfl,_,rfl,rfl,rfl,rfl,trivial⟩,⟨_,rfl,rfl⟩,⟨_,rfl,av⟩,⟨_,rfl,rfl⟩,⟨_,rfl,av⟩,trivial⟩)
unseal st in
theorem Ja(B:aF G 2)(hh:G.A.handled=none)(hl:row.length<2^20)(ht:¬turn>0):SS G 4 (eM tk) (ai (fB (st 18)) 0) (mE row turn) .next (mP row 5 (.list (row.reverse.map .int)) turn):=by
 conv in ai (fB (st 18)) 0=>whnf
 exact .mM (.swap (names:=[So "spots",So "balls"]) hh (.tuple (.cons (.gi (.glob (me B)) (.cons (.gi (.glob (dC B)) (.cons (.dP (.glob (ey B)) (.cons (.cell rfl rfl) .nil) (j2 rfl hl)) .nil) mA) .nil) (list_range hh rfl hl))
  (.cons (.jK (b:=false) (.cmp (.loc rfl rfl) .int (rS.to (decide_eq_false ht))) (.slice (.cell rfl rfl) .no .no (.at (.un .int nz)) (BN rfl hl))) .nil)) rfl) rfl (.bind (.loc rfl) (.bind (.loc rfl) .nil)) (hw:=λenv h=>(bE h).trans (by kernel_rfl)))
  (fz.mk [(4,5),(5,6)] rfl rfl ⟨⟨_,rfl,rfl⟩,⟨_,rfl,_,rfl,rfl,rfl,rfl,trivial⟩,⟨_,rfl,av⟩,⟨_,rfl,av⟩,⟨_,rfl,rfl⟩,⟨_,rfl,av⟩,trivial⟩)
noncomputable def ni(turn:Int)(row:List Int):St:=if turn>0 then(mS turn row row 0 (.gQ 0 row.length 1) row.length).del 6 else(mS turn row row.reverse 5 (.list (row.reverse.map .int)) row.reverse.length).del 6
theorem S3(B:aF G 2)(hh:G.A.handled=none)(A9:ku G 229 228 224 (mR tk))(hl:row.length<2^19)(h:iJ turn row=some out){bM: List Stmt}(k:eA G 4 (eM tk) bM (ni turn row) f σ):
  eA G 4 (eM tk) (ai (fB (st 18)) 0::ai (fB (st 18)) 1::bM) (mE row turn) f σ:=by
 unfold iJ at h;unfold ni at k;by_cases ht:turn>0
 ·rw[if_pos ht]at *
  exact .cons (NU B hh (aA hl (by decide)) ht) (.cons (LD B hh A9 (λzz=>rfl) rfl hl rfl (λzz zz=>rfl) (λzz zz zz=>rfl) h) k rfl) rfl
 ·rw[if_neg ht]at *
  exact .cons (Ja B hh (aA hl (by decide)) ht) (.cons (LD B hh A9 (λzz=>av) rfl hl rfl (λzz zz=>rfl) (λzz zz zz=>rfl) h) k rfl) rfl
theorem GA(hn:dz.length=k+1)(h:dz.foldlM (hJ row.length turn) row=some out):((mS turn row dz bl ao dz.length).del 6).get 3=some (.cell (some (.ref 7)))/\((mS turn row dz bl ao dz.length).del 6).get 7=some (.list (out.map .int)) /\
  ((mS turn row dz bl ao dz.length).del 6).get 0=some (.list (row.map .int))/\((mS turn row dz bl ao dz.length).del 6).get 1=some (.tab 224 qM):=by
 have e:CN turn row dz (k+1)=out:=by unfold CN;rw[←hn,List.take_length,h];rfl
 rw[hn,←e];exact⟨rfl,rfl,rfl,rfl⟩
theorem vZ(mQ:row.length=k+1)(h:iJ turn row=some out):(ni turn row).get 3=some (.cell (some (.ref 7)))/\(ni turn row).get 7=some (.list (out.map .int))/\(ni turn row).get 0=some (.list (row.map .int))/\(ni turn row).get 1=some (.tab 224 qM):=by
 unfold iJ at h;unfold ni;by_cases ht:turn>0
 ·rw[if_pos ht]at *;exact GA mQ h
 ·rw[if_neg ht]at *;exact GA ((iE).trans mQ) h
theorem vY:(ni turn []).get 3=some (.cell (some (.ref 0)))/\(ni turn []).get 0=some (.list [])/\(ni turn []).get 1=some (.tab 224 qM):=by
 unfold ni;by_cases ht:turn>0
 ·rw[if_pos ht];exact⟨rfl,rfl,rfl⟩
 ·rw[if_neg ht];exact⟨rfl,rfl,rfl⟩
theorem Ui(tk:Nat):iW (mR tk) (fB (st 18)) [(So "row",0)]:=⟨rfl,rfl,λL=>by kernel_rfl,rfl,by kernel_rfl,by kernel_rfl,by kernel_rfl,by kernel_rfl⟩
theorem Xk{tk s}(a b:af):bW s (mR tk) ⟨[a,b],[]⟩ [(So "row",a),(So "turn",b)]:=cj (K:=[]) (λzz zz h=>nomatch h) λS=>by kernel_rfl
noncomputable abbrev sM(row:List Int):St:=⟨[(1,.tab 224 qM),(0,.list (row.map .int))],2⟩
unseal st in
theorem Zb(h:σ.get 3=some (.cell (some v))):eA G m (eM tk) [ai (fB (st 18)) 2] σ (.ret v) σ:=by
 conv in ai (fB (st 18)) 2=>whnf
 exact .stop (.ret (.cell rfl h)) rfl
theorem eA.text{e: Env}{xs ys: List Stmt}{σ2: St}(q:xs=ys)(h:eA G m e ys σ f σ2):eA G m e xs σ f σ2:=q▸h
theorem Ap(B:aF G 3)(hh:G.A.handled=none)(hl:row.length<2^19)(h:iJ turn row=some out)(hv:(ni turn row).get 3=some (.cell (some v))):
  SK G (λvs ws=>call (.ref 229) vs ([].zip ws)) [.ref 0,.int turn] [] (sM row) v (ni turn row):=by
 refine dX (B.sN) λtk A9=>?_;exact SK.fy (names:=[]) (m:=4) (f:=.ret v) (rb:=[(So "turn",.int turn),(So "row",.ref 0)]) B.dH A9.1 B.dG A9.2.1 (Ui tk) (Kn λα s va vx g ra rx=>⟨_,Xk va vx,rfl,.aT rx (.aT ra cf)⟩) (by kernel_rfl) rfl (by kernel_rfl) λenv =>
  .text (show fB (st 18)=[ai (fB (st 18)) 0,ai (fB (st 18)) 1,ai (fB (st 18)) 2] by kernel_rfl) (S3 B.deep hh A9 hl h (Zb hv))
end
section
theorem Xt(P:ae)(f:Nat->Obj)(kt tk:Nat):(fw P f kt tk).get? 149=some (wR P):=by kernel_rfl
theorem Mc(P:ae)(f:Nat->Obj)(kt tk:Nat):(fw P f kt tk).get? 159=some (AD P):=by kernel_rfl
theorem Mb(P:ae)(f:Nat->Obj)(kt tk:Nat):(fw P f kt tk).get? 205=some (Lw P kt tk):=by kernel_rfl
noncomputable abbrev nB1:Str:=Sx [105,110,95,116,97,98,108,101,95,98,49]
noncomputable abbrev nB3:Str:=Sx [109,97,112,95,116,97,98,108,101,95,98,51]
noncomputable abbrev LB:Str:=Sx [99,112,121,51,49,51,46,115,116,114,105,110,103,112,114,101,112]
theorem KC(P:ae)(f:Nat->Obj)(kt tk:Nat):(fw P f kt tk).CodeRec (R 158) nB1:=dA (o:=AE P) (by kernel_rfl) rfl rfl
theorem KA(P:ae)(f:Nat->Obj)(kt tk:Nat):(fw P f kt tk).CodeRec (R 204) nB3:=dA (o:=Lx P kt tk) (by kernel_rfl) rfl rfl
noncomputable abbrev Hj:cm:=fdOf 11 nB1 N N (.str LB 349) (R 158)
noncomputable abbrev Hi:cm:=fdOf 13 nB3 N N (.str LB 349) (R 204)
noncomputable abbrev eB1:Env:=entryE Hj [] 0 159
noncomputable abbrev eB3:Env:=entryE Hi [] 0 205
noncomputable def b1L:List Int:=[65024,65025,65026,65027,65028,65029,6150,65030,65031,65032,65033,6155,6156,6157,8203,8204,8205,65034,65035,65036,65037,65038,65039,173,847,8288,65279]
noncomputable def oP(k:Int):Bool:=b1L.any (·==k)
theorem N5{P:ae}:∃es ep t,(wR P).data=.set es ep t/\(es.toList.all λe=>match e.2 with | .int k _=>e.1==hashInt k|_=>false)=true/\(∀k,es.toList.any (λe=>eY k e.2)=oP k)/\(es.toList.all λe=>e.2.scannable)=true/\es.size<scanBound/\t.fits es.size=true:=
 ⟨_,_,_,rfl,by kernel_rfl,λk=>by rfl,by kernel_rfl,by decide,by kernel_rfl⟩
theorem isInt_self(c:Int)(t:Tok):eY c (.int c t)=true:=beq_self_eq_true c
theorem N6{G:Gv}{n:Nat}(B:aF G n){h:Heap}(hk:∀b o,G.h₀.get? b=some o->h.get? b=some o):∃m,h.SetOf (PySem.intKind G.prog G.w) 149 oP m:=by
 refine Sp (N5 (P:=G.w.params)) λes ep t e1 e2 e3 e4 e5 e6=>?_;refine xi5 es.size _ es ep t ⟨hk _ _ (B.at Xt),⟨rfl,rfl,rfl⟩,e1,λe he=>?_,λk=>?_,e5,e6,rfl⟩
 ·have h1:=List.all_eq_true.mp e2 e he
  have h2:=List.all_eq_true.mp e4 e he;refine⟨?_,h2⟩;obtain⟨a,v⟩:=e;cases v<;>first|(simp at h1;done)|skip
  rename_i k t
  exact⟨k,isInt_self k t,eq_of_beq h1⟩
 ·rw[←e3 k,List.any_eq_true];rfl
variable{G:Gv}{σ:St}{n c:Nat}{y:Str}
theorem EZ{c: Int}(B:aF G n):bH G (bO .In) (.int c) (.val (.ref 149)) σ (.bool (oP c)) σ:=by
 rintro α s v w E g ⟨t,rfl⟩ rfl;obtain⟨m,hS⟩:=N6 B λb o e=>(g.base b o e).2;exact wpAny_inSet_of (knd:=PySem.intKind G.prog G.w) (k:=c) (isInt_self c t) rfl hS (g.gx rfl)
theorem zw{a: CV}{P:AM->aq->List af->List af->Prop}(h:∀α s v,GS G α σ s->VR α s.heap a v->P α s [v] []):∀α s vs ws,GS G α σ s->dq α s.heap [a] vs->dq α s.heap [] ws->P α s vs ws:=by
 rintro α s _ _ g ⟨va,_,rfl,ra,rfl⟩ rfl;exact h α s va g ra
theorem SK.free{f:List af->List af->Sem af}{cs0: List CV}{c0: CV}{τ1: St}(spec:∀h₀,(∀b o,G.h₀.get? b=some o->h₀.get? b=some o)->SK (ext G h₀) f cs0 [] ⟨[],0⟩ c0 τ1)(sf:∀r,cV r cs0=cs0)(G6:∀r,l_ r c0=c0):SK G f cs0 [] σ c0 σ:=
 SK.tH (τ0:=⟨[],0⟩) (l:=[]) (ks0:=[]) rfl rfl rfl trivial rfl (λzz zz h zz=>h) trivial spec (sf _).symm rfl (G6 _).symm
theorem vz(B:aF G n):Glob G (So "ord") (.builtin "ord"):=B.blt (λzz zz zz zz=>by kernel_rfl) (λzz zz zz zz=>by kernel_rfl)
theorem Zz:iW Hj (fB (st 11)) []:=⟨rfl,rfl,λL=>by kernel_rfl,rfl,rfl,by kernel_rfl,by kernel_rfl,by kernel_rfl⟩
theorem Zy:iW Hi (fB (st 13)) []:=⟨rfl,rfl,λL=>by kernel_rfl,rfl,rfl,by kernel_rfl,by kernel_rfl,by kernel_rfl⟩
theorem aa9{s}(a:af):bW s Hj ⟨[a],[]⟩ [(So "code",a)]:=cj (K:=[]) (λzz zz h=>nomatch h) λS=>by kernel_rfl
theorem aa8{s}(a:af):bW s Hi ⟨[a],[]⟩ [(So "code",a)]:=cj (K:=[]) (λzz zz h=>nomatch h) λS=>by kernel_rfl
unseal st in
theorem wB1(B:aF G 0):eA G 1 eB1 (fB (st 11)) ⟨[(0,.frame [(So "code",.str (tx [c]))])],1⟩ (.ret (.bool (oP c))) ⟨[(0,.frame [(So "code",.str (tx [c]))])],1⟩:=by
 conv in fB (st 11)=>whnf
 exact .stop (.ret (.cmp (.dP (.glob (vz B)) (.cons (.loc rfl rfl) .nil) (Ov rfl)) (.glob (v:=.ref 149) (B.glob λzz zz zz zz=>by kernel_rfl)) (EZ B))) rfl
theorem TN(B:aF G 1):SK G (λvs ws=>call (.ref 159) vs ([].zip ws)) [.str (tx [c])] [] σ (.bool (oP c)) σ:=
 SK.free (λh k=>SK.fy (names:=[]) (m:=1) (f:=.ret (.bool (oP c))) (rb:=[(So "code",.str (tx [c]))]) (B.ext k).dH ((B.ext k).defAt Mc (fd:=Hj) λzz=>by kernel_rfl) (B.ext k).dG ((B.ext k).dZ KC) Zz (zw λα s v g r=>⟨_,aa9 v,rfl,.aT r cf⟩) (by kernel_rfl) rfl (by kernel_rfl) λenv=>wB1 (B.ext k).deep) (λzz=>rfl) λzz=>rfl
theorem EA.find{es: List bz}{qs: List (Int×Str)}(k:Int)(H:EA es qs):match qs.lookup k with
  |some s=>∃u,(es.find? λe=>eY k e.key).map (·.val)=some (.str s u)
  |none=>(es.find? λe=>eY k e.key)=none:=by
 induction H with
 |nil=>rfl
 |cons a b ih =>
  rename_i e es q qs
  obtain⟨t,u,rfl⟩:=a;obtain⟨j,x⟩:=q;by_cases h:k=j
  ·subst h
   simp only[aR,beq_self_eq_true];exact⟨u,by rw[List.find?_cons,show eY k (Value.int k t)=true from isInt_self k t];rfl⟩
  ·have hb:(k==j)=false:=beq_eq_false_iff_ne.mpr h
   have hi:eY k (.int j t)=false:=by
    first|exact beq_eq_false_iff_ne.mpr h|exact beq_eq_false_iff_ne.mpr λe=>h e.symm
   simp only[aR,hb];rw[List.find?_cons_of_neg (by simp[hi])];exact ih
theorem aF.dict(B:aF G n):∃f:Int->Option af,(∀h:Heap,(∀b o,G.h₀.get? b=some o->h.get? b=some o)->h.MapOf (PySem.intKind G.prog G.w) 160 f)/\∀k,match mh.lookup k with
  |some s=>∃u,f k=some (.str s u)
  |none=>f k=none:=by
 obtain⟨f,kt,tk,es,ep,Kj,hf0,e⟩:=B.heap;have h1:(fw G.w.params f kt tk).objs[160]?=some (f 0):=by kernel_rfl
 have h2:G.h₀.get? 160=some (dO es ep):=e _ _ (by rfl) ((Heap.get?_eq_some _ _ _).mpr ⟨by rw[h1,hf0],rfl⟩);refine⟨λk=>findBy eY es k,λh hk=>⟨_,es,ep,hk _ _ h2,⟨rfl,rfl,rfl⟩,rfl,λx hx=>?_,λk=>rfl⟩,λk=>?_⟩
 ·refine c_ λDd up1=>?_
  obtain⟨q,_,t,u,rfl⟩:=Kj.mem (Array.mem_toList_iff.mpr hx);refine up1 ?_;exact⟨q.1,isInt_self q.1 t,rfl⟩
 ·have:=EA.find k Kj
  have he:es.find? (λe=>eY k e.key)=es.toList.find? (λe=>eY k e.key):=by
   obtain⟨l⟩:=es;simp
  show match mh.lookup k with|some s=>∃u,(es.find? λe=>eY k e.key).map (·.val)=some (.str s u)|none=>(es.find? λe=>eY k e.key).map (·.val)=none
  rw[he];cases q:mh.lookup k with
  |some s=>rw[q]at this;exact this
  |none=>rw[q]at this;simp only at this ⊢;rw[this];rfl
noncomputable def Ma(c:Int):CV:=match mh.lookup c with|some s=>.str s|none=>.none
theorem Hw{c: Int}(B:aF G n):bN G (λvs=>call (.builtin "dict.get") vs) [.val (.ref 160),.int c] σ (Ma c) σ:=by
 rintro α s _ E g ⟨_,_,rfl,rfl,_,_,rfl,⟨t,rfl⟩,rfl⟩;refine aH (B.dict) λf hm hf=>?_;have hm:=hm s.heap λb o e=>(g.base b o e).2;refine call_meetsIn PySem.F.slot_dict_get hm.typeIs PySem.F.entry_dict_get (PySem.F.args_dict_get_2 _ _) (meets_dict_get (PySem.intKind G.prog G.w) 160 (k:=c) (isInt_self c t) (by decide)) ⟨_,hm,?_⟩;have X5:=hf c;unfold Ma;cases q:mh.lookup c with
 |some x =>
  rw[q]at X5;obtain⟨u,hu⟩:=X5;rw[hu];exact GS.gx (R:=VR) (d:=CV.str x) g ⟨u,rfl⟩
 |none =>
  rw[q]at X5;rw[X5];exact GS.gx (R:=VR) (d:=CV.none) g rfl
theorem BD{x: Str}(n5:jW (Txt.lower x).length=false):bN G (λvs=>call (.builtin "str.lower") vs) [.str x] σ (.str (Txt.lower x)) σ:=
 XG λα s t E g=>SC.lower n5 (g.gx ⟨_,rfl⟩)
def qu(c:Nat)(y:Str):Prop:=mh.lookup (c:Int)=some y∨(mh.lookup (c:Int)=none/\Txt.lower (tx [c])=y/\jW y.length=false)
unseal st in
theorem wB3(B:aF G 0)(hy:qu c y):eA G 1 eB3 (fB (st 13)) ⟨[(0,.frame [(So "code",.str (tx [c]))])],1⟩ (.ret (.str y)) ⟨[(0,.frame [(So "code",.str (tx [c])),(So "r",Ma c)])],1⟩:=by
 conv in fB (st 13)=>whnf
 refine .cons (.assign (.qR (Tn:="dict") PySem.F.slot_dict_get PySem.F.plainAttrs_dict PySem.F.type_dict_get (.glob (v:=.ref 160) (B.glob λzz zz zz zz=>by kernel_rfl)) (λα s v g r=>?_)
  (.cons (.dP (.glob (vz B)) (.cons (.loc rfl rfl) .nil) (Ov rfl)) .nil) (Hw B)) (.loc rfl)) ?_ rfl
 ·cases r
  refine aH (B.dict) λf hm hf=>?_;have hm:=hm s.heap λb o e=>(g.base b o e).2;exact⟨hm.typeIs,hm.noDict⟩
 show eA G 1 eB3 _ ⟨[(0,.frame [(So "code",.str (tx [c])),(So "r",Ma c)])],1⟩ _ _;rcases hy with hy|⟨hy,XX,n5⟩
 ·have e:Ma c=.str y:=by unfold Ma;rw[hy]
  rw[e];exact .stop (.jK (b:=true) (.cmp (.loc rfl rfl) .none (sW rfl)) (.stop (.ret (.loc rfl rfl)) rfl)) rfl
 ·have e:Ma c=.none:=by unfold Ma;rw[hy]
  rw[e];exact .cons (.jK (b:=false) (.cmp (.loc rfl rfl) .none lJ) .nil) (.stop (.ret (.qR PySem.F.slot_str_lower dB rfl (.loc rfl rfl) mr .nil (XX▸BD (XX.symm▸n5)))) rfl) rfl
theorem TM(B:aF G 1)(hy:qu c y):SK G (λvs ws=>call (.ref 205) vs ([].zip ws)) [.str (tx [c])] [] σ (.str y) σ:=
 SK.free (λh k=>by
  obtain⟨f,kt,tk,es,ep,_,_,c'⟩:=(B.ext k).heap;exact SK.fy (names:=[]) (m:=1) (f:=.ret (.str y)) (rb:=[(So "code",.str (tx [c]))]) (B.ext k).dH (fd:=Hi) ⟨_,c' _ _ (by rfl) (Mb _ _ _ _),by kernel_rfl⟩ (B.ext k).dG ((B.ext k).dZ KA) Zy (zw λα s v g r=>⟨_,aa8 v,rfl,.aT r cf⟩) (by kernel_rfl) rfl (by kernel_rfl) λenv=>wB3 (B.ext k).deep hy) (λzz=>rfl) λzz=>rfl
end
section
noncomputable abbrev RG:Str:=Sx [95,108,97,119,95,100,114,97,119,110]
noncomputable abbrev ZN:Str:=Sx [108,97,119,95,119,99,48,48,50,49,95,48,51]
noncomputable abbrev n8(k:Nat)(nm:Str)(tk c:Nat):cm:=fdOf k nm N N (.str ZN (tk+8)) (R c)
theorem Bn(P:ae)(f:Nat->Obj)(kt tk:Nat):(fw P f kt tk).get? 210=some (Fq P kt tk):=by kernel_rfl
theorem Xs(P:ae)(f:Nat->Obj)(kt tk:Nat):(fw P f kt tk).get? 209=some (Lv P kt tk):=by kernel_rfl
theorem Ws(P:ae)(kt tk:Nat):(Fq P kt tk).data=.func (n8 15 RG tk 209):=by kernel_rfl
theorem aF.fnAt{G n}(B:aF G n){a c k:Nat}{nm:Str}{o oc:ae->Nat->Nat->Obj}(h1:∀P f kt tk,(fw P f kt tk).get? a=some (o P kt tk))(h2:∀P f kt tk,(fw P f kt tk).get? c=some (oc P kt tk))(hd:∀P kt tk,(o P kt tk).data=.func (n8 k nm tk c))
  (hc:∀P kt tk,∃vs t,(oc P kt tk).data=.fields vs/\vs[1]?=some (.str nm t)) (ha:mq.contains a=false:=by rfl) (hcc:mq.contains c=false:=by rfl):∃tk,f9 G a (n8 k nm tk c)/\G.h₀.CodeRec (R c) nm:=by
 obtain⟨f,kt,tk,es,ep,_,_,q⟩:=B.heap;refine kJ (hc G.w.params kt tk) λvs t e1 e2=>?_;exact⟨tk,⟨_,q _ _ ha (h1 _ _ _ _),hd _ _ _⟩,dA (q _ _ hcc (h2 _ _ _ _)) e1 e2⟩
theorem aF.Bn{G n}(B:aF G n):∃tk,f9 G 210 (n8 15 RG tk 209)/\G.h₀.CodeRec (R 209) RG:=B.fnAt Mine.Bn Xs Ws λzz zz zz=>⟨_,_,rfl,rfl⟩
noncomputable def K3(cs:List Int)(i:Nat)(x:Int):List Int:=cs.set (i % 3) (cs.getD (i % 3) 0+x.fmod 1000000)
noncomputable def f6(ys:List Int)(n:Nat):List Int:=(az n).foldl (λcs i=>K3 cs i (ys.getD i 0)) [407,11,17]
theorem nF(ys:List Int)(n:Nat):f6 ys (n+1)=K3 (f6 ys n) n (ys.getD n 0):=by
 unfold f6;rw[dm,gV];rfl
theorem jM(ys:List Int)(n:Nat):(f6 ys n).length=3:=by
 induction n with
 |zero=>rfl
 |succ n ih=>rw[nF];unfold K3;rw[List.length_set];exact ih
theorem zQ(ys:List Int)(n:Nat):∀x∈f6 ys n,0<=x:=by
 induction n with
 |zero=>intro x h;simp[f6]at h;lia
 |succ n ih =>
  intro x h;rw[nF]at h;unfold K3 at h;rcases List.mem_or_eq_of_mem_set h with h|rfl
  ·exact ih x h
  ·have h1:0<=(f6 ys n).getD (n % 3) 0:=by
    have hl:=jM ys n;have hk:n % 3<(f6 ys n).length:=by lia
    rw[show(f6 ys n).getD (n % 3) 0=(f6 ys n)[n % 3] by simp[hk]];exact ih _ (fm hk)
   have h2:=bS (ys.getD n 0) (b:=1000000) (by decide);lia
noncomputable def gz(n:Nat):List Nat:=(az 10).map λk=>if n/2^k % 2=1 then 102 else 105
noncomputable def d6(script:List Int):List Int:=f6 (script.take 60) (script.take 60).length
theorem QM{c:Int}(h:0<=c)(k:Nat):Builtin.bitAnd (c.fdiv (2^((0:Int)+(k:Int)).toNat)) 1=((c.toNat/2^k % 2:Nat):Int):=by
 refine dX (cu h) λn ja=>?_;obtain rfl:=ja;have e:(0+(k:Int)).toNat=k:=by lia
 have e2:((n:Int)).fdiv (2^k)=((n/2^k:Nat):Int):=by
  rw[lT _ (by exact_mod_cast aW (2^k))];kernel_rfl
 rw[e,e2,eK];generalize n/2^k=q;rw[bitAnd_pp (by lia) (by lia),eK,show(1:Int).toNat=1 from rfl,Nat.and_one_is_mod]
variable{G:Gv}{tk r n:Nat}{script ys:List Int}{σ:St}{l:List Int}
theorem sA(i:Nat):((f6 ys i).map CV.int).length<2^62:=by rw[aj,jM];decide
theorem Gq(i:Nat):0<=(i:Int).fmod 3/\((i:Int).fmod 3).toNat=i % 3/\(i:Int).fmod 3<3:=by
 rw[Int.fmod_eq_emod_of_nonneg _ (by decide)];exact⟨aP (i % 3),rfl,Int.ofNat_lt.mpr (Nat.mod_lt i (y:=3) (by decide))⟩
theorem HE(i:Nat):((f6 ys i).map CV.int)[((i:Int).fmod 3).toNat]?=some (.int ((f6 ys i).getD (i % 3) 0)):=by
 have h:i % 3<(f6 ys i).length:=by rw[jM];exact Nat.mod_lt _ (by decide)
 rw[(Gq i).2.1];simp[h]
theorem CS{i: Nat}(e:σ.get 2=some (.list ((f6 ys i).map .int))):Rj G (.ref 2) (.int ((i:Int).fmod 3)) (.int ((f6 ys i).getD (i % 3) 0+(ys.getD i 0).fmod 1000000)) σ (σ.set 2 (.list ((f6 ys (i+1)).map .int))):=by
 have h:=En (G:=G) (c:=.int ((f6 ys i).getD (i % 3) 0+(ys.getD i 0).fmod 1000000)) e (Gq i).1 (by rw[aj,jM];exact(Gq i).2.2) (sA i);rw[(Gq i).2.1,←List.map_set]at h;rw[nF];exact h
theorem xV(B:aF G n):Glob G (So "enumerate") (.type "enumerate"):=B.blt (λzz zz zz zz=>by kernel_rfl) (λzz zz zz zz=>by kernel_rfl)
noncomputable abbrev eD(tk:Nat):Env:=entryE (n8 15 RG tk 209) [(So "cells",0)] 0 210
noncomputable abbrev fD(r:Nat):List (Str×CV):=[(So "script",.val (.ref r))]
noncomputable abbrev dS(r:Nat)(ys:List Int)(i:Nat):St:=⟨[(5,.qj 4 i),(4,.i6 3 i),(3,.list (ys.map .int)),(2,.list ((f6 ys i).map .int)),(1,.cell (some (.ref 2))),(0,.frame (fD r))],6⟩
theorem uw(hr:∃vs n,G.h₀.get? r=some (kE vs n)/\IntsAre vs script)(hl:script.length<=1000):dk G (.val (.ref r)) none (some 60) none σ (.ref σ.n) (σ.push (.list ((script.take 60).map .int))):=by
 obtain⟨vs,n,e,h⟩:=hr;exact tn script (k:=60) (by decide)▸yK e h (by decide) (dn (ak hl (by decide)))
unseal st in
theorem Wu(B:aF G 4)(hh:G.A.handled=none)(hr:∃vs n,G.h₀.get? r=some (kE vs n)/\IntsAre vs script)(hl:script.length<=1000):
  SS G 2 (eD tk) (ai (fB (st 15)) 1) ⟨[(2,.list ([407,11,17].map .int)),(1,.cell (some (.ref 2))),(0,.frame (fD r))],3⟩ .next (((dS r (script.take 60) (script.take 60).length).del 5).del 4):=by
 conv in ai (fB (st 15)) 1=>whnf
 refine SS.for (m':=6) (it:=5) (script.take 60).length (dS r (script.take 60)) rfl (by decide) (by decide) (.gi (.glob (xV B)) (.cons (.slice (.loc rfl rfl) .no (.at .int) .no (uw hr hl)) .nil) (CK rfl)) (pV rfl) (λi hi=>?_)
  (D.Hp hh rfl rfl rfl (aj _) (by decide))
 exact⟨_,⟨_,_,_,X.Hp rfl rfl rfl (pF hi) (by decide),.tuple hh (.name (.loc rfl) (.name (.loc rfl) .nil)),
  .cons (.Q5 (.cell rfl rfl) (.bin (.loc rfl rfl) .int (gq (by decide))) (pj rfl (Gq i).1 (HE i) (sA i)) (.bin (.loc rfl rfl) .int (gq (by decide))) oZ (CS rfl)) .nil rfl⟩,
  fz.mk [] rfl rfl ⟨⟨_,rfl,rfl⟩,⟨_,rfl,rfl⟩,⟨_,rfl,av⟩,⟨_,rfl,av⟩,⟨_,rfl,rfl⟩,⟨_,rfl,_,rfl,rfl,trivial⟩,trivial⟩⟩
noncomputable abbrev dE(r:Nat)(ys:List Int)(c0 c1 c2:Int):St:=⟨[(3,.list (ys.map .int)),(2,.list [.int c0,.int c1,.int c2]),(1,.cell (some (.ref 2))),(0,.frame (fD r))],6⟩
noncomputable abbrev dI(r:Nat)(ys:List Int)(c0 c1 c2:Int)(i:Nat):St:=⟨(7,AW 0 10 i)::(6,.gQ 0 10 1)::(dE r ys c0 c1 c2).objs,8⟩
noncomputable def KQ(c:Int)(k:Nat):Nat:=if c.toNat/2^k % 2=1 then 102 else 105
theorem HT(c:Int)(k:Nat):(aE "if").cps[(((c.toNat/2^k % 2:Nat):Int)).toNat]?=some (KQ c k):=by
 unfold KQ;rw[eK];rcases Nat.mod_two_eq_zero_or_one (c.toNat/2^k)with h|h<;>rw[h]<;>rfl
seal aV cD SS eA bN d0 bH fH du cW eU fV dk gI fg kG SK SF m6
noncomputable abbrev Ky(c0:Int):Nat->List CV:=eu λi=>.str (tx [KQ c0 i])
unseal st in
theorem aaJ{m: Nat}{c0 c1 c2: Int}(B:aF G 4)(hh:G.A.handled=none)(h0:0<=c0):eA G m (eD tk) [ai (fB (st 15)) 2] (dE r ys c0 c1 c2) (.ret (.tup [.str (tx ((az 10).map (KQ c0))),.int c1,.int c2])) (((PP (dI r ys c0 c1 c2 10) (Ky c0 10) []).del 7).del 9):=by
 conv in ai (fB (st 15)) 2=>whnf
 refine .stop (.ret (.tuple (.cons (.qG fk dB rfl .str mr (.cons (.comp (mm:=[]) (it:=7) (σ2:=dI r ys c0 c1 c2 0) (σ3:=(PP (dI r ys c0 c1 c2 10) (Ky c0 10) []).del 7) 10 (cl:=[(So "cells",1)]) (by kernel_rfl) (by kernel_rfl)
  (.gi (.glob (dC B)) (.cons .int .nil) mA) (iP (n:=10) rfl (by kernel_rfl) (by kernel_rfl)) (show 9<10 by decide) ?h3 rfl) .nil) (r6 rfl (by decide)))
  (.cons (.sub (.cell rfl rfl) .int (ix rfl (by decide) rfl (show 3<2^62 by decide))) (.cons (.sub (.cell rfl rfl) .int (ix rfl (by decide) rfl (show 3<2^62 by decide))) .nil))) rfl)) rfl
 refine cW.simple (N:=8) (n:=10) (dI r ys c0 c1 c2) (λi=>.int (0+i)) (λi=>[(So "k",.int (0+i))]) (Ky c0) (λzz=>rfl) rfl (show 7<10 by decide) rfl rfl rfl (mK _ _ _ _ _) (nk hh rfl (aW _)) (λi hi=>⟨X.jI rfl hi,.name (.loc (m':=[]) rfl),?_⟩) (D.jI hh rfl);refine .md (.sub .str (.bin (.bin (.sub (.cell rfl rfl) .int (ix rfl (bD 0) rfl (show 3<2^62 by decide))) (.loc rfl rfl) (Ow (Int.add_nonneg (bD 0) (aP i)))) .int Ox) ?_) rfl (f5 (ak (bY hi) (by decide))) eS;rw[QM h0];exact Ak (aP _) (HT c0 i) (show 2<2^60 by decide)
unseal st in
theorem Ww(B:aF G 4):SS G 2 (eD tk) (ai (fB (st 15)) 0) ⟨[(1,.cell bB),(0,.frame (fD r))],2⟩ .next ⟨[(2,.list ([407,11,17].map .int)),(1,.cell (some (.ref 2))),(0,.frame (fD r))],3⟩:=by
 conv in ai (fB (st 15)) 0=>whnf
 exact .to (.assign (.list (.cons .int (.cons .int (.cons .int .nil))) rfl) (.cell rfl rfl)) rfl
theorem Zx(tk:Nat):iW (n8 15 RG tk 209) (fB (st 15)) [(So "cells",0)]:=⟨rfl,rfl,λL=>by kernel_rfl,rfl,by kernel_rfl,by kernel_rfl,by kernel_rfl,by kernel_rfl⟩
theorem aa7{tk s}(a:af):bW s (n8 15 RG tk 209) ⟨[a],[]⟩ [(So "script",a)]:=cj (K:=[]) (λzz zz h=>nomatch h) λS=>by kernel_rfl
theorem TA(h:l.length=3):l=[l.getD 0 0,l.getD 1 0,l.getD 2 0]:=by
 cases l with
 |nil=>cases h
 |cons a l=>cases l with
  |nil=>cases h
  |cons b l=>cases l with
   |nil=>cases h
   |cons c l=>cases l with
    |nil=>rfl
    |cons d l=>cases h
theorem ZL(h:l.length=3):l.getD 0 0∈l:=by
 cases l with
 |nil=>cases h
 |cons a l=>exact .head _
noncomputable abbrev aaK(r:Nat)(script:List Int):St:=((PP (dI r (script.take 60) ((d6 script).getD 0 0) ((d6 script).getD 1 0) ((d6 script).getD 2 0) 10) (Ky ((d6 script).getD 0 0) 10) []).del 7).del 9
theorem TL{σ: St}(B:aF G 5)(hh:G.A.handled=none)(hr:∃vs n,G.h₀.get? r=some (kE vs n)/\IntsAre vs script)(hl:script.length<=1000):
  SK G (λvs ws=>call (.ref 210) vs ([].zip ws)) [.val (.ref r)] [] σ (.tup [.str (tx (gz ((d6 script).getD 0 0).toNat)),.int ((d6 script).getD 1 0),.int ((d6 script).getD 2 0)]) σ:=
 SK.free (τ1:=aaK r script) (λh k=>by
  have B':=B.ext k;refine aH (B'.Bn) λtk D C=>?_;refine SK.fy (names:=[]) (m:=2) (f:=.ret (.tup [.str (tx (gz ((d6 script).getD 0 0).toNat)),.int ((d6 script).getD 1 0),.int ((d6 script).getD 2 0)])) (rb:=[(So "script",.val (.ref r))]) B'.dH D B'.dG C (Zx tk) (zw λα s v g q=>⟨_,aa7 v,rfl,.aT q cf⟩) (by kernel_rfl) rfl (by kernel_rfl) λenv =>
   .text (show fB (st 15)=[ai (fB (st 15)) 0,ai (fB (st 15)) 1,ai (fB (st 15)) 2] by kernel_rfl) (.cons (Ww B'.deep) (.cons (Wu B'.deep hh (hr.imp λzz q=>q.imp λzz q=>⟨k _ _ q.1,q.2⟩) hl) ?_ rfl) rfl)
  have e:=TA (jM (script.take 60) (script.take 60).length);have p:=zQ (script.take 60) (script.take 60).length;show eA _ 2 (eD tk) _ ⟨[(3,.list ((script.take 60).map .int)),(2,.list ((d6 script).map .int)),(1,.cell (some (.ref 2))),(0,.frame (fD r))],6⟩ _ _;have e:d6 script=_:=e;have e2:=congrArg (List.map CV.int) e;rw[e2];exact aaJ B'.deep hh (p _ (ZL (jM _ _)))) (λzz=>rfl) λzz=>rfl
end
section
variable{i j kind:Int}{place:Nat}{l:List Nat}{cs:Int×Int}
theorem gZ{a b: Int}(h:a.natAbs<2^40):IntMulOk a b:=by
 refine IntMulOk.of_left ?_;unfold Builtin.Int.intBits
 split
 ·lia
 ·rename_i h0
  have h1:a.natAbs≠0:=by
   intro e;exact h0 (by simp[Int.natAbs_eq_zero.mp e])
  have:=(Nat.log2_lt h1).mpr (aA h (Nat.pow_le_pow_right (by decide) (show 40<=63 by decide)));lia
noncomputable def oC:List Int:=[0,1,2,4,7,8,9,10,11,12]
noncomputable def ng:List Int:=[173,847,6150,6155,6156,6157,8203,8204,8205,8288,65279]++(az 16).map λi=>(65024:Int)+(i:Nat)*1
noncomputable abbrev Rr:Str:=So "ff"
noncomputable abbrev Rq:Str:=So "fi"
noncomputable abbrev Bx:Str:=So "ffi"
noncomputable def qx(x:Str):Option Int:=if x=Rr then some 64256 else if x=Rq then some 64257 else if x=Bx then some 64259 else none
noncomputable def qI(dress pace:Int)(place:Nat):Int:=(dress+(place:Int)*pace).fmod 16
noncomputable def nB(dress pace:Int)(place:Nat):Int:=dress.fdiv 16+(place:Int)*pace
noncomputable def oA(kind:Int)(c:Nat):Int:=if kind<11 then(c:Int)+(if kind<10 then 119711+52*oC.getD kind.toNat 0 else -32)else c
noncomputable def j1(kind:Int)(l:List Nat)(place qS:Nat)(cs:Int×Int):Int×Int:=if kind>11 then(match qx (tx ((l.drop place).take qS))with|some v=>(v,(qS:Int))|none=>cs)else cs
noncomputable def iQ(dress pace:Int)(l:List Nat)(place:Nat):Int×Int:=
 j1 (qI dress pace place) l place 3 (j1 (qI dress pace place) l place 2 (oA (qI dress pace place) (l.getD place 0),1))
noncomputable def ke(dress pace:Int)(l:List Nat)(place:Nat):List Nat:=
 (if(nB dress pace place).fmod 3==0 then [(ng.getD (((nB dress pace place).fdiv 3).fmod 27).toNat 0).toNat]else [])++[(iQ dress pace l place).1.toNat]
noncomputable def jO(dress pace:Int)(l:List Nat):Nat->Nat->List Nat->List Nat
 |0,_,acc=>acc
 |n+1,place,acc=>if place<l.length then jO dress pace l n (place+(iQ dress pace l place).2.toNat) (acc++ke dress pace l place)else acc
noncomputable def j_(dress pace:Int)(l:List Nat):List Nat:=jO dress pace l l.length 0 []
theorem DO{x: Str}{v: Int}(h:qx x=some v):0<=v/\v<=100000:=by
 unfold qx at h
 split at h
 ·cases h;decide
 ·split at h
  ·cases h;decide
  ·split at h
   ·cases h;decide
   ·cases h
theorem xm(dress pace:Int)(place:Nat):0<=qI dress pace place/\qI dress pace place<16:=⟨bS _ (by decide),c9 _ (by decide)⟩
theorem H4(k:Nat):0<=oC.getD k 0/\oC.getD k 0<=12:=by
 match k with
 |0=>decide
 |1=>decide
 |2=>decide
 |3=>decide
 |4=>decide
 |5=>decide
 |6=>decide
 |7=>decide
 |8=>decide
 |9=>decide
 |n+10=>simp[oC]
theorem xd{qS: Nat}(h:0<=cs.1/\cs.1<=200000/\1<=cs.2/\cs.2<=3)(hm:1<=qS/\qS<=3):0<=(j1 kind l place qS cs).1/\(j1 kind l place qS cs).1<=200000/\1<=(j1 kind l place qS cs).2/\(j1 kind l place qS cs).2<=3:=by
 unfold j1
 split
 ·split
  ·rename_i v hv
   have:=DO hv;refine⟨?_,?_,?_,?_⟩<;>simp only<;>lia
  ·exact h
 ·exact h
theorem CQ{c: Nat}(hc:32<=c/\c<=200):0<=oA kind c/\oA kind c<=200000:=by
 unfold oA;have:=H4 kind.toNat
 split
 ·split<;>lia
 ·lia
theorem pz{dress pace: Int}(hc:32<=l.getD place 0/\l.getD place 0<=200):0<=(iQ dress pace l place).1/\(iQ dress pace l place).1<=200000/\1<=(iQ dress pace l place).2/\(iQ dress pace l place).2<=3:=by
 have h0:=CQ (kind:=qI dress pace place) hc;exact xd (xd ⟨h0.1,h0.2,bD 1,by simp⟩ (by decide)) (by decide)
theorem ui:ng.length=27:=by decide
theorem IP(k:Nat):0<=ng.getD k 0/\ng.getD k 0<=65279:=by
 by_cases h:k<27
 ·have:(ng.all λx=>decide (0<=x/\x<=65279))=true:=by decide
  have h2:=List.all_eq_true.mp this (ng[k]'(by rw[ui];exact h)) (fm _);rw[aB,aD (by rw[ui];exact h)];simpa using h2
 ·have:ng.getD k 0=0:=by
   rw[aB,List.getElem?_eq_none (by rw[ui];lia)];rfl
  rw[this];decide
theorem Bg(h0:0<=i)(h1:i<=j)(h:(l.length:Int)<=j):(l.drop i.toNat).length<=(j-i).toNat:=by
 rw[j8,Nat.sub_le_iff_le_add,Nat.add_comm,oa h0 h1];exact(Int.le_toNat (aQ h0 h1)).mpr h
theorem BM(h0:0<=i)(h1:i<=j)(h2:i<=l.length):Txt.slice (tx l) (some i) (some j)=tx ((l.drop i.toNat).take (j-i).toNat):=by
 by_cases h:j<=l.length
 ·exact rH h0 h1 h
 ·have e:j6 (some i) (some j) 1 (tx l).length=j6 (some i) (some (l.length:Int)) 1 (tx l).length:=by
   rw[dT];have a:¬(j<0):=Int.not_lt.mpr (aQ h0 h1);have b:¬((l.length:Int)<0):=Int.not_lt.mpr (aP _);have c:max 0 (min j (l.length:Int))=max 0 (min (l.length:Int) (l.length:Int)):=by rw[Int.min_self,Int.min_eq_right (fW (Int.not_le.mp h))]
   simp only[j6,a,b,if_false,show(1:Int)>0 by decide,if_true];rw[c]
  have e2:Txt.slice (tx l) (some i) (some j)=Txt.slice (tx l) (some i) (some (l.length:Int)):=by
   unfold Txt.slice;rw[e]
  rw[e2,rH h0 h2 (bD _)];rw[gC (Bg h0 h1 (fW (Int.not_le.mp h))),gC (Bg h0 h2 (bD _))]
theorem D1(a b:List Nat):(tx a++tx b)=tx (a++b):=by
 apply Str.ext';show a.toArray++b.toArray=(a++b).toArray;simp
noncomputable def CP(kind:Int)(l:List Nat)(place:Nat)(cs:Int×Int):Nat->Int×Int
 |0=>cs
 |1=>j1 kind l place 2 cs
 |_=>j1 kind l place 3 (j1 kind l place 2 cs)
theorem CO{i: Nat}(h:i<2):CP kind l place cs (i+1)=j1 kind l place (i+2) (CP kind l place cs i):=by
 cases i with
 |zero=>rfl
 |succ i=>cases i with
  |zero=>rfl
  |succ i=>exact absurd (jN (jN h)) (Nat.not_lt_zero _)
theorem tA(dress pace:Int)(l:List Nat)(place:Nat):(ke dress pace l place).length<=2:=by
 unfold ke;rw[aC];cases((nB dress pace place).fmod 3==0)
 ·exact ip 1
 ·exact aG 2
noncomputable def n_:List (Str×Int):=[(Rr,64256),(Rq,64257),(Bx,64259)]
theorem Bv(x:Str):n_.lookup x=qx x:=by
 unfold n_ qx;by_cases a:x=Rr
 ·subst a;simp[kA]
 ·have e:∀y:Str,x≠y->(x==y)=false:=λy h=>beq_false_of_ne h
  rw[if_neg a,aR,e _ a];by_cases b:x=Rq
  ·subst b;simp[kA]
  ·rw[if_neg b,aR,e _ b]
   by_cases c:x=Bx
   ·subst c;simp[kA]
   ·rw[if_neg c,aR,e _ c];rfl
noncomputable abbrev Cb:Str:=Sx [95,108,97,119,95,116,121,112,101,100]
theorem Bm(P:ae)(f:Nat->Obj)(kt tk:Nat):(fw P f kt tk).get? 217=some (Fp P kt tk):=by kernel_rfl
theorem Xr(P:ae)(f:Nat->Obj)(kt tk:Nat):(fw P f kt tk).get? 216=some (Lu P kt tk):=by kernel_rfl
theorem Wr(P:ae)(kt tk:Nat):(Fp P kt tk).data=.func (n8 16 Cb tk 216):=by kernel_rfl
theorem aF.Bm{G n}(B:aF G n):∃tk,f9 G 217 (n8 16 Cb tk 216)/\G.h₀.CodeRec (R 216) Cb:=B.fnAt Mine.Bm Xr Wr λzz zz zz=>⟨_,_,rfl,rfl⟩
theorem YO(P:ae)(f:Nat->Obj)(kt tk:Nat):∃o,(fw P f kt tk).get? sysModules=some o:=Option.isSome_iff_exists.mp (by kernel_rfl)
theorem aF.sys{G n}(B:aF G n):(G.h₀.get? sysModules).isSome=true:=by
 obtain⟨f,kt,tk,es,ep,_,_,c⟩:=B.heap;obtain⟨o,ho⟩:=YO G.w.params f kt tk;rw[c _ _ (by rfl) ho];rfl
end
section
variable{G:Gv}{tk n place:Nat}{l acc:List Nat}{dress pace kind size code move:Int}{σ:St}{i:Nat}{a b:List Nat}{cs:Int×Int}
noncomputable abbrev eT(tk:Nat):Env:=entryE (n8 16 Cb tk 216) [] 0 217
noncomputable abbrev jy:List Stmt:=fB (ai (fB (st 16)) 3)
noncomputable abbrev tF(l:List Nat)(dress pace:Int)(acc:List Nat)(place:Int):List (Str×CV):=[(So "pace",.int pace),(So "dress",.int dress),(So "line",.str (tx l)),(So "wide",.ref 1),(So "unseen",.ref 2),(So "text",.str (tx acc)),(So "place",.int place)]
noncomputable abbrev tG(l:List Nat)(dress pace:Int)(acc:List Nat)(place kind size code move:Int):List (Str×CV):=[(So "pace",.int pace),(So "dress",.int dress),(So "line",.str (tx l)),(So "wide",.ref 1),(So "unseen",.ref 2),(So "text",.str (tx acc)),(So "place",.int place),(So "kind",.int kind),(So "size",.int size),(So "code",.int code),(So "move",.int move)]
noncomputable abbrev tZ(fr:List (Str×CV)):St:=⟨[(0,.frame fr),(1,.xN n_),(2,.list (ng.map .int))],3⟩
theorem tz:vG (eT tk) tZ:=⟨λzz=>rfl,λzz zz=>rfl⟩
seal aV cD SS eA bN d0 bH fH du cW eU fV dk gI fg kG SK SF m6
unseal st in
theorem Nr(B:aF G 4)(hh:G.A.handled=none)(td:place<l.length)(hl:l.length<=1000):SS G 1 (eT tk) (ai jy 0) (tZ (tF l dress pace acc place)) .next (tZ (tG l dress pace acc place (qI dress pace place) 1 (l.getD place 0:Nat) (nB dress pace place))):=by
 conv in ai jy 0=>whnf
 have hms:IntMulOk (place:Int) pace:=gZ (aA (aA td hl) (by decide));have hx:(tx l).cps[(place:Int).toNat]?=some (l.getD place 0):=by
  show l.toArray[place]?=_;simp[td]
 exact .to (.gH (.tuple (.cons (.bin (.bin (tz.loc rfl) (.bin (tz.loc rfl) (tz.loc rfl) (lI hms)) cE) .int (gq (by decide))) (.cons .int
  (.cons (.dP (.glob (vz B)) (.cons (.sub (tz.loc rfl) (tz.loc rfl) (Ak (aP _) hx (by rw[dT];exact bc hl (by decide)))) .nil) (Ov rfl))
  (.cons (.bin (.bin (tz.loc rfl) .int (jY (by decide) (by decide))) (.bin (tz.loc rfl) (tz.loc rfl) (lI hms)) cE) .nil)))) rfl)
  (.tuple hh (.name (.loc rfl) (.name (.loc rfl) (.name (.loc rfl) (.name (.loc rfl) .nil))))) (hw:=λenv h=>(bE h).trans (by kernel_rfl))) rfl
theorem K1(h0:0<=kind)(h1:kind<10):(oC.map CV.int)[kind.toNat]?=some (.int (oC.getD kind.toNat 0)):=kQ h0 h1
unseal st in
theorem YK{c: Nat}(B:aF G 4)(h0:0<=kind):SS G 1 (eT tk) (ai jy 1) (tZ (tG l dress pace acc place kind size c move)) .next (tZ (tG l dress pace acc place kind size (oA kind c) move)):=by
 conv in ai jy 1=>whnf
 by_cases h1:kind<11
 ·by_cases h2:kind<10
  ·have e:oA kind c=c+(119711+52*oC.getD kind.toNat 0):=(if_pos h1).trans (congrArg _ (if_pos h2))
   rw[e];refine .mM (σ1:=⟨[(3,.list (oC.map .int)),(0,.frame (tG l dress pace acc place kind size (c+(119711+52*oC.getD kind.toNat 0)) move)),(1,.xN n_),(2,.list (ng.map .int))],4⟩) (.to (.jK (b:=true) (.cmp (tz.loc rfl) .int (jv.to (decide_eq_true h1))) (.cons (.aug (.loc rfl rfl)
    (.jK (b:=true) (.cmp (tz.loc rfl) .int (jv.to (decide_eq_true h2))) (.bin .int (.bin .int (.sub (.list (.cons .int (.cons .int (.cons .int (.cons .int (.cons .int (.cons .int (.cons .int (.cons .int (.cons .int (.cons .int .nil)))))))))) rfl) (.loc rfl rfl)
     (ix (xs:=oC.map .int) rfl h0 (K1 h0 h2) (by decide))) (lI (gZ (by decide)))) cE)) oZ (.loc rfl)) .nil rfl)) rfl) ?_
   exact fz.mk [(1,1),(2,2)] rfl rfl ⟨⟨_,rfl,_,rfl,rfl,rfl,rfl,rfl,rfl,rfl,rfl,rfl,rfl,rfl,rfl,trivial⟩,⟨_,rfl,rfl⟩,⟨_,rfl,av⟩,trivial⟩
  ·have e:oA kind c=c+-32:=(if_pos h1).trans (congrArg _ (if_neg h2))
   rw[e];exact .to (.jK (b:=true) (.cmp (tz.loc rfl) .int (jv.to (decide_eq_true h1))) (.cons (.aug (.loc rfl rfl) (.jK (b:=false) (.cmp (tz.loc rfl) .int (jv.to (decide_eq_false h2))) (.un .int nz)) oZ (.loc rfl)) .nil rfl)) rfl
 ·have e:oA kind c=c:=if_neg h1
  rw[e];exact .jK (b:=false) (.cmp (tz.loc rfl) .int (jv.to (decide_eq_false h1))) .nil
noncomputable abbrev tM(l:List Nat)(dress pace:Int)(acc:List Nat)(place kind move:Int)(cs:Int×Int)(i:Nat)(fr:List (Str×CV)):St:=⟨[(4,.i6 3 i),(3,.list ([2,3].map .int)),(0,.frame (tG l dress pace acc place kind cs.2 cs.1 move++fr)),(1,.xN n_),(2,.list (ng.map .int))],5⟩
theorem Tr{fr: List (Str×CV)}:fz 5 (tM l dress pace acc place kind move cs i fr) (tM l dress pace acc place kind move cs i []):=
 fz.mk [] rfl rfl ⟨⟨_,rfl,rfl⟩,⟨_,rfl,av⟩,⟨_,rfl,_,rfl,rfl,rfl,rfl,rfl,rfl,rfl,rfl,rfl,rfl,rfl,rfl,trivial⟩,⟨_,rfl,rfl⟩,⟨_,rfl,av⟩,trivial⟩
theorem JU(td:place<l.length):Txt.slice (tx l) (some (place:Int)) (some ((place:Int)+((i+2:Nat):Int)))=tx ((l.drop place).take (i+2)):=by
 rw[BM (aP _) (Int.le_add_of_nonneg_right (aP _)) (Int.ofNat_le.mpr (bY td)),eK,Int.add_comm,Int.add_sub_cancel,eK]
unseal st in
theorem Nm(B:aF G 4)(hh:G.A.handled=none)(td:place<l.length)(hl:l.length<=1000):eA G 5 (eT tk) (fB (ai jy 2)) (tM l dress pace acc place kind move cs (i+1) [(So "many",.int ((i+2:Nat):Int))]) .next (tM l dress pace acc place kind move (j1 kind l place (i+2) cs) (i+1) [(So "many",.int ((i+2:Nat):Int))]):=by
 conv in fB _=>whnf
 have sl:dk G (.str (tx l)) (some (place:Int)) (some ((place:Int)+((i+2:Nat):Int))) none (tM l dress pace acc place kind move cs (i+1) [(So "many",.int ((i+2:Nat):Int))]) (.str (tx ((l.drop place).take (i+2)))) (tM l dress pace acc place kind move cs (i+1) [(So "many",.int ((i+2:Nat):Int))]):=
  JU td▸tw (by rw[dT];exact dn (ak hl (by decide)))
 by_cases hk:kind>11
 ·have hw:=Bv (tx ((l.drop place).take (i+2)))
  cases hv:qx (tx ((l.drop place).take (i+2)))with
  |none =>
   have e:j1 kind l place (i+2) cs=cs:=(if_pos hk).trans (by rw[hv]);rw[e];exact .cons (.jK (b:=false) (.vE (.cmp (.loc rfl rfl) .int (rS.to (decide_eq_true hk))) (.zV (.cmp (.slice (.loc rfl rfl) (.at (.loc rfl rfl)) (.at (.bin (.loc rfl rfl) (.loc rfl rfl) cE)) .no sl) (.loc rfl rfl) (rR rfl B.sys (by rw[hw,hv];rfl))))) .nil) .nil rfl
  |some v =>
   have e:j1 kind l place (i+2) cs=(v,((i+2:Nat):Int)):=(if_pos hk).trans (by rw[hv]);rw[e];exact .cons (.jK (b:=true) (.vE (.cmp (.loc rfl rfl) .int (rS.to (decide_eq_true hk))) (.zV (.cmp (.slice (.loc rfl rfl) (.at (.loc rfl rfl)) (.at (.bin (.loc rfl rfl) (.loc rfl rfl) cE)) .no sl) (.loc rfl rfl) (rR rfl B.sys (by rw[hw,hv];rfl)))))
    (.cons (.to (.swap (names:=[So "code",So "size"]) hh (.tuple (.cons (.sub (.loc rfl rfl) (.slice (.loc rfl rfl) (.at (.loc rfl rfl)) (.at (.bin (.loc rfl rfl) (.loc rfl rfl) cE)) .no sl) (Ec rfl (hw.trans hv))) (.cons (.loc rfl rfl) .nil)) rfl) rfl (.bind (.loc rfl) (.bind (.loc rfl) .nil)) (hw:=λenv h=>(bE h).trans (by kernel_rfl))) rfl) .nil rfl)) .nil rfl
 ·have e:j1 kind l place (i+2) cs=cs:=if_neg hk
  rw[e];exact .cons (.jK (b:=false) (.CZ (.cmp (.loc rfl rfl) .int (rS.to (decide_eq_false hk)))) .nil) .nil rfl
theorem Nv(h:i<2):(([2,3]:List Int).map CV.int)[i]?=some (.int ((i+2:Nat):Int)):=by
 cases i with
 |zero=>rfl
 |succ i=>cases i with
  |zero=>rfl
  |succ i=>exact absurd h (Nat.not_lt.mpr (Nat.le_add_left 2 i))
unseal st in
theorem Nn(B:aF G 4)(hh:G.A.handled=none)(td:place<l.length)(hl:l.length<=1000):SS G 1 (eT tk) (ai jy 2) (tZ (tG l dress pace acc place kind size code move)) .next
  (tZ (tG l dress pace acc place kind (CP kind l place (code,size) 2).2 (CP kind l place (code,size) 2).1 move)):=by
 conv in ai jy 2=>whnf
 refine .mM (SS.for (m':=5) (it:=4) 2 (λi=>tM l dress pace acc place kind move (CP kind l place (code,size) i) i []) rfl (by decide) (by decide) (.list (.cons .int (.cons .int .nil)) rfl) (cM rfl) (λi hi=>?_) (D.list hh rfl rfl rfl))
  (fz.mk [(1,1),(2,2)] rfl rfl ⟨⟨_,rfl,_,rfl,rfl,rfl,rfl,rfl,rfl,rfl,rfl,rfl,rfl,rfl,rfl,trivial⟩,⟨_,rfl,rfl⟩,⟨_,rfl,av⟩,trivial⟩)
 rw[CO hi];exact⟨_,⟨_,_,_,X.names rfl rfl (Nv hi),.name (.loc rfl),Nm (acc:=acc) (dress:=dress) (pace:=pace) (kind:=kind) (move:=move) (cs:=CP kind l place (code,size) i) (i:=i) B hh td hl⟩,Tr⟩
theorem Ae(h:a.length+b.length<=2^20):(tx a).length+(tx b).length<=bC:=by rw[dT,dT];exact dn h
theorem vF(h:a.length+b.length<=2^20):bH G (ft .Add) (.str (tx a)) (.str (tx b)) σ (.str (tx (a++b))) σ:=D1 a b▸yS (Ae h)
theorem Ka(h:a.length+b.length<=2^20):bH G (inplaceOp .Add) (.str (tx a)) (.str (tx b)) σ (.str (tx (a++b))) σ:=D1 a b▸wL (Ae h)
theorem PQ{b: Bool}:bH G (ft .Mult) (.str (tx a)) (.bool b) σ (.str (tx (if b then a else []))) σ:=by
 cases b
 ·exact mN
 ·exact mN
theorem qo{i: Int}(h0:0<=i)(h1:i<=1114111):bN G (λvs=>call (.builtin "chr") vs) [.int i] σ (.str (tx [i.toNat])) σ:=aaM h0 h1
theorem nW(B:aF G n):Glob G (So "chr") (.builtin "chr"):=B.blt (λzz zz zz zz=>by kernel_rfl) (λzz zz zz zz=>by kernel_rfl)
theorem Az{α:Type}{b: Bool}{x:α}:(if b then [x]else []).length<=1:=by cases b<;>simp
theorem DX{j: Int}(h0:0<=j)(h1:j<27):(ng.map CV.int)[j.toNat]?=some (.int (ng.getD j.toNat 0)):=kQ h0 h1
noncomputable abbrev Ll(move code:Int):List Nat:=(if(move.fmod 3==0)=true then [(ng.getD ((move.fdiv 3).fmod 27).toNat 0).toNat]else [])++[code.toNat]
theorem BP:(Ll move code).length<=2:=by
 rw[aC];exact Nat.add_le_add_right Az 1
unseal st in
theorem Nq(B:aF G 4)(hc:0<=code/\code<=200000)(CA:acc.length<=10000):eA G 1 (eT tk) [ai jy 3,ai jy 4] (tZ (tG l dress pace acc place kind size code move)) .next (tZ (tG l dress pace (acc++Ll move code) (place+size) kind size code move)):=by
 conv in ai jy 3=>whnf
 conv in ai jy 4=>whnf
 have XZ:0<=(move.fdiv 3).fmod 27:=bS _ (by decide);have hj1:(move.fdiv 3).fmod 27<27:=c9 _ (by decide);have hr:=IP ((move.fdiv 3).fmod 27).toNat;exact .cons (.to (.aug (.loc rfl rfl) (.bin (.bin (.dP (.glob (nW B)) (.cons (.sub (.loc rfl rfl) (.bin (.bin (.loc rfl rfl) .int (jY (by decide) (by decide))) .int (gq (by decide))) (ix rfl XZ (DX XZ hj1) (by decide))) .nil) (qo hr.1 (aQ hr.2 (by decide))))
   (.cmp (.bin (.loc rfl rfl) .int (gq (by decide))) .int rT) PQ) (.dP (.glob (nW B)) (.cons (.loc rfl rfl) .nil) (qo hc.1 (aQ hc.2 (by decide)))) (vF (ak (Nat.add_le_add_right Az 1) (by decide))))
   (Ka (ak (gu CA BP) (by decide))) (.loc rfl)) rfl)
  (.cons (.to (.aug (.loc rfl rfl) (.loc rfl rfl) oZ (.loc rfl)) rfl) .nil rfl) rfl
end
section
variable{G:Gv}{tk n place:Nat}{l acc:List Nat}{dress pace kind size code move:Int}{σ:St}{a p:Nat}
seal aV cD SS eA bN d0 bH fH du cW eU fV dk gI fg kG SK SF m6
noncomputable abbrev NH(l:List Nat)(dress pace:Int):List (Str×CV):=[(So "pace",.int pace),(So "dress",.int dress),(So "line",.str (tx l))]
theorem yw:([Rr,Rq,Bx]:List Str).Nodup:=by decide +kernel
unseal st in
theorem IV(B:aF G 4):SS G 1 (eT tk) (ai (fB (st 16)) 0) ⟨[(0,.frame (NH l dress pace))],1⟩ .next ⟨[(1,.xN n_),(0,.frame (NH l dress pace++[(So "wide",.ref 1)]))],2⟩:=by
 conv in ai (fB (st 16)) 0=>whnf
 exact .to (.assign (.dict [((Rr,0,⟨107,12,107,16⟩),64256,0,⟨107,18,107,23⟩),((Rq,0,⟨107,25,107,29⟩),64257,0,⟨107,31,107,36⟩),((Bx,0,⟨107,38,107,43⟩),64259,0,⟨107,45,107,50⟩)] rfl rfl yw) (.loc rfl)) rfl
unseal st in
theorem IU(B:aF G 4)(hh:G.A.handled=none):SS G 1 (eT tk) (ai (fB (st 16)) 1) ⟨[(1,.xN n_),(0,.frame (NH l dress pace++[(So "wide",.ref 1)]))],2⟩ .next ⟨[(0,.frame (NH l dress pace++[(So "wide",.ref 1),(So "unseen",.ref 2)])),(1,.xN n_),(2,.list (ng.map .int))],3⟩:=by
 conv in ai (fB (st 16)) 1=>whnf
 refine .mM (σ1:=⟨[(5,.list (ng.map .int)),(4,.list (eN 65024 1 16)),(3,.gQ 65024 65040 1),(2,.list [.int 173,.int 847,.int 6150,.int 6155,.int 6156,.int 6157,.int 8203,.int 8204,.int 8205,.int 8288,.int 65279]),(1,.xN n_),(0,.frame (NH l dress pace++[(So "wide",.ref 1),(So "unseen",.ref 5)]))],6⟩)
  (.to (.assign (.bin (.list (.cons .int (.cons .int (.cons .int (.cons .int (.cons .int (.cons .int (.cons .int (.cons .int (.cons .int (.cons .int (.cons .int .nil))))))))))) rfl)
  (.gi (.glob (me B)) (.cons (.gi (.glob (dC B)) (.cons .int (.cons .int .nil)) rM) .nil) (oy (n:=16) hh rfl (by kernel_rfl) (by kernel_rfl) (by decide)))
  (add_lists rfl rfl (by decide))) (.loc rfl)) (by kernel_rfl)) (fz.mk [(1,1),(2,5)] rfl rfl ⟨⟨_,rfl,_,rfl,rfl,rfl,rfl,rfl,rfl,trivial⟩,⟨_,rfl,rfl⟩,⟨_,rfl,av⟩,trivial⟩)
unseal st in
theorem IT(B:aF G 4)(hh:G.A.handled=none):SS G 1 (eT tk) (ai (fB (st 16)) 2) ⟨[(0,.frame (NH l dress pace++[(So "wide",.ref 1),(So "unseen",.ref 2)])),(1,.xN n_),(2,.list (ng.map .int))],3⟩ .next (tZ (tF l dress pace [] ((0:Nat):Int))):=by
 conv in ai (fB (st 16)) 2=>whnf
 exact .to (.gH (.tuple (.cons .str (.cons .int .nil)) rfl) (.tuple hh (.name (.loc rfl) (.name (.loc rfl) .nil))) (hw:=λenv h=>(bE h).trans (by kernel_rfl))) (by kernel_rfl)
theorem HP:jy=[ai jy 0,ai jy 1,ai jy 2,ai jy 3,ai jy 4]:=by kernel_rfl
theorem Tp{q: Int}:fz 1 (tZ (tG l dress pace acc q kind size code move)) (tZ (tF l dress pace acc q)):=
 fz.mk [(1,1),(2,2)] rfl rfl ⟨⟨_,rfl,_,rfl,rfl,rfl,rfl,rfl,rfl,rfl,rfl,trivial⟩,⟨_,rfl,rfl⟩,⟨_,rfl,av⟩,trivial⟩
noncomputable def rB(dress pace:Int)(l:List Nat):Nat->Nat->Nat
 |0,place=>place
 |n+1,place=>if place<l.length then rB dress pace l n (place+(iQ dress pace l place).2.toNat)else place
theorem vV(h:¬place<l.length):jO dress pace l n place acc=acc/\rB dress pace l n place=place:=by
 cases n with
 |zero=>exact⟨rfl,rfl⟩
 |succ n=>exact⟨if_neg h,if_neg h⟩
noncomputable def uD(dress pace:Int)(l:List Nat):Nat:=rB dress pace l l.length 0
theorem Nt(B:aF G 4)(hh:G.A.handled=none)(td:place<l.length)(hl:l.length<=1000)(hc:32<=l.getD place 0/\l.getD place 0<=200)(CA:acc.length<=10000):
  eA G 1 (eT tk) jy (tZ (tF l dress pace acc place)) .next (tZ (tG l dress pace (acc++ke dress pace l place) (place+(iQ dress pace l place).2) (qI dress pace place) (iQ dress pace l place).2 (iQ dress pace l place).1 (nB dress pace place))):=
 .text HP (.cons (Nr B hh td hl) (.cons (YK B (xm _ _ _).1) (.cons (Nn B hh td hl) (Nq B ⟨(pz hc).1,(pz hc).2.1⟩ CA) rfl) rfl) rfl)
theorem IQ{k x: Nat}{s: Int}(h1:l.length<=p+(k+1))(h2:a<=2*p)(h3:1<=s)(h4:s<=3)(hp:p<l.length)(hx:x<=2):l.length<=p+s.toNat+k/\a+x<=2*(p+s.toNat)/\p+s.toNat<=l.length+2:=by
 refine dX (cu (show 0<=s by lia)) λj ja=>?_;obtain rfl:=ja;rw[eK];exact⟨by lia,by lia,by lia⟩
theorem DY(h:p<=l.length+2)(hl:l.length<=1000)(ha:a<=2*p):a<=10000:=by lia
theorem vp(hc:∀c∈l,32<=c/\c<=200)(ij:place<l.length):32<=l.getD place 0/\l.getD place 0<=200:=by
 rw[aB,aD ij];exact hc _ (fm _)
theorem IS{e: Env}{qQ: Expr}{body: List Stmt}{pos: Pos}{S:List Nat->Nat->St}(hb:EB 1 e=true)(hc:∀c∈l,32<=c/\c<=200)(hl:l.length<=1000)(hT:∀acc place,cD G e qQ (S acc place) (decide ((place:Int)<l.length)) (S acc place))
  (hB:∀acc place,place<l.length->acc.length<=10000->∃τ,eA G 1 e body (S acc place) .next τ/\fz 1 τ (S (acc++ke dress pace l place) (place+(iQ dress pace l place).2.toNat))):
  SS G 1 e (.While qQ body [] pos) (S [] 0) .next (S (j_ dress pace l) (uD dress pace l)):=by
 refine .yx (λn σ=>∃acc place,σ=S acc place/\jO dress pace l n place acc=j_ dress pace l/\rB dress pace l n place=uD dress pace l/\l.length<=place+n/\acc.length<=2*place/\place<=l.length+2) l.length
  ⟨[],0,rfl,rfl,rfl,bK (fh _).symm,aG 0,aW _⟩ hb ?_
 intro n _ vQ;refine Dt (vQ) λacc place oS X0 hp hn CA hpb=>?_;obtain rfl:=oS;have hT:=hT acc place;by_cases ij:place<l.length
 ·cases n with
  |zero=>exact absurd ij (Nat.not_lt.mpr hn)
  |succ n =>
  have X6:=pz (dress:=dress) (pace:=pace) (l:=l) (place:=place) (vp hc ij);refine ri (IQ (x:=(ke dress pace l place).length) hn CA X6.2.2.1 X6.2.2.2 ij (tA _ _ _ _)) λs1 s2 s3=>?_;unfold jO at X0;unfold rB at hp;rw[if_pos ij]at X0 hp;rw[decide_eq_true (Int.ofNat_lt.mpr ij)]at hT;refine aH (hB acc place ij (DY hpb hl CA)) λτ b1 b2=>?_;exact .inr ⟨_,τ,_,n,hT,b1,b2,bg n,acc++ke dress pace l place,place+(iQ dress pace l place).2.toNat,rfl,X0,hp,s1,by rw[aC];exact s2,s3⟩
 ·obtain⟨e1,e2⟩:=vV (dress:=dress) (pace:=pace) (acc:=acc) (n:=n) ij
  rw[←X0,←hp,e1,e2];rw[decide_eq_false λh=>ij (Int.ofNat_lt.mp h)]at hT;exact .inl hT
theorem zg(hl:l.length<=1000):bN G (λvs=>call (.builtin "len") vs) [.str (tx l)] σ (.int l.length) σ:=by
 have:=GG (G:=G) (σ:=σ) (x:=tx l) (by rw[dT];exact bc hl (by decide))
 rwa [dT]at this
unseal st in
theorem Np(B:aF G 4)(hh:G.A.handled=none)(hl:l.length<=1000)(hc:∀c∈l,32<=c/\c<=200):SS G 1 (eT tk) (ai (fB (st 16)) 3) (tZ (tF l dress pace [] ((0:Nat):Int))) .next (tZ (tF l dress pace (j_ dress pace l) (uD dress pace l))):=by
 have bt:=λ(acc:List Nat)(place:Nat)(ij:place<l.length)(ha:acc.length<=10000)=>Nt (tk:=tk) (dress:=dress) (pace:=pace) B hh ij hl (vp hc ij) ha
 conv in ai (fB (st 16)) 3=>whnf
 refine IS (S:=λacc place=>tZ (tF l dress pace acc (place:Nat))) rfl hc hl (λacc place=>.cmp (.loc rfl rfl) (.dP (.glob (ey B)) (.cons (.loc rfl rfl) .nil) (zg hl)) jv) λacc place ij ha=>⟨_,bt acc place ij ha,?_⟩;have X6:=pz (dress:=dress) (pace:=pace) (l:=l) (place:=place) (vp hc ij);have e:(place:Int)+(iQ dress pace l place).2=((place+(iQ dress pace l place).2.toNat:Nat):Int):=by
  rw[i8,eV (aQ (by decide) X6.2.2.1)]
 exact e▸Tp
unseal st in
theorem Tq{m: Nat}:eA G m (eT tk) [ai (fB (st 16)) 4] (tZ (tF l dress pace acc place)) (.ret (.str (tx acc))) (tZ (tF l dress pace acc place)):=by
 conv in ai (fB (st 16)) 4=>whnf
 exact .stop (.ret (.loc rfl rfl)) rfl
theorem Ud(tk:Nat):iW (n8 16 Cb tk 216) (fB (st 16)) []:=⟨rfl,rfl,λL=>by kernel_rfl,rfl,by kernel_rfl,by kernel_rfl,by kernel_rfl,by kernel_rfl⟩
theorem Xf{tk s}(a b c:af):bW s (n8 16 Cb tk 216) ⟨[a,b,c],[]⟩ [(So "line",a),(So "dress",b),(So "pace",c)]:=cj (K:=[]) (λzz zz h=>nomatch h) λS=>by kernel_rfl
theorem VU{a b c: CV}{P:AM->aq->List af->List af->Prop}(h:∀α s v w x,GS G α σ s->VR α s.heap a v->VR α s.heap b w->VR α s.heap c x->P α s [v,w,x] []):∀α s vs ws,GS G α σ s->dq α s.heap [a,b,c] vs->dq α s.heap [] ws->P α s vs ws:=by
 intro α s _ _ g o9 o8;refine c_ λj7 ef=>?_;obtain⟨va,_,rfl,ra,vx,_,rfl,rx,vl,_,rfl,rl,rfl⟩:=o9;obtain rfl:=o8;refine ef ?_;exact h α s va vx vl g ra rx rl
theorem TK(B:aF G 5)(hh:G.A.handled=none)(hl:l.length<=1000)(hc:∀c∈l,32<=c/\c<=200):SK G (λvs ws=>call (.ref 217) vs ([].zip ws)) [.str (tx l),.int dress,.int pace] [] σ (.str (tx (j_ dress pace l))) σ:=
 SK.free (τ1:=tZ (tF l dress pace (j_ dress pace l) (uD dress pace l))) (λh k=>by
  have B':=B.ext k;refine aH (B'.Bm) λtk D C=>?_;exact SK.fy (names:=[]) (m:=1) (f:=.ret (.str (tx (j_ dress pace l)))) (rb:=NH l dress pace) B'.dH D B'.dG C (Ud tk) (VU λα s u v w g q1 q2 q3=>⟨_,Xf u v w,rfl,.aT q3 (.aT q2 (.aT q1 cf))⟩) (by kernel_rfl) rfl (by kernel_rfl) λenv =>
   .text (show fB (st 16)=[ai (fB (st 16)) 0,ai (fB (st 16)) 1,ai (fB (st 16)) 2,ai (fB (st 16)) 3,ai (fB (st 16)) 4] by kernel_rfl) (.cons (IV B'.deep) (.cons (IU B'.deep hh) (.cons (IT B'.deep hh) (.cons (Np B'.deep hh hl hc) Tq rfl) rfl) rfl) rfl)) (λzz=>rfl) λzz=>rfl
end
section
set_option maxHeartbeats 4000000
noncomputable abbrev cC:Nat:=137
noncomputable abbrev Ba:Nat:=74
noncomputable abbrev t5:Nat:=81
noncomputable abbrev xG:Nat:=97
noncomputable abbrev CH:Nat:=104
noncomputable abbrev mI:Nat:=134
noncomputable def k5(P:ae):Frag:=[(2,boot_o_2 P),(61,E9 P),(73,E7 P),(74,E6 P),(80,E5 P),(81,E4 P),(96,E3 P),(97,E2 P),(103,tJ P),(104,wY P),(133,wX P),(134,wV P),(136,AG P),(137,wU P)]
theorem K7(P:ae)(f:Nat->Obj)(kt tk:Nat):(k5 P).In (fw P f kt tk):=Frag.in_of (as:=[2,61,73,74,80,81,96,97,103,104,133,134,136,137]) rfl (by kernel_rfl)
theorem aF.K{G n}(B:aF G n):(k5 G.w.params).In G.h₀:=B.Wa [2,61,73,74,80,81,96,97,103,104,133,134,136,137] K7 (λP=>rfl) (by kernel_rfl)
theorem qg(P:ae):Kl (k5 P) cC:=⟨by kernel_rfl,by kernel_rfl,by kernel_rfl⟩
theorem GL(P:ae):fx (k5 P) (.ref cC) (aE "push")=some (some (.ref t5))/\typeIn (k5 P) (.ref t5)=some (.type "function"):=⟨by kernel_rfl,by kernel_rfl⟩
theorem AV(P:ae):fx (k5 P) (.ref cC) (aE "pop")=some (some (.ref xG))/\typeIn (k5 P) (.ref xG)=some (.type "function"):=⟨by kernel_rfl,by kernel_rfl⟩
theorem lu(P:ae):fx (k5 P) (.ref cC) (aE "part_count")=some (some (.ref mI))/\typeIn (k5 P) (.ref mI)=some (.type "function"):=⟨by kernel_rfl,by kernel_rfl⟩
theorem LG(P:ae):fx (k5 P) (.ref cC) (aE "__len__")=some (some (.ref CH))/\typeIn (k5 P) (.ref CH)=some (.type "function"):=⟨by kernel_rfl,by kernel_rfl⟩
theorem GN(P:ae):fx (k5 P) (.ref cC) (aE "__init__")=some (some (.ref Ba))/\typeIn (k5 P) (.ref Ba)=some (.type "function"):=⟨by kernel_rfl,by kernel_rfl⟩
theorem xn(P:ae):fx (k5 P) (.ref cC) (aE "append")=some (some (.builtin "list.append"))/\typeIn (k5 P) (.builtin "list.append")=some (.type "method_descriptor"):=⟨by kernel_rfl,by kernel_rfl⟩
theorem P5(P:ae):fx (k5 P) (.ref cC) (aE "__iter__")=some (some (.builtin "list.__iter__")):=by kernel_rfl
theorem J9(P:ae):o4 (k5 P) cC=true:=by kernel_rfl
theorem U8(P:ae):mroIn (k5 P) cC (.type "module")=some false:=by kernel_rfl
theorem U7(P:ae):typeIn (k5 P) (.ref cC)=some (.type "type"):=by kernel_rfl
theorem Cs(P:ae):alongIn (k5 P) (aE "__len__") [.type "list",.type "object"]=some (some (.builtin "list.__len__")):=by kernel_rfl
theorem Cr(P:ae):alongIn (k5 P) (aE "pop") [.type "list",.type "object"]=some (some (.builtin "list.pop")):=by kernel_rfl
theorem zl(P:ae):alongIn (k5 P) (aE "__init__") [.type "list",.type "object"]=some (some (.builtin "list.__init__")):=by kernel_rfl
theorem Ct(P:ae):fx (k5 P) (.ref cC) (aE "__setattr__")=some (some (.builtin "object.__setattr__")):=by kernel_rfl
theorem J8(P:ae):takerIn (k5 P) cC (aE "_initial_size")=some none:=by kernel_rfl
noncomputable abbrev eH:Str:=Sx [99,112,121,51,49,51,46,101,109,97,105,108,46,104,101,97,100,101,114]
noncomputable abbrev Wd(k:Nat)(name qual:Str)(clo:List (Str×Addr))(d c ct:af):cm:=
 {name:=name,qualname:=qual,params:=fA (cst k),body:=.stmts (fB (cst k)),scope:=fS (cst k),globals:=3,closure:=clo,defaults:=d,kwdefaults:=N,doc:=N,pyModule:=.str eH 250,annotations:=none,code:=c,closureTuple:=ct,builtins:=0}
noncomputable abbrev QH:Str:=Sx [95,95,99,108,97,115,115,95,95]
noncomputable abbrev PN:Str:=Sx [112,97,114,116,95,99,111,117,110,116]
noncomputable abbrev Ob:Str:=Sx [95,65,99,99,117,109,117,108,97,116,111,114,46,112,97,114,116,95,99,111,117,110,116]
noncomputable abbrev ly:cm:=Wd 8 PN Ob [(QH,61)] N (R 133) (R 127)
noncomputable abbrev ZE:Str:=Sx [112,111,112]
noncomputable abbrev Zd:Str:=Sx [95,65,99,99,117,109,117,108,97,116,111,114,46,112,111,112]
noncomputable abbrev sk:cm:=Wd 3 ZE Zd [(QH,61)] N (R 96) (R 90)
noncomputable abbrev UY:Str:=Sx [95,95,105,110,105,116,95,95]
noncomputable abbrev T4:Str:=Sx [95,65,99,99,117,109,117,108,97,116,111,114,46,95,95,105,110,105,116,95,95]
noncomputable abbrev sm:cm:=Wd 0 UY T4 [(QH,61)] (R 66) (R 73) (R 67)
noncomputable abbrev UX:Str:=Sx [112,117,115,104]
noncomputable abbrev T2:Str:=Sx [95,65,99,99,117,109,117,108,97,116,111,114,46,112,117,115,104]
noncomputable abbrev sj:cm:=Wd 1 UX T2 [] N (R 80) N
noncomputable abbrev ZF:Str:=Sx [95,95,108,101,110,95,95]
noncomputable abbrev T3:Str:=Sx [95,65,99,99,117,109,117,108,97,116,111,114,46,95,95,108,101,110,95,95]
noncomputable abbrev A_:cm:=Wd 4 ZF T3 [] N (R 103) N
theorem aF.jf{G n a}{o:Obj}(B:aF G n)(h:(k5 G.w.params).lookup a=some o):G.h₀.get? a=some o:=B.K _ _ h
theorem qh(P:ae):(k5 P).lookup 134=some (wV P)/\(k5 P).lookup 133=some (wX P)/\(k5 P).lookup 97=some (E2 P)/\(k5 P).lookup 96=some (E3 P)/\(k5 P).lookup 74=some (E6 P)/\(k5 P).lookup 73=some (E7 P) /\
  (k5 P).lookup 81=some (E4 P)/\(k5 P).lookup 80=some (E5 P)/\(k5 P).lookup 104=some (wY P)/\(k5 P).lookup 103=some (tJ P)/\(k5 P).lookup 61=some (E9 P)/\(k5 P).lookup 137=some (wU P):=⟨rfl,rfl,rfl,rfl,rfl,rfl,rfl,rfl,rfl,rfl,rfl,rfl⟩
theorem Jk:∀f:Str,f=Sx [47,99,108,97,105,109,47,99,117,116,46,112,121]->((pw.main.file:Str)==f)=true:=by
 rintro f rfl;kernel_rfl
theorem Oc:(pw.main.scope.names.lookup ("super":Str)).isSome=false:=by kernel_rfl
theorem uc{id:String}{x:Nat}{M:fX}{h:Heap}(hk:lh id=some .slot)(ha:(match eB id with|some yg=>jE id yg ⟨[.ref x],[]⟩|none=>bA ())=bA ()):eO M h (fO id ⟨[.ref x],[]⟩) ():=by
 refine Looks.of_pure ?_;unfold fO;cases hs:eB id with
 |none=>rfl
 |some yg=>rw[hs]at ha;rw[hk];exact ha
theorem D0:typeOf (.builtin "list.__len__")=pure (.type "wrapper_descriptor"):=by show builtinType _=_;rw[builtinType_eq_fast];kernel_rfl
theorem Ad:typeOf (.builtin "list.__init__")=pure (.type "wrapper_descriptor"):=by show builtinType _=_;rw[builtinType_eq_fast];kernel_rfl
theorem DZ:typeOf (.builtin "list.pop")=pure (.type "method_descriptor"):=by show builtinType _=_;rw[builtinType_eq_fast];kernel_rfl
theorem KI(x:Nat)(M:fX)(h:Heap):eO M h (fO "list.__len__" ⟨[.ref x],[]⟩) ():=uc (by decide +kernel) (by kernel_rfl)
theorem HF(x:Nat)(M:fX)(h:Heap):eO M h (fO "list.__init__" ⟨[.ref x],[]⟩) ():=uc (by decide +kernel) (by kernel_rfl)
end
section
set_option maxHeartbeats 4000000
variable{G:Gv}{n x d:Nat}{xs:List CV}{k:Int}{σ:St}{C:Nat}{env:Env}{K:Frag}
theorem D_{f c: Nat}{fd: cm}{of oc: Obj}(B:aF G n)(ks:env.kindOf "super"=some .globalImplicit)(kc:env.kindOf "__class__"=some .free)(kd:env.scope.kind=.function)
  (hg:env.globals=3) (hb:env.builtins=0) (hfu:env.func=some f) (hf:G.h₀.get? f=some of) (hfd:of.data=.func fd) (hp:∃ar,(fd.params.posonlyargs++fd.params.args).head?=some ar/\ar.arg=aE "self")
  (zv:env.code=.ref c) (hc:G.h₀.get? c=some oc) (hv:∃vs tf,oc.data=.fields vs/\vs[2]?=some (.str (Sx [47,99,108,97,105,109,47,99,117,116,46,112,121]) tf)) (G4:env.cells.lookup (aE "__class__")=some 61):lA G (k5 G.w.params) cC env where
 ks:=ks
 kc:=kc
 kd:=kd
 gl:=hg
 bu:=hb
 sup:=B.blt (λzz zz zz zz=>by kernel_rfl) (λzz zz zz zz=>by kernel_rfl)
 fn:=let⟨ar,e1,e2⟩:=hp;⟨f,of,fd,ar,hfu,hf,hfd,e1,e2⟩
 code:=let⟨vs,tf,e1,e2⟩:=hv;⟨c,oc,vs,_,tf,zv,hc,e1,e2,by rw[B.pg];exact Jk _ rfl⟩
 top:=by rw[B.pg];exact Oc
 cell:=⟨61,G4,_,B.jf (qh _).2.2.2.2.2.2.2.2.2.2.1,rfl⟩
 cls:=⟨_,rfl,by kernel_rfl,by kernel_rfl⟩
 Zj:=by kernel_rfl
theorem KW{s}(a:af):bW s ly ⟨[a],[]⟩ [(So "self",a)]:=cj (K:=[]) (λzz zz h=>nomatch h) λS=>by kernel_rfl
theorem Xg{s}(a:af):bW s sk ⟨[a],[]⟩ [(So "self",a)]:=cj (K:=[]) (λzz zz h=>nomatch h) λS=>by kernel_rfl
theorem Xh{s}(a:af):bW s A_ ⟨[a],[]⟩ [(So "self",a)]:=cj (K:=[]) (λzz zz h=>nomatch h) λS=>by kernel_rfl
theorem QS{s}(a b c:af):bW s sj ⟨[a,b,c],[]⟩ [(So "self",a),(So "fws",b),(So "string",c)]:=cj (K:=[]) (λzz zz h=>nomatch h) λS=>by kernel_rfl
theorem lb1{a: CV}{P:AM->aq->List af->Prop}(h:∀α s v,GS G α σ s->VR α s.heap a v->P α s [v]):∀α s vs,GS G α σ s->dq α s.heap [a] vs->P α s vs:=by
 rintro α s _ g ⟨v,_,rfl,r,rfl⟩;exact h α s v g r
noncomputable abbrev Jd(σ:St)(x:Nat):St:=σ.push (.frame [(So "self",.ref x)])
unseal st cst in
theorem Nl{m: Nat}(B:aF G 1){e: Env}(he:e=entryE ly [] σ.n mI)(hx:(Jd σ x).get x=some (.cX cC d xs))(hd:(Jd σ x).get d=some (.size k)){P:Env->Prop}(hP:∀env,P env->lA G (k5 G.w.params) cC env){body: List Stmt}:
  uf G m e P body (fB (cst 8)) (Jd σ x) (.ret (.int xs.length)) (Jd σ x):=by
 subst he
 conv in fB (cst 8)=>whnf
 exact .ret (.super (qg _) B.K hP (by kernel_rfl) jc rfl hx hd (by decide) (Cs _) (Tn:="wrapper_descriptor") (λs=>D0) qV.lookup (.inr rfl)
  (λa s A Q E hi q=>cP qV D0 vT (Es Jq hi ⟨_,rfl,q⟩) (Ab _ _ _)) (by decide +kernel) PySem.F.entry_list_len (λh a ox od X I=>KI _ _ _) (Jg hx hd))
theorem lA.dp(e0:Env)(S:lA G K C env):lA (Mine.deep G e0) K C env:=S.deep
unseal st cst in
theorem zP(B:aF G 2)(hx:(Jd σ x).get x=some (.cX cC d xs))(hd:(Jd σ x).get d=some (.size k)):bN G (λvs=>call (.ref mI) vs) [.ref x] σ (.int xs.length) (Jd σ x):=by
 have kg:=qh G.w.params;have V1:=B.jf kg.1;have V2:=B.jf kg.2.1;exact SL.Hr (fd:=ly) (body:=fB (cst 8)) (rb:=[(So "self",.ref x)]) (f:=.ret (.int xs.length)) (m:=σ.n) (P:=lA G (k5 G.w.params) cC) B.dH ⟨_,V1,by kernel_rfl⟩ B.dG (dA V2 rfl rfl) rfl (lb1 λα s v g r=>⟨_,KW v,rfl,.aT r cf⟩) (by kernel_rfl) (by kernel_rfl)
  (λL=>D_ (f:=mI) (c:=133) B (by kernel_rfl) (by kernel_rfl) (by kernel_rfl) rfl rfl rfl V1 (fd:=ly) (by kernel_rfl) ⟨_,rfl,rfl⟩ rfl V2 ⟨_,_,rfl,rfl⟩ (by kernel_rfl)) (aG _)
  (λenv=>Nl B.deep rfl hx hd (λzz S=>S.dp env)) (by kernel_rfl) (by kernel_rfl) (by kernel_rfl)
theorem SK.ofL{g:List af->Sem af}{cs: List CV}{c: CV}{σ1: St}(h:bN G g cs σ c σ1):SK G (λvs zz=>g vs) cs [] σ c σ1:=by
 rintro α s vs _ E g0 r rfl;exact h α s vs E g0 r
noncomputable def yh:Nat->Nat->Str:=λzz zz=>T3++aE ".<locals>."++aE "<genexpr>"
noncomputable abbrev lF:Nat:=99
noncomputable abbrev pS(k:Int)(xs:List (Str×Str)):St:=sC cC lF yh k xs
noncomputable abbrev Rz(k:Int)(xs:List (Str×Str))(fr:List (Str×CV)):St:=⟨(3,.frame fr)::(pS k xs).objs,4⟩
variable{ps:List (Str×Str)}{p:Str×Str}{a b:Str}
theorem BY{i: Int}(kl:Kl K C)(X:K.In G.h₀)(e:σ.get x=some (.cX C d (ps.map gc)))(ed:σ.get d=some (.size i))(hf:ps.length<2^20):bN G (λvs=>call (.builtin "list.append") vs) [.ref x,.tup [.str a,.str b]] σ .none (σ.set x (.cX C d ((ps++[(a,b)]).map gc))):=by
 have:=wq (c:=.tup [.str a,.str b]) kl X e ed (by rw[aj];exact hf);rw[aY];exact this
unseal st cst in
theorem S4(B:aF G 1)(hf:ps.length<2^20):eA G 4 (entryE sj [] 3 t5) (fB (cst 1)) (Rz k ps [(So "string",.str b),(So "fws",.str a),(So "self",.ref 0)]) .next (Rz k (ps++[(a,b)]) [(So "string",.str b),(So "fws",.str a),(So "self",.ref 0)]):=by
 conv in fB (cst 1)=>whnf
 exact .cons (.to (.expr (.JR (qg _) B.K (xn _).1 (xn _).2 (.loc rfl rfl) rfl rfl (λtk t=>(shadow _ _ _ _).2.2.2) (.cons (.tuple (.cons (.loc rfl rfl) (.cons (.loc rfl rfl) .nil)) rfl) .nil) (BY (qg _) B.K rfl rfl hf))) rfl) .nil rfl
theorem OC:iW sj (fB (cst 1)) []:=⟨rfl,rfl,λL=>by kernel_rfl,rfl,rfl,by kernel_rfl,by kernel_rfl,by kernel_rfl⟩
theorem YY(B:aF G 2)(hf:ps.length<2^20):SK G (λvs ws=>call (.ref t5) vs ([].zip ws)) [.ref 0,.str a,.str b] [] (pS k ps) .none (Rz k (ps++[(a,b)]) [(So "string",.str b),(So "fws",.str a),(So "self",.ref 0)]):=
 have kg:=qh G.w.params
 SK.fy (names:=[]) (m:=4) (f:=.next) (rb:=[(So "string",.str b),(So "fws",.str a),(So "self",.ref 0)]) B.dH (fd:=sj) ⟨_,B.jf kg.2.2.2.2.2.2.1,by kernel_rfl⟩ B.dG (dA (B.jf kg.2.2.2.2.2.2.2.1) rfl rfl) OC
  (VU λα s u v w g q1 q2 q3=>⟨_,QS u v w,rfl,.aT q3 (.aT q2 (.aT q1 cf))⟩) (by kernel_rfl) rfl (by kernel_rfl) λenv=>S4 B.deep hf
theorem EN(x:Nat):∀yg,eB "list.pop"=some yg->jE "list.pop" {yg with full:=s!"{(Sx [95, 65, 99, 99, 117, 109, 117, 108, 97, 116, 111, 114] : Str).toString}.{Bind.lastOf "list.pop"}"} ⟨[.ref x],[]⟩=bA ():=by
 intro yg hs;have h:(match eB "list.pop" with|some yg=>jE "list.pop" {yg with full:=s!"{(Sx [95, 65, 99, 99, 117, 109, 117, 108, 97, 116, 111, 114] : Str).toString}.{Bind.lastOf "list.pop"}"} ⟨[.ref x],[]⟩|none=>bA ())=bA ():=by kernel_rfl
 rw[hs]at h;exact h
noncomputable abbrev Zi(k:Int)(xs:List (Str×Str)):St:=⟨(4,.frame [(So "self",.ref 0)])::(3,.frame [(So "self",.ref 0)])::(pS k xs).objs,5⟩
end
section
set_option maxHeartbeats 4000000
variable{G:Gv}{n x d m:Nat}{xs:List CV}{k:Int}{σ:St}{ps:List (Str×Str)}{p:Str×Str}
theorem Et{C: Nat}{i: Int}(e:σ.get x=some (.cX C d ((ps++[p]).map gc)))(ed:σ.get d=some (.size i))(hf:ps.length<2^20):Run G x de.«list.pop» σ (gc p) (σ.set x (.cX C d (ps.map gc))):=by
 rw[aY]at e;exact Jf e ed (by rw[aj];exact hf)
theorem Ej:((((ps++[p]).map gc).length:Int)==0)=false:=by
 rw[aj,aC];exact beq_false_of_ne λh=>by simp at h;lia
unseal st cst in
theorem Yr(B:aF G 2){P:Env->Prop}(hP:∀env,P env->lA G (k5 G.w.params) cC env){body: List Stmt}(hf:ps.length<2^20):
  uf G 4 (entryE sk [] 3 xG) P body (fB (cst 3)) (Jd (pS k (ps++[p])) 0) (.ret (gc p)) (Zi k ps):=by
 conv in fB (cst 3)=>whnf
 have kg:=qh G.w.params;exact .cons (.jK (b:=false) (.cmp (.mC (qg _) B.K (lu _).1 (lu _).2 (B.jf kg.1) (fd:=ly) (by kernel_rfl) (.loc rfl rfl) rfl rfl (λtk t=>(shadow _ _ _ _).2.2.1) .nil (zP B rfl rfl)) .int (rT.to Ej)) .nil)
  (.ret (.super (qg _) B.K hP (by kernel_rfl) rfl rfl rfl rfl (by decide) (Cr _) (Tn:="method_descriptor") (λs=>DZ) AK.lookup (.inl rfl)
   (λa s A Q E hi q=>cP AK DZ Gw (N_ (by decide +kernel) Jp hi ⟨_,rfl,q⟩) (JS _ _ _)) (by decide +kernel) PySem.F.entry_list_pop (λh a ox od X I=>KH X I (U8 _) (cd:=_) rfl (U7 _) (EN _)) (Et rfl rfl hf))) rfl
unseal st cst in
theorem S5(B:aF G 2){P:Env->Prop}{body: List Stmt}:
  uf G 4 (entryE sk [] 3 xG) P body (fB (cst 3)) (Jd (pS k []) 0) (.ret (gc (So "",So ""))) (Zi k []):=by
 conv in fB (cst 3)=>whnf
 have kg:=qh G.w.params;exact .jK (b:=true) (.cmp (.mC (qg _) B.K (lu _).1 (lu _).2 (B.jf kg.1) (fd:=ly) (by kernel_rfl) (.loc rfl rfl) rfl rfl (λtk t=>(shadow _ _ _ _).2.2.1) .nil (zP B rfl rfl)) .int rT)
  (.of (.stop (.ret (.tuple (.cons .str (.cons .str .nil)) rfl)) rfl)) rfl
unseal st cst in
theorem Zh{r: Str×Str}(B:aF G 3){q: List (Str×Str)}(hf:ps.length<2^20)(h:(ps=[]/\q=[]/\r=(So "",So ""))∨ps=q++[r]):SK G (λvs ws=>call (.ref xG) vs ([].zip ws)) [.ref 0] [] (pS k ps) (gc r) (Zi k q):=by
 have kg:=qh G.w.params;have h97:=B.jf kg.2.2.1;have h96:=B.jf kg.2.2.2.1;refine SK.ofL (SL.Hr (fd:=sk) (body:=fB (cst 3)) (rb:=[(So "self",.ref 0)]) (f:=.ret (gc r)) (m:=4) (P:=lA G (k5 G.w.params) cC) B.dH ⟨_,h97,by kernel_rfl⟩ B.dG (dA h96 rfl rfl) rfl (lb1 λα s v g r=>⟨_,Xg v,rfl,.aT r cf⟩) (by kernel_rfl) (by kernel_rfl)
  (λL=>D_ (f:=xG) (c:=96) B (by kernel_rfl) (by kernel_rfl) (by kernel_rfl) rfl rfl rfl h97 (fd:=sk) (by kernel_rfl) ⟨_,rfl,rfl⟩ rfl h96 ⟨_,_,rfl,rfl⟩ (by kernel_rfl)) (show 3<=4 by decide)
  (λenv=>?_) (by kernel_rfl) (by kernel_rfl) (by kernel_rfl))
 rcases h with⟨rfl,rfl,rfl⟩|rfl
 ·exact S5 B.deep
 ·exact Yr B.deep (λzz S=>S.dp env) (by rw[aC]at hf;exact bc (bj _ _) hf)
end
section
set_option maxHeartbeats 4000000
variable{G:Gv}{n x d m t:Nat}{xs:List CV}{k:Int}{σ:St}{ps:List (Str×Str)}
theorem U3(P:ae)(f:Nat->Obj)(kt tk:Nat):(fw P f kt tk).nsMap 3 (So "len")=none/\(fw P f kt tk).nsMap 0 (So "len")=some (.builtin "len"):=⟨by kernel_rfl,by kernel_rfl⟩
theorem aF.UZ(B:aF G n)(P:Nat)(hP:4≠P):∃mg mb,G.h₀.Ns fG mg/\G.h₀.BuiltinsAt mg P/\mg (So "len")=none/\G.h₀.Ns builtinsNs mb/\mb (So "len")=some (.builtin "len"):=by
 obtain⟨f,kt,tk,es,ep,_,_,c⟩:=B.heap;exact⟨(fw G.w.params f kt tk).nsMap 3,(fw G.w.params f kt tk).nsMap 0,Ns.of (gA (tR _ _ _ _)) λo=>c _ o (by rfl),⟨4,boot_o_4 G.w.params,Xd _ _ _ _,by decide,by decide,hP,c _ _ (by rfl) (at4 _ _ _ _),rfl,rfl,rfl⟩,(U3 _ _ _ _).1,
  Ns.of (gA (LJ _ _ _ _)) λo=>c _ o (by rfl),(U3 _ _ _ _).2⟩
theorem aF.in1(B:aF G (n+1)):aF (GU G) n:=⟨(B.le (m:=n) (Nat.ble_eq.mpr (ip n))).room,B.hh,B.pg,by have:=B.un;show G.A.units+1+10*n<9000;lia,B.heap⟩
theorem KO(B:aF G n):Glob G (So "sum") (.builtin "sum"):=B.blt (λzz zz zz zz=>by kernel_rfl) (λzz zz zz zz=>by kernel_rfl)
unseal st cst in
theorem Ys(B:aF G 1)(hk:(decide (-(2^63)<=k)&&decide (k<2^63))=true)(n5:∀p∈ps,p.1.length<2^60/\p.2.length<2^60):
  eA G m (entryE A_ [] 3 CH) (fB (cst 4)) (Rz k ps [(So "self",.ref 0)]) (.ret (.int (k+(kR ps).sum))) (Rz k ps [(So "self",.ref 0)]):=by
 obtain⟨mg,mb,Ij,uT,Qf,hmb,Qh⟩:=B.UZ lF (by decide);have aaD:=B.jf (qh G.w.params).2.2.2.2.2.2.2.2.2.1
 conv in fB (cst 4)=>whnf
 exact .stop (.ret (D' (c:=103) (P:=lF) (q:=yh) (d:=1) (k:=2) (mg:=mg) (mb:=mb) B.hh B.dH B.dG (qg _) B.K (P5 _) (by kernel_rfl) rfl rfl rfl rfl (λtk t=>by kernel_rfl) hk n5 (KO B) (by kernel_rfl) rfl rfl rfl
  (ql aaD rfl rfl rfl rfl rfl rfl rfl rfl rfl) rfl rfl Ij Qf uT hmb Qh rfl (by kernel_rfl) (by decide) rfl rfl rfl (by decide) rfl rfl (by decide) (by decide))) rfl
theorem Ue:iW A_ (fB (cst 4)) []:=⟨rfl,rfl,λL=>by kernel_rfl,rfl,rfl,by kernel_rfl,by kernel_rfl,by kernel_rfl⟩
theorem TQ(B:aF G 2)(hk:(decide (-(2^63)<=k)&&decide (k<2^63))=true)(n5:∀p∈ps,p.1.length<2^60/\p.2.length<2^60):
  SK G (λvs ws=>call (.ref CH) vs ([].zip ws)) [.ref 0] [] (pS k ps) (.int (k+(kR ps).sum)) (Rz k ps [(So "self",.ref 0)]):=
 have kg:=qh G.w.params
 SK.fy (names:=[]) (m:=4) (f:=.ret (.int (k+(kR ps).sum))) (rb:=[(So "self",.ref 0)]) B.dH (fd:=A_) ⟨_,B.jf kg.2.2.2.2.2.2.2.2.1,by kernel_rfl⟩ B.dG (dA (B.jf kg.2.2.2.2.2.2.2.2.2.1) rfl rfl) Ue
  (zw λα s u g q=>⟨_,Xh u,rfl,.aT q cf⟩) (by kernel_rfl) rfl (by kernel_rfl) λenv=>Ys B.deep hk n5
theorem GH(B:aF G 3)(hx:σ.get x=some (.cX cC d (ps.map gc)))(hd:σ.get d=some (.size k))(ht:σ.get t=some (.tab lF yh))(hk:(decide (-(2^63)<=k)&&decide (k<2^63))=true)(n5:∀p∈ps,p.1.length<2^60/\p.2.length<2^60)
  (h0:0<=k+(kR ps).sum) (h1:k+(kR ps).sum<2^63):bN G (λvs=>call (.builtin "len") vs) [.ref x] σ (.int (k+(kR ps).sum)) σ:=by
 have h:=SK.Aw (G:=GU G) (f:=λvs ws=>call (.ref CH) vs ([].zip ws)) (cs0:=[]) hx hd ht (λh k'=>TQ (B.in1.ext k') hk n5) rfl rfl rfl (λzz=>rfl) λzz=>rfl;rw[St.set_same hx]at h;exact len_own B.K (LG _).1 (LG _).2 hx hd (SK.og (g:=λvs=>call (.ref CH) vs) h) h0 h1
end
section
set_option maxHeartbeats 4000000
variable{G:Gv}{n m:Nat}{k:Int}
theorem abd(P:ae)(f:Nat->Obj)(kt tk:Nat):(fw P f kt tk).get? 66=some (E8 P):=by kernel_rfl
unseal st cst in
theorem QT{s:aq}(h66:s.heap.get? 66=some (E8 G.w.params))(x v:af):bW s sm ⟨[x,v],[]⟩ [(So "self",x),(So "initial_size",v)]:=BindsTo.of_defaults (fd:=sm) (T:=66) rfl h66 rfl rfl rfl
theorem yy(A:b_)(C:Addr)(v:af):(A.under (.builtin "type.__call__" ⟨[.ref C,v],[]⟩)).depth=A.depth+1/\(A.under (.builtin "type.__call__" ⟨[.ref C,v],[]⟩)).handled=A.handled/\(A.under (.builtin "type.__call__" ⟨[.ref C,v],[]⟩)).units=A.units+1:=⟨by kernel_rfl,rfl,by kernel_rfl⟩
noncomputable abbrev iS(o:AO)(k:Int):St:=⟨[(2,.frame [(So "initial_size",.int k),(So "self",.ref 1)]),(1,.cX cC 0 []),(0,o)],3⟩
unseal st cst in
theorem S6(B:aF G 1){P:Env->Prop}(hP:∀env,P env->lA G (k5 G.w.params) cC env){body:List Stmt}:uf G 3 (entryE sm [] 2 Ba) P body (fB (cst 0)) (iS .bare k) .next (iS (.size k) k):=by
 conv in fB (cst 0)=>whnf
 exact .cons (.setField (K:=k5 G.w.params) (C:=cC) (d:=0) (xs:=[]) B.K (Ct _) rfl (by kernel_rfl) (by kernel_rfl) (J8 _) (.loc rfl rfl) (.loc rfl rfl) rfl rfl)
  (.expr (.super (qg _) B.K hP (by kernel_rfl) rfl rfl rfl rfl (by decide) (zl _) (Tn:="wrapper_descriptor") (λs=>Ad) qV.lookup (.inr rfl)
   (λa s A Q E hi q=>cP qV Ad vT (Es EU hi ⟨_,rfl,q⟩) (Ab _ _ _)) (by decide +kernel) PySem.F.entry_list_init (λh a ox od X I=>HF _ _ _) (Eu rfl rfl)) (.of .nil) rfl) rfl
theorem GS.DN{α σ s}{A:b_}(g:GS G α σ s):GS {G with A:=A} α σ s:=⟨g.own,g.ow,g.base,g.inj,g.new,g.lt,g.pW,g.os,g.bare⟩
theorem GS.Xl{α σ s}{A:b_}(g:GS {G with A:=A} α σ s):GS G α σ s:=⟨g.own,g.ow,g.base,g.inj,g.new,g.lt,g.pW,g.os,g.bare⟩
theorem aF.DN{A:b_}(B:aF G (n+1))(h:A.depth=G.A.depth+1/\A.handled=G.A.handled/\A.units=G.A.units+1):aF {G with A:=A} n:=
 ⟨by have:=B.room;show A.depth+n<_;rw[h.1];lia,h.2.1.trans B.hh,B.pg,by have:=B.un;show A.units+10*n<9000;rw[h.2.2];lia,B.heap⟩
unseal st cst in
theorem TP(B:aF G 3):SK G (λvs ws=>call (.ref cC) vs ([].zip ws)) [.int k] [] ⟨[],0⟩ (.ref 1) (iS (.size k) k):=by
 rintro α s _ _ E g ⟨_,_,rfl,⟨t,rfl⟩,rfl⟩ rfl;have X1:(k5 G.w.params).In s.heap:=λb o e=>(g.base b o (B.K b o e)).2;have hu:=yy G.A cC (.int k t);obtain⟨le,g2⟩:=g.make (C:=cC);obtain⟨hh,gg,dr,tk,os⟩:=s;refine iH (PS X1 (J9 _) (GN _).1 (GN _).2 ?_);generalize G.A.under (.builtin "type.__call__" ⟨[.ref cC,.int k t],[]⟩)=A' at hu;have B2:aF {G with A:=A'} 2:=B.DN hu;have kg:=qh G.w.params;have h74:=B.jf kg.2.2.2.2.1;have h73:=B.jf kg.2.2.2.2.2.1;refine qN (G:={G with A:=A'}) (fd:=sm) (body:=fB (cst 0)) (rb:=[(So "initial_size",.int k),(So "self",.ref 1)]) (f:=.next) (m:=3) (σ:=⟨[(1,.cX cC 0 []),(0,.bare)],2⟩) (P:=lA {G with A:=A'} (k5 G.w.params) cC) B2.dH ⟨_,h74,by kernel_rfl⟩ B2.dG (dA h73 rfl rfl) rfl
  ⟨_,QT (G:=G) (g2.base _ _ (B.at abd)).2 _ _,rfl,.aT m_ (.aT ⟨_,rfl,AM.gr (i:=1) (bg 1)⟩ cf)⟩ (by kernel_rfl) (by kernel_rfl)
  (λL=>D_ (f:=Ba) (c:=73) B2 (by kernel_rfl) (by kernel_rfl) (by kernel_rfl) rfl rfl rfl h74 (fd:=sm) (by kernel_rfl) ⟨_,rfl,rfl⟩ rfl h73 ⟨_,_,rfl,rfl⟩ (by kernel_rfl)) (by decide)
  (λenv=>S6 B2.deep (λzz S=>S.dp env)) g2.DN ?_ (by kernel_rfl) (by kernel_rfl) (by kernel_rfl)
 rintro v s' ⟨β,yi,g3,rfl⟩;exact⟨rfl,β,le.trans yi,g3.Xl,_,rfl,yi.le 1 trivial _ (AM.gr (i:=1) (bg 1))⟩
theorem P4(P:ae):keepIn (k5 P) (.ref cC)=true:=by kernel_rfl
end
section
theorem yB(a b:List Nat):(tx a==tx b)=(a==b):=by
 rw[Bool.eq_iff_iff,beq_iff_eq,beq_iff_eq];exact⟨λh=>by simpa using congrArg (λs:Str=>s.cps.toList) h,λh=>by rw[h]⟩
noncomputable def pM(b:Int):Nat:=(256+b).toNat
noncomputable def ig(st:List Int):List (Str×Str):=st.map λb=>(tx [32],tx [pM b])
noncomputable def eQ(p:Int×Int):CV:=.tup [.str (tx [32,pM p.1]),.str (tx [32,pM p.2])]
set_option genSizeOf false in
structure qv where
 laid:List Int
 mx:Nat
 bP:List (Int×Int)
 stack:List Int
noncomputable def bR(row:List Int)(room:Int)(S:qv)(box:Int):qv:=
 if row.any (·==box)then
  if(S.stack.length:Int)<room then {S with stack:=S.stack++[box],mx:=max S.mx (S.stack.length+1)}else {S with laid:=S.laid++[box]}
 else match S.stack.getLast? with
  |some c=>{S with stack:=S.stack.dropLast,laid:=S.laid++[box],bP:=S.bP++[(c,box)]}
  |none=>S
noncomputable def au(row:List Int)(room:Int)(n:Nat):qv:=(az n).foldl (λS (i:Nat)=>bR row room S (0+(i:Int))) ⟨[],0,[],[]⟩
theorem zf(st:List Int):(kR (ig st)).sum=2*st.length:=by
 unfold kR ig
 induction st with
 |nil=>rfl
 |cons b st ih =>
  simp only[ba,List.sum_cons,cq]at ih ⊢;rw[ih];simp[Str.length];lia
theorem BH(st:List Int):∀p∈ig st,p.1.length<2^60/\p.2.length<2^60:=by
 intro p hp;obtain⟨b,_,rfl⟩:=List.mem_map.mp hp;simp[Str.length]
theorem nH(row:List Int)(room:Int)(n:Nat):(au row room n).laid.length<=n/\(au row room n).bP.length<=n/\(au row room n).stack.length<=n/\(au row room n).mx<=n:=by
 induction n with
 |zero=>simp[au]
 |succ n ih =>
  have e:au row room (n+1)=bR row room (au row room n) (0+(n:Int)):=by
   unfold au;rw[dm,gV];rfl
  rw[e];generalize au row room n=S at ih;refine Aa (ih) λh1 h2 h3 h4=>?_;unfold bR
  split
  ·split
   ·refine⟨by simp;lia,by simp;lia,by simp;lia,?_⟩
    show max S.mx (S.stack.length+1)<=n+1;lia
   ·exact⟨by simp;lia,by simp;lia,by simp;lia,by simp;lia⟩
  ·split
   ·exact⟨by simp;lia,by simp;lia,by simp;lia,by simp;lia⟩
   ·exact⟨by lia,by lia,by lia,by lia⟩
theorem xQ(row:List Int)(room:Int)(n:Nat):∀b∈(au row room n).stack,b<n:=by
 induction n with
 |zero=>intro b hb;simp[au]at hb
 |succ n ih =>
  have e:au row room (n+1)=bR row room (au row room n) (0+(n:Int)):=by
   unfold au;rw[dm,gV];rfl
  rw[e];generalize au row room n=S at ih;unfold bR
  split
  ·split
   ·intro b hb
    simp only[List.mem_append,List.mem_singleton]at hb;rcases hb with hb|rfl
    ·have:=ih b hb;lia
    ·lia
   ·intro b hb;have:=ih b hb;lia
  ·split
   ·intro b hb
    have:=ih b ((List.dropLast_sublist _).subset hb);lia
   ·intro b hb;have:=ih b hb;lia
theorem Gp(a b:List Nat)(ha:a≠[]):iU (.tuple [.str (tx a),.str (tx b)]) (.tuple [.str ⟨#[]⟩,.str ⟨#[]⟩])=false:=by
 have:(tx a==(⟨#[]⟩:Str))=false:=by
  have:=yB a [];rw[show(⟨#[]⟩:Str)=tx []from rfl,this];simpa using ha
 simp[iU,PyData.eqvAll,this]
theorem J2{a b:Str}(ha:gv a=true)(hb:gv b=true):(PyData.tuple [.str a,.str b]).canLay0=true:=by
 simp only[PyData.canLay0,PyData.canLayAll0,ha,hb,Bool.and_self]
theorem Hx(a b:Str):(PyData.tuple [.str a,.str b]).depth<=1:=by
 simp[PyData.depth,PyData.depthAll]
theorem aF.hu{G n}{da db:km}(B:aF G n)(h:da.depth<=50):G.A.units+min da.depth db.depth<cLine:=by
 have:=B.un;have h2:min da.depth db.depth<=da.depth:=Nat.min_le_left _ _;show _<9900;lia
variable{G:Gv}{σ:St}{ps:List (Str×Str)}{x d t n:Nat}{k:Int}{a b:Str}{r:Str×Str}
theorem sv(B:aF G 2)(hx:σ.get x=some (.cX cC d (ps.map gc)))(hd:σ.get d=some (.size k))(ht:σ.get t=some (.tab lF yh)):bN G (λvs=>call (.ref mI) vs) [.ref x] σ (.int ps.length) σ:=by
 have h:=SK.Aw (G:=G) (f:=λvs zz=>call (.ref mI) vs) (cs0:=[]) hx hd ht (λh k'=>SK.ofL (zP (k:=k) (B.ext k') rfl rfl)) rfl rfl rfl (λzz=>rfl) λzz=>rfl;rw[St.set_same hx,aj]at h;exact SK.og h
theorem BW(B:aF G 2)(hx:σ.get x=some (.cX cC d (ps.map gc)))(hd:σ.get d=some (.size k))(ht:σ.get t=some (.tab lF yh))(hf:ps.length<2^20):bN G (λvs=>call (.ref t5) vs) [.ref x,.str a,.str b] σ .none (σ.set x (.cX cC d ((ps++[(a,b)]).map gc))):=
 SK.og (g:=λvs=>call (.ref t5) vs) (SK.Aw hx hd ht (λh k'=>YY (B.ext k') hf) rfl rfl rfl (λzz=>rfl) λzz=>rfl)
theorem wm(B:aF G 3){q: List (Str×Str)}(hx:σ.get x=some (.cX cC d (ps.map gc)))(hd:σ.get d=some (.size k))(ht:σ.get t=some (.tab lF yh))(hf:ps.length<2^20)(h:(ps=[]/\q=[]/\r=(So "",So ""))∨ps=q++[r]):
  bN G (λvs=>call (.ref xG) vs) [.ref x] σ (gc r) (σ.set x (.cX cC d (q.map gc))):=
 SK.og (g:=λvs=>call (.ref xG) vs) (SK.Aw (cs0:=[]) hx hd ht (λh' k'=>Zh (k:=k) (B.ext k') hf h) rfl rfl rfl (λzz=>rfl) λzz=>rfl)
theorem qr{xs ys: List CV}{c: CV}{l: Nat}(e:σ.get l=some (.list xs))(hf:xs.length<=2^20)(h:xs++[c]=ys):bN G (λvs=>call (.builtin "list.append") vs) [.ref l,c] σ .none (σ.set l (.list ys)):=h▸list_append e (dn hf)
end
section
variable{G:Gv}{σ:St}{x d t n i tk:Nat}{k room box:Int}{row:List Int}{S:qv}{a b:Nat}
noncomputable abbrev Cd:Str:=Sx [95,108,97,119,95,99,97,114,114,105,101,100]
theorem pH(P:ae)(f:Nat->Obj)(kt tk:Nat):(fw P f kt tk).get? 236=some (Fh P kt tk):=by kernel_rfl
theorem Xo(P:ae)(f:Nat->Obj)(kt tk:Nat):(fw P f kt tk).get? 235=some (Lr P kt tk):=by kernel_rfl
theorem Wn(P:ae)(kt tk:Nat):(Fh P kt tk).data=.func (n8 19 Cd tk 235):=by kernel_rfl
theorem aF.pH{G n}(B:aF G n):∃tk,f9 G 236 (n8 19 Cd tk 235)/\G.h₀.CodeRec (R 235) Cd:=B.fnAt Mine.pH Xo Wn λzz zz zz=>⟨_,_,rfl,rfl⟩
noncomputable abbrev eC(tk:Nat):Env:=entryE (n8 19 Cd tk 235) [] 5 236
noncomputable abbrev pB:List Stmt:=fB (ai (fB (st 19)) 1)
noncomputable abbrev cF(k room:Int)(mx:Nat):List (Str×CV):=[(So "room",.int room),(So "pile",.ref 2),(So "boxes",.ref 1),(So "row",.ref 0),(So "most",.int (k+2*mx)),(So "ways",.ref 7),(So "laid",.ref 6)]
noncomputable abbrev cO(row:List Int)(n:Nat)(k:Int)(S:qv)(i:Nat)(fr:List (Str×CV)):St:=⟨[(8,AW 0 n i),(7,.list (S.bP.map eQ)),(6,.list (S.laid.map .int)),(5,.frame fr),(0,.list (row.map .int)),(1,.gQ 0 n 1),(2,.cX cC 3 ((ig S.stack).map gc)),(3,.size k),(4,.tab lF yh)],9⟩
theorem rE(st:List Int)(b:Int):ig (st++[b])=ig st++[(tx [32],tx [pM b])]:=aY
theorem nN(st:List Int):(ig st).length=st.length:=aj _
theorem qe{st: List Int}(B:aF G 3)(G0:0<=k/\k<1000)(hl:st.length<=1000)(hx:σ.get x=some (.cX cC d ((ig st).map gc)))(hd:σ.get d=some (.size k))(ht:σ.get t=some (.tab lF yh)):bN G (λvs=>call (.builtin "len") vs) [.ref x] σ (.int (k+2*st.length)) σ:=by
 have e:=zf st;have:=GH B hx hd ht (by rw[aK,decide_eq_true_eq,decide_eq_true_eq];lia) (BH st) (by rw[e];lia) (by rw[e];lia)
 rwa [e]at this
theorem pC(B:aF G n):Glob G (So "max") (.builtin "max"):=B.blt (λzz zz zz zz=>by kernel_rfl) (λzz zz zz zz=>by kernel_rfl)
theorem Gx:(if k+2*(b:Int)>k+2*(a:Int)then k+2*(b:Int)else k+2*(a:Int))=k+2*((max a b:Nat):Int):=by
 split<;>lia
theorem oL{r: Nat}{b: Bool}(e:σ.get r=some (.list (row.map .int)))(h:row.any (·==box)=b):bH G (bO .In) (.int box) (.ref r) σ (.bool b) σ:=h▸rQ e
theorem W0{fr: List (Str×CV)}:(cO row n k S i fr).set 2 (.cX cC 3 ((ig S.stack++[(So " ",tx [(256+box).toNat])]).map gc))=cO row n k {S with stack:=S.stack++[box]} i fr:=by
 show St.mk _ _=St.mk [(8,AW 0 n i),(7,_),(6,_),(5,_),(0,_),(1,_),(2,.cX cC 3 ((ig (S.stack++[box])).map gc)),(3,_),(4,_)] 9;rw[rE];rfl
seal aV cD SS eA bN d0 bH fH du cW eU fV dk gI fg kG SK SF m6
noncomputable abbrev cB(k room box:Int)(mx:Nat):List (Str×CV):=cF k room mx++[(So "box",.int box)]
unseal st in
theorem W6(B:aF G 4)(hh:G.A.handled=none)(G0:0<=k/\k<1000)(hs:S.stack.length<1000)(hb:0<=box/\box<1000)(h1:row.any (·==box)=true)(h2:(S.stack.length:Int)<room):
  eA G 9 (eC tk) pB (cO row n k S i (cB k room box S.mx)) .next (cO row n k {S with stack:=S.stack++[box],mx:=max S.mx (S.stack.length+1)} i (cB k room box (max S.mx (S.stack.length+1)))):=by
 conv in pB=>whnf
 have kg:=qh G.w.params;have hl:(ig S.stack).length<2^20:=by rw[nN];exact aA hs (by decide)
 have ct:bN G (λvs=>call (.ref mI) vs) [.ref 2] (cO row n k S i (cB k room box S.mx)) (.int S.stack.length) (cO row n k S i (cB k room box S.mx)):=nN S.stack▸sv (k:=k) (d:=3) (t:=4) (B.le (m:=2) rfl) rfl rfl rfl;refine .cons (.jK (b:=true) (.vE (.cmp (.loc rfl rfl) (.loc rfl rfl) (oL rfl h1)) (.zV (.cmp (.mC (qg _) B.K (lu _).1 (lu _).2 (B.jf kg.1) (fd:=ly) (by kernel_rfl) (.loc rfl rfl) rfl rfl (λtk t=>(shadow _ _ _ _).2.2.1) .nil ct) (.loc rfl rfl) (jv.to (decide_eq_true h2)))))
  (.cons (.to (.expr (.mC (qg _) B.K (GL _).1 (GL _).2 (B.jf kg.2.2.2.2.2.2.1) (fd:=sj) (by kernel_rfl) (.loc rfl rfl) rfl rfl (λtk t=>(shadow _ _ _ _).1) (.cons .str (.cons (.dP (.glob (nW B)) (.cons (.bin .int (.loc rfl rfl) cE) .nil) (qo (by lia) (by lia))) .nil)) (BW (k:=k) (d:=3) (t:=4) (B.le rfl) rfl rfl rfl hl))) W0)
   (.cons (.to (.assign (.dP (.glob (pC B)) (.cons (.loc rfl rfl) (.cons (.dP (.glob (ey B)) (.cons (.loc rfl rfl) .nil) (qe (st:=S.stack++[box]) (d:=3) (t:=4) (B.le rfl) G0 (by rw[aC];exact hs) rfl rfl rfl)) .nil)) (max2 hh)) (.loc rfl)) ?_) .nil rfl) rfl)) .nil rfl
 have e:(if k+2*(((S.stack++[box]).length:Nat):Int)>k+2*(S.mx:Int)then k+2*(((S.stack++[box]).length:Nat):Int)else k+2*(S.mx:Int))=k+2*((max S.mx (S.stack.length+1):Nat):Int):=by
  rw[Gx,aC];rfl
 rw[e];rfl
theorem v9:So ""=(⟨#[]⟩:Str):=by kernel_rfl
theorem l6:gv (So "")=true:=by kernel_rfl
theorem xl{l: List Int}{b: Int}:l.map CV.int++[.int b]=(l++[b]).map CV.int:=by rw[aY];rfl
theorem DQ{l: List (Int×Int)}{b: Int×Int}:l.map eQ++[eQ b]=(l++[b]).map eQ:=by rw[aY];rfl
theorem r8{α:Type}{l:List α}{f:α->CV}(h:l.length<=1000):(l.map f).length<=2^20:=by rw[aj];exact ak h (by decide)
unseal st in
theorem W3(B:aF G 4)(hl:S.laid.length<=1000)(h1:row.any (·==box)=true)(h2:¬(S.stack.length:Int)<room):
  eA G 9 (eC tk) pB (cO row n k S i (cB k room box S.mx)) .next (cO row n k {S with laid:=S.laid++[box]} i (cB k room box S.mx)):=by
 conv in pB=>whnf
 have kg:=qh G.w.params;have ct:bN G (λvs=>call (.ref mI) vs) [.ref 2] (cO row n k S i (cB k room box S.mx)) (.int S.stack.length) (cO row n k S i (cB k room box S.mx)):=nN S.stack▸sv (k:=k) (d:=3) (t:=4) (B.le (m:=2) rfl) rfl rfl rfl;exact .cons (.jK (b:=false) (.vE (.cmp (.loc rfl rfl) (.loc rfl rfl) (oL rfl h1)) (.zV (.cmp (.mC (qg _) B.K (lu _).1 (lu _).2 (B.jf kg.1) (fd:=ly) (by kernel_rfl) (.loc rfl rfl) rfl rfl (λtk t=>(shadow _ _ _ _).2.2.1) .nil ct) (.loc rfl rfl) (jv.to (decide_eq_false h2)))))
  (.cons (.jK (b:=true) (.cmp (.loc rfl rfl) (.loc rfl rfl) (oL rfl h1))
   (.cons (.to (.expr (.qR fQ bI rfl (.loc rfl rfl) (gR rfl) (.cons (.loc rfl rfl) .nil) (qr rfl (r8 hl) xl))) rfl) .nil rfl)) .nil rfl)) .nil rfl
unseal st in
theorem W4(B:aF G 4)(hh:G.A.handled=none)(h1:row.any (·==box)=false)(h2:S.stack=[]):
  eA G 9 (eC tk) pB (cO row n k S i (cB k room box S.mx)) .next (cO row n k S i (cB k room box S.mx++[(So "blanks",.str (So "")),(So "sign",.str (So ""))])):=by
 conv in pB=>whnf
 have kg:=qh G.w.params;obtain⟨laid,mx,bP,stack⟩:=S;obtain rfl:stack=[]:=h2;refine .cons (.jK (b:=false) (.CZ (.cmp (.loc rfl rfl) (.loc rfl rfl) (oL rfl h1))) (.cons (.jK (b:=false) (.cmp (.loc rfl rfl) (.loc rfl rfl) (oL rfl h1))
  (.cons (.to (.gH (.mC (qg _) B.K (AV _).1 (AV _).2 (B.jf kg.2.2.1) (fd:=sk) (by kernel_rfl) (.loc rfl rfl) rfl rfl (λtk t=>(shadow _ _ _ _).2.1) .nil (wm (k:=k) (d:=3) (t:=4) (r:=(So "",So "")) (q:=[]) (B.le rfl) (ps:=ig []) rfl rfl rfl (by decide) (.inl ⟨rfl,rfl,rfl⟩)))
   (.tuple hh (.name (.loc rfl) (.name (.loc rfl) .nil))) (hw:=λenv h=>(bE h).trans (by kernel_rfl))) rfl)
  (.cons (.jK (b:=false) (.cmp (.tuple (.cons (.loc rfl rfl) (.cons (.loc rfl rfl) .nil)) rfl) (.tuple (.cons .str (.cons .str .nil)) rfl) (qc (.tup (.cons .str (.cons .str .nil))) (.tup (.cons .str (.cons .str .nil))) ?_ ?_ (B.hu (ak (Hx _ _) (by decide))) ?_)) .nil) .nil rfl) rfl)) .nil rfl)) .nil rfl
 ·exact J2 l6 l6
 ·exact J2 l6 l6
 ·rw[v9];kernel_rfl
theorem Af:[a].length+[b].length<=2^20:=show 2<=2^20 by decide
theorem Ek:So " "=tx [32]:=by kernel_rfl
theorem aV.YX{e: Env}{s y: Str}{kk: Nat}{pos: Pos}(h:s=y):aV G e (.Constant (.str s) kk pos) σ (.str y) σ:=h▸aV.str
theorem OB{b: Int}(h:b<=1000):gv (tx [pM b])=true:=by
 unfold gv pM;simp;lia
unseal st in
theorem aaZ{NX laid: List Int}{bP: List (Int×Int)}{mx: Nat}{c: Int}(B:aF G 4)(hh:G.A.handled=none)(hl:laid.length<=1000)(hw:bP.length<=1000)(hs:NX.length<1000)(hb:0<=box/\box<1000)(hc:gv (tx [pM c])=true)(h1:row.any (·==box)=false):
  eA G 9 (eC tk) pB (cO row n k ⟨laid,mx,bP,NX++[c]⟩ i (cB k room box mx)) .next (cO row n k ⟨laid++[box],mx,bP++[(c,box)],NX⟩ i (cB k room box mx++[(So "blanks",.str (tx [32])),(So "sign",.str (tx [pM c]))])):=by
 conv in pB=>whnf
 have kg:=qh G.w.params;have hls:(ig (NX++[c])).length<2^20:=by rw[nN,aC];exact bc hs (by decide)
 refine .cons (.jK (b:=false) (.CZ (.cmp (.loc rfl rfl) (.loc rfl rfl) (oL rfl h1))) (.cons (.jK (b:=false) (.cmp (.loc rfl rfl) (.loc rfl rfl) (oL rfl h1))
  (.cons (.to (.gH (.mC (qg _) B.K (AV _).1 (AV _).2 (B.jf kg.2.2.1) (fd:=sk) (by kernel_rfl) (.loc rfl rfl) rfl rfl (λtk t=>(shadow _ _ _ _).2.1) .nil (wm (k:=k) (d:=3) (t:=4) (r:=(tx [32],tx [pM c])) (q:=ig NX) (B.le rfl) (ps:=ig (NX++[c])) rfl rfl rfl hls (.inr (rE _ _))))
   (.tuple hh (.name (.loc rfl) (.name (.loc rfl) .nil))) (hw:=λenv h=>(bE h).trans (by kernel_rfl))) rfl)
  (.cons (.jK (b:=true) (.cmp (.tuple (.cons (.loc rfl rfl) (.cons (.loc rfl rfl) .nil)) rfl) (.tuple (.cons .str (.cons .str .nil)) rfl) (qc (.tup (.cons .str (.cons .str .nil))) (.tup (.cons .str (.cons .str .nil))) (J2 (by kernel_rfl) hc) (J2 l6 l6) (B.hu (ak (Hx _ _) (by decide))) ?_))
   (.cons (.to (.expr (.qR fQ bI rfl (.loc rfl rfl) (gR rfl) (.cons (.loc rfl rfl) .nil) (qr rfl (r8 hl) xl))) rfl)
   (.cons (.to (.expr (.qR fQ bI rfl (.loc rfl rfl) (gR rfl) (.cons (.tuple (.cons (.bin (.loc rfl rfl) (.loc rfl rfl) (vF Af)) (.cons (.bin (.YX Ek) (.dP (.glob (nW B)) (.cons (.bin .int (.loc rfl rfl) cE) .nil) (qo (by lia) (by lia))) (vF Af)) .nil)) rfl) .nil)
    (qr rfl (r8 hw) (DQ (b:=(c,box)))))) rfl) .nil rfl) rfl)) .nil rfl) rfl)) .nil rfl)) .nil rfl
 show(!(PyData.tuple [.str (tx [32]),.str (tx [pM c])]).eqv (.tuple [.str (So ""),.str (So "")]))=true;rw[v9,Gp _ _ (List.cons_ne_nil _ _)];rfl
end
section
variable{G:Gv}{σ:St}{x d t n i tk:Nat}{k room box:Int}{row:List Int}{S:qv}{m:Nat}
theorem vr:au row room (n+1)=bR row room (au row room n) (0+(n:Int)):=by
 unfold au;rw[dm,gV];rfl
theorem zj{l: List Int}{c: Int}(h:l.getLast?=some c):∃m,l=m++[c]:=by
 have mQ:l≠[]:=λe=>by rw[e]at h;cases h
 rw[List.getLast?_eq_some_getLast mQ]at h;exact⟨l.dropLast,by rw[←a8 h];exact(List.dropLast_concat_getLast mQ).symm⟩
theorem WZ(B:aF G 4)(hh:G.A.handled=none)(G0:0<=k/\k<1000)(hb:0<=box/\box<1000)(hl:S.laid.length<=1000)(hw:S.bP.length<=1000)(hs:S.stack.length<1000)(hc:∀b∈S.stack,b<=1000):
  ∃fr,eA G 9 (eC tk) pB (cO row n k S i (cB k room box S.mx)) .next (cO row n k (bR row room S box) i (cB k room box (bR row room S box).mx++fr)):=by
 unfold bR;cases h1:row.any (·==box)with
 |true =>
  rw[if_pos rfl];by_cases h2:(S.stack.length:Int)<room
  ·rw[if_pos h2];exact⟨[],W6 B hh G0 hs hb h1 h2⟩
  ·rw[if_neg h2];exact⟨[],W3 B hl h1 h2⟩
 |false =>
  rw[if_neg aJ];cases h2:S.stack.getLast? with
  |none=>exact⟨_,W4 B hh h1 (List.getLast?_eq_none_iff.mp h2)⟩
  |some c =>
   obtain⟨laid,mx,bP,stack⟩:=S;obtain⟨NX,rfl⟩:∃m,stack=m++[c]:=zj h2;rw[List.dropLast_concat];exact⟨_,aaZ B hh hl hw (bc (by rw[aC];exact bj _ _) hs) hb (OB (hc c (List.mem_append_right _ (.head _)))) h1⟩
noncomputable abbrev L'(row:List Int)(n:Nat)(k:Int):St:=⟨[(0,.list (row.map .int)),(1,.gQ 0 n 1),(2,.cX cC 3 []),(3,.size k),(4,.tab lF yh)],5⟩
seal aV cD SS eA bN d0 bH fH du cW eU fV dk gI fg kG SK SF m6
noncomputable abbrev c0F(room:Int):List (Str×CV):=[(So "room",.int room),(So "pile",.ref 2),(So "boxes",.ref 1),(So "row",.ref 0)]
noncomputable abbrev c1S(row:List Int)(n:Nat)(k room:Int):St:=⟨[(7,.list []),(6,.list []),(5,.frame (cF k room 0)),(0,.list (row.map .int)),(1,.gQ 0 n 1),(2,.cX cC 3 []),(3,.size k),(4,.tab lF yh)],8⟩
unseal st in
theorem W7(B:aF G 4)(hh:G.A.handled=none)(G0:0<=k/\k<1000):SS G m (eC tk) (ai (fB (st 19)) 0) ⟨(5,.frame (c0F room))::(L' row n k).objs,6⟩ .next (c1S row n k room):=by
 conv in ai (fB (st 19)) 0=>whnf
 exact .to (.swap (names:=[So "laid",So "ways",So "most"]) hh (.tuple (.cons (.list .nil rfl) (.cons (.list .nil rfl) (.cons (.dP (.glob (ey B)) (.cons (.loc rfl rfl) .nil) (qe (st:=[]) (d:=3) (t:=4) (B.le rfl) G0 (by decide) rfl rfl rfl)) .nil))) rfl) rfl
  (.bind (.loc rfl) (.bind (.loc rfl) (.bind (.loc rfl) .nil))) (hw:=λenv h=>(bE h).trans (by kernel_rfl))) rfl
theorem uA(h:n<=1000):d_ 0 n 1=true/\bT 0 n 1=n:=nj (bc h (by decide))
theorem y7(r:Nat->Nat)(l:List (Int×Int)):cV r (l.map eQ)=l.map eQ:=by
 induction l with
 |nil=>rfl
 |cons p l ih=>rw[ba,cV,ih];rfl
theorem kC{r:Nat->Nat}{l: List (Int×Int)}:jt r (.list (l.map eQ)) (.list (l.map eQ)):=congrArg AO.list (y7 r l).symm
theorem E1{r:Nat->Nat}{l: List (Str×Str)}{C: Nat}(h:r d=d:=by rfl):jt r (.cX C d (l.map gc)) (.cX C d (l.map gc)):=by
 show AO.cX C d _=AO.cX C (r d) (cV r (l.map gc));rw[h,nC]
theorem aaX{fr: List (Str×CV)}{mx: Nat}:fz 9 (cO row n k S i (cB k room box mx++fr)) (cO row n k S i (cF k room mx)):=
 fz.mk [] rfl rfl ⟨⟨_,rfl,rfl⟩,⟨_,rfl,kC⟩,⟨_,rfl,av⟩,⟨_,rfl,_,rfl,rfl,rfl,rfl,rfl,rfl,rfl,rfl,trivial⟩,⟨_,rfl,av⟩,⟨_,rfl,rfl⟩,⟨_,rfl,E1⟩,⟨_,rfl,rfl⟩,⟨_,rfl,rfl⟩,trivial⟩
noncomputable abbrev cS(row:List Int)(n:Nat)(k room:Int)(i:Nat):St:=cO row n k (au row room i) i (cF k room (au row room i).mx)
unseal st in
theorem W5(B:aF G 4)(hh:G.A.handled=none)(G0:0<=k/\k<1000)(hn:n<=1000):SS G 6 (eC tk) (ai (fB (st 19)) 1) (c1S row n k room) .next ((cS row n k room n).del 8):=by
 have step:=λ(i:Nat)(hi:i<n)=>WZ (tk:=tk) (n:=n) (k:=k) (i:=i+1) (row:=row) (room:=room) (box:=0+(i:Int)) (S:=au row room i) B hh G0 (by lia) (by have:=nH row room i;lia) (by have:=nH row room i;lia) (by have:=nH row room i;lia) (λb hb=>by have:=xQ row room i b hb;lia)
 conv in ai (fB (st 19)) 1=>whnf
 refine SS.for (m':=9) (it:=8) n (cS row n k room) rfl (by decide) (by decide) (.loc rfl rfl) (iP rfl (uA hn).1 (uA hn).2) (λi hi=>?_) (D.jI hh rfl);obtain⟨fr,h⟩:=step i hi;rw[←vr]at h;exact⟨_,⟨_,_,_,X.jI rfl hi,.name (.loc rfl),h⟩,aaX⟩
unseal st in
theorem aaY:eA G m (eC tk) [ai (fB (st 19)) 2] ((cS row n k room n).del 8) (.ret (.tup [.ref 6,.int (k+2*(au row room n).mx),.ref 7])) ((cS row n k room n).del 8):=by
 conv in ai (fB (st 19)) 2=>whnf
 exact .stop (.ret (.tuple (.cons (.loc rfl rfl) (.cons (.loc rfl rfl) (.cons (.loc rfl rfl) .nil))) rfl)) rfl
theorem Uh(tk:Nat):iW (n8 19 Cd tk 235) (fB (st 19)) []:=⟨rfl,rfl,λL=>by kernel_rfl,rfl,by kernel_rfl,by kernel_rfl,by kernel_rfl,by kernel_rfl⟩
theorem Xj{tk s}(a b c d:af):bW s (n8 19 Cd tk 235) ⟨[a,b,c,d],[]⟩ [(So "row",a),(So "boxes",b),(So "pile",c),(So "room",d)]:=cj (K:=[]) (λzz zz h=>nomatch h) λS=>by kernel_rfl
theorem tv(B:aF G 5)(hh:G.A.handled=none)(G0:0<=k/\k<1000)(hn:n<=1000):SK G (λvs ws=>call (.ref 236) vs ([].zip ws)) [.ref 0,.ref 1,.ref 2,.int room] [] (L' row n k) (.tup [.ref 6,.int (k+2*(au row room n).mx),.ref 7]) ((cS row n k room n).del 8):=by
 refine aH (B.pH) λtk D C=>?_;exact SK.fy (names:=[]) (m:=6) (f:=.ret (.tup [.ref 6,.int (k+2*(au row room n).mx),.ref 7])) (rb:=c0F room) B.dH D B.dG C (Uh tk) (G8 λα s u v w y g q1 q2 q3 q4=>⟨_,Xj u v w y,rfl,.aT q4 (.aT q3 (.aT q2 (.aT q1 cf)))⟩) (by kernel_rfl) rfl (by kernel_rfl) λenv =>
  .text (show fB (st 19)=[ai (fB (st 19)) 0,ai (fB (st 19)) 1,ai (fB (st 19)) 2] by kernel_rfl) (.cons (W7 B.deep hh G0) (.cons (W5 B.deep hh G0 hn) aaY rfl) rfl)
end
section
noncomputable def jw(row:List Int):Nat:=(di (0::row)+row.length+1).toNat
noncomputable def xh(row:List Int):List Nat:=(az (jw row)).map λ(i:Nat)=>if row.any (·==(0+(i:Int)))then 102 else 105
noncomputable def lq(l:List Nat):List Int:=(az ((bQ l).length-1)).map λi=>(((bQ l).take (1+i)).flatten.length:Int)
noncomputable def gm(l:List Nat)(ps:List Int)(i:Nat):Option (List Int):=
 if(l.drop i).take 2=[102,105]then(if(1+(i:Int))∈ps then some (ps.erase (1+(i:Int)))else none)else some ps
noncomputable def oH(l:List Nat):Option (List Int):=
 if l.length<=1000/\(bQ l).length<=1000/\(bQ l).flatten.length<=1000 then(az ((bQ l).flatten.length-1)).foldlM (gm (bQ l).flatten) (lq l)else none
noncomputable def f3:Nat->Int->List Nat->List (Int×Int)->Option (List (Int×Int))
 |0,_,l,acc=>if 102∈l then none else some acc
 |n+1,size,l,acc=>if 102∈l then(oH l).bind λps=>if acc.length<=1000 then f3 n (size+1) (bQ l).flatten (acc++ps.map λp=>(size+1,p))else none else some acc
noncomputable def xp(ws:List (Int×Int)):Bool:=(az (ws.length-1)).all λi=>!XN (ws.getD (i+1) (0,0)) (ws.getD i (0,0))
noncomputable def oF(row:List Int):Option (List (Int×Int)):=(f3 (row.length+1) 0 (xh row) []).bind λws=>if xp ws/\ws.length<64 then some ws else none
theorem AN(row:List Int):0<=di (0::row):=by
 have:=(foldl_max (0::row) 0).1;exact this
theorem B1(l:List Nat):(bQ l).length=(gS l 0).length+1/\(gS l 0).length<=l.length:=by
 have hc:∀(l:List Nat) i,(gS l i).length<=l.length:=by
  intro l
  induction l with
  |nil=>intro i;exact aG _
  |cons x r ih =>
   intro i;cases r with
   |nil=>exact aW _
   |cons y r =>
    rw[fi2];have:=ih (i+1)
    split
    ·simp at this ⊢;lia
    ·simp at this ⊢;lia
 refine⟨?_,hc l 0⟩;unfold bQ;simp
theorem CG(ls:List (List Nat))(k:Nat):(ls.take k).flatten.length<=ls.flatten.length:=by
 have:ls.flatten=(ls.take k).flatten++(ls.drop k).flatten:=by rw[←List.flatten_append,fE]
 rw[this,aC];lia
theorem Hm(x:Int)(ps:List Int):x∈ps->∃j,∃hj:j<ps.length,ps[j]=x/\(∀m (hm:m<ps.length),m<j->ps[m]≠x)/\ps.erase x=ps.eraseIdx j:=by
 induction ps with
 |nil=>intro h;cases h
 |cons y ps ih =>
  intro h;by_cases e:y=x
  ·subst e
   exact⟨0,by simp,rfl,λm hm h=>by lia,by simp⟩
  ·have hx:x∈ps:=by
    rcases List.mem_cons.mp h with h|h
    ·exact absurd h.symm e
    ·exact h
   obtain⟨j,hj,h1,h2,h3⟩:=ih hx;refine⟨j+1,by simp;lia,by simpa using h1,λm hm ij=>?_,?_⟩
   ·cases m with
    |zero=>simpa using e
    |succ m=>simpa using h2 m (by simp at hm;lia) (by lia)
   ·rw[List.erase_cons_tail (by simpa using e),h3];rfl
theorem yH(l:List Nat)(ps Ln:List Int)(i:Nat)(h:gm l ps i=some Ln):Ln.length<=ps.length:=by
 unfold gm at h
 split at h
 ·split at h
  ·cases h;exact List.length_erase_le
  ·cases h
 ·cases h;exact aG _
theorem qA(l:List Nat)(is:List Nat):∀(ps Ln:List Int),is.foldlM (gm l) ps=some Ln->Ln.length<=ps.length:=by
 induction is with
 |nil=>intro ps Ln h;cases h;exact aG _
 |cons i is ih =>
  intro ps Ln h;rw[List.foldlM_cons]at h;cases e:gm l ps i with
  |none=>rw[e]at h;cases h
  |some q =>
   rw[e]at h;exact ak (ih q Ln h) (yH l ps q i e)
variable{G:Gv}{σ:St}{k:Nat}{l:List Nat}{y:Str}
theorem EY{c: Nat}(hy:y=⟨#[c]⟩):bH G (bO .In) (.str y) (.str (tx l)) σ (.bool (decide (c∈l))) σ:=by
 subst hy;exact U' (l:=l) (c:=c)▸B7
theorem Eg(hy:y=tx [102,105])(hx:l.length<=1000)(hn:(bQ l).length<=1000):bN G (λvs=>call (.builtin "str.split") vs) [.str (tx l),.str y] σ (.ref σ.n) (σ.push (.list ((bQ l).map λx=>.str (tx x)))):=by
 subst hy;have:=NY (G:=G) (σ:=σ) (x:=tx l) (y:=tx [102,105]) rfl (by rw[dT];exact dn (ak hx (by decide))) (by rw[v7,aj];exact dn (ak hn (by decide)));rw[v7,bq]at this;exact this
theorem wM{a b: List Nat}(hy:y=tx b):bH G (bO .Eq) (.str (tx a)) (.str y) σ (.bool (decide (a=b))) σ:=by
 subst hy;have:=qd (G:=G) (σ:=σ) (x:=tx a) (y:=tx b);rw[yB]at this
 rwa [show decide (a=b)=(a==b)from by cases h:a==b with|true=>exact decide_eq_true (eq_of_beq h)|false=>exact decide_eq_false (ne_of_beq_false h)]
theorem wb{ps: List (List Nat)}{i: Int}(e:σ.get k=some (.list (ps.map λx=>.str (tx x))))(h:0<=i)(hf:ps.length<=1000):dk G (.ref k) none (some i) none σ (.ref σ.n) (σ.push (.list ((ps.take i.toNat).map λx=>.str (tx x)))):=by
 have:=slice_list (G:=G) (lo:=none) (hi:=some i) (st:=none) e (by decide) (by rw[aj];exact dn (ak hf (by decide)))
 rwa [rO _ _ h,←kq]at this
noncomputable def iw:Nat->Int->List Nat->Option CV->Int×List Nat×Option CV
 |0,size,l,pt=>(size,l,pt)
 |n+1,size,l,pt=>if 102∈l then iw n (size+1) (bQ l).flatten (some (.ref 6))else(size,l,pt)
end
section
variable{G:Gv}{σ:St}{n i tk m:Nat}{row:List Int}{l l':List Nat}{acc ws:List (Int×Int)}{size:Int}{pt:Option CV}
noncomputable abbrev Ca:Str:=Sx [95,108,97,119,95,119,97,118,101,115]
theorem Bl(P:ae)(f:Nat->Obj)(kt tk:Nat):(fw P f kt tk).get? 222=some (Fm P kt tk):=by kernel_rfl
theorem Xq(P:ae)(f:Nat->Obj)(kt tk:Nat):(fw P f kt tk).get? 221=some (Ls P kt tk):=by kernel_rfl
theorem Wq(P:ae)(kt tk:Nat):(Fm P kt tk).data=.func (n8 17 Ca tk 221):=by kernel_rfl
theorem aF.Bl{G n}(B:aF G n):∃tk,f9 G 222 (n8 17 Ca tk 221)/\G.h₀.CodeRec (R 221) Ca:=B.fnAt Mine.Bl Xq Wq λzz zz zz=>⟨_,_,rfl,rfl⟩
noncomputable abbrev eW(tk:Nat):Env:=entryE (n8 17 Ca tk 221) [(So "parts",2),(So "size",1),(So "row",0)] 1 222
noncomputable abbrev jx:List Stmt:=fB (ai (fB (st 17)) 2)
theorem rK{i j: Int}(h:i=j):bN G (λvs=>call (.type "range") vs) [.int i] σ (.ref σ.n) (σ.push (.gQ 0 j 1)):=h▸mA
noncomputable abbrev wO(row:List Int)(sz pt:Option CV)(fr:List (Str×CV))(os:List (Nat×AO))(n:Nat):St:=⟨os++[(4,.cell pt),(3,.cell sz),(2,.cell (some (.ref 0))),(1,.frame fr),(0,.list (row.map .int))],n⟩
noncomputable abbrev LF(row:List Int)(i:Nat):CV:=.str (tx [if row.any (·==(0+(i:Int)))then 102 else 105])
seal aV cD SS eA bN d0 bH fH du cW eU fV dk gI fg kG SK SF m6
noncomputable abbrev Yu(row:List Int)(i:Nat):St:=wO row bB bB [] [(8,AW 0 (jw row) i),(7,.gQ 0 (jw row) 1),(6,.list ((0::row).map .int)),(5,.list ([0].map .int))] 9
theorem HM(row:List Int):di (0::row)+row.length+1=(jw row:Nat):=by have:=AN row;unfold jw;lia
theorem wd(h:jw row<=1000):row.length<2^19:=by have:=AN row;unfold jw at h;lia
theorem Cp(row:List Int)(i:Nat):(aE "if").cps[if row.any (·==(0+(i:Int)))then 1 else 0]?=some (if row.any (·==(0+(i:Int)))then 102 else 105):=by
 cases row.any (·==(0+(i:Int)))<;>rfl
unseal st in
theorem IK(B:aF G 4)(hh:G.A.handled=none)(hb:jw row<=1000):SS G 5 (eW tk) (ai (fB (st 17)) 0) (wO row none none [] [] 5) .next (wO row none none [(So "line",.str (tx (xh row)))] [] 5):=by
 conv in ai (fB (st 17)) 0=>whnf
 refine .mM (.assign (.qG fk dB rfl .str mr (.cons (.comp (mm:=[]) (it:=8) (c:=.ref 7) (σ1:=wO row bB bB [] [(7,.gQ 0 (jw row) 1),(6,.list ((0::row).map .int)),(5,.list ([0].map .int))] 8) (σ2:=Yu row 0) (σ3:=(PP (Yu row (jw row)) (eu (LF row) (jw row)) []).del 8) 11 (cl:=[(So "row",2)]) (by kernel_rfl) (by kernel_rfl)
  (.gi (.glob (dC B)) (.cons (.bin (.bin (.dP (.glob (pC B)) (.cons (.bin (.list (.cons .int .nil) rfl) (.cell rfl rfl) (j5 (ns:=[0]) (ms:=row) rfl rfl ?hf)) .nil) (max_list hh rfl (kn _))) (.dP (.glob (ey B)) (.cons (.cell rfl rfl) .nil) (j2 (ns:=row) rfl ?hl)) cE) .int cE) .nil) (rK (HM row))) ?hi (show 10<11 by decide) ?h3 rfl) .nil) (r6 rfl (ak hb (by decide)))) (.loc (m':=[]) rfl)) ?hs
 case hf=>exact ak (gk (bY (wd hb)) 1) (by decide)
 case hl=>exact aA (wd hb) (by decide)
 case hi=>exact iP rfl (uA hb).1 (uA hb).2
 case h3 =>
  exact cW.simple (N:=9) (n:=jw row) (Yu row) (λi=>.int (0+i)) (λi=>[(So "box",.int (0+i))]) (eu (LF row)) (λzz=>rfl) rfl (show 8<11 by decide) rfl rfl rfl (mK _ _ _ _ _) (nk hh rfl (aW _)) (λi hi=>⟨X.jI rfl hi,.name (.loc (m':=[]) rfl),
   .md (.sub .str (.cmp (.loc rfl rfl) (.cell rfl rfl) (rQ rfl)) (sub_str_bool (Cp row i))) rfl (f5 (ak (bY hi) (ak hb (by decide)))) eS⟩) (D.jI hh rfl)
 case hs=>exact fz.mk [] rfl rfl ⟨⟨_,rfl,rfl⟩,⟨_,rfl,rfl⟩,⟨_,rfl,rfl⟩,⟨_,rfl,_,rfl,rfl,trivial⟩,⟨_,rfl,av⟩,trivial⟩
end
section
variable{G:Gv}{σ:St}{n i tk m:Nat}{row:List Int}{l l':List Nat}{acc ws:List (Int×Int)}{size:Int}{pt:Option CV}
theorem xc(r:Nat->Nat)(l:List (Int×Int)):cV r (l.map gw)=l.map gw:=by
 induction l with
 |nil=>rfl
 |cons p l ih=>rw[ba,cV,ih];rfl
theorem Gy(r:Nat->Nat)(l:List (List Nat)):cV r (l.map λx=>.str (tx x))=l.map λx=>.str (tx x):=by
 induction l with
 |nil=>rfl
 |cons p l ih=>rw[ba,cV,ih];rfl
theorem cz{r:Nat->Nat}{l: List (Int×Int)}:jt r (.list (l.map gw)) (.list (l.map gw)):=congrArg AO.list (xc r l).symm
theorem AA{r:Nat->Nat}{l: List (List Nat)}:jt r (.list (l.map λx=>.str (tx x))) (.list (l.map λx=>.str (tx x))):=congrArg AO.list (Gy r l).symm
theorem T_{f:Nat->Int}:eu (λi=>.int (f i)) n=((az n).map f).map .int:=by unfold eu;rw[bq];rfl
theorem Jy{r:Nat->Nat}{f:Nat->Int}:jt r (.list (eu (λi=>.int (f i)) n)) (.list (eu (λi=>.int (f i)) n)):=by rw[T_];exact av
theorem Lp{r:Nat->Nat}{xs ys: List CV}(h:jt r (.list ys) (.list ys))(e:xs=ys):jt r (.list xs) (.list ys):=e▸h
noncomputable abbrev wF(l:List Nat):List (Str×CV):=[(So "line",.str (tx l)),(So "waves",.ref 5)]
noncomputable abbrev wW(row:List Int)(size:Int)(pt:Option CV)(l:List Nat)(acc:List (Int×Int)):St:=wO row (some (.int size)) pt (wF l) [(5,.list (acc.map gw))] 7
noncomputable abbrev wP(row:List Int)(size:Int)(l:List Nat)(acc:List (Int×Int))(fr:List (Str×CV))(os:List (Nat×AO))(n:Nat):St:=wO row (some (.int size)) (some (.ref 7)) fr (os++[(7,.list ((bQ l).map λx=>.str (tx x))),(5,.list (acc.map gw))]) n
seal aV cD SS eA bN d0 bH fH du cW eU fV dk gI fg kG SK SF m6
unseal st in
theorem IJ(B:aF G 4)(hh:G.A.handled=none):SS G 5 (eW tk) (ai (fB (st 17)) 1) (wO row none none [(So "line",.str (tx l))] [] 5) .next (wW row 0 none l []):=by
 conv in ai (fB (st 17)) 1=>whnf
 exact .mM (.gH (.tuple (.cons (.list .nil rfl) (.cons .int .nil)) rfl) (.tuple hh (.name (.loc rfl) (.name (.cell rfl rfl) .nil))) (hw:=λenv h=>(bE h).trans (by kernel_rfl)))
  (fz.mk [(5,5)] rfl rfl ⟨⟨_,rfl,rfl⟩,⟨_,rfl,rfl⟩,⟨_,rfl,rfl⟩,⟨_,rfl,rfl⟩,⟨_,rfl,_,rfl,rfl,rfl,trivial⟩,⟨_,rfl,av⟩,trivial⟩)
unseal st in
theorem II(B:aF G 4)(hh:G.A.handled=none)(h1:l.length<=1000)(h2:(bQ l).length<=1000):SS G m (eW tk) (ai jx 0) (wW row size pt l acc) .next (wP row (size+1) l acc (wF l) [] 8):=by
 conv in ai jx 0=>whnf
 exact .to (.gH (.tuple (.cons (.qG ji dB rfl (.loc rfl rfl) mr (.cons .str .nil) (Eg (by kernel_rfl) h1 h2)) (.cons (.bin (.cell rfl rfl) .int cE) .nil)) rfl)
  (.tuple hh (.name (.cell rfl rfl) (.name (.cell rfl rfl) .nil))) (hw:=λenv h=>(bE h).trans (by kernel_rfl))) rfl
theorem iO{v: Expr}{t: Option Expr}{env e: Env}(h:env.scope=e.scope):swapsWith v t n env=swapsWith v t n e:=by
 cases env;cases e;cases h;rfl
theorem B0(l:List Nat):bT 1 ((bQ l).length:Int) 1=(((bQ l).length-1:Nat):Int):=by
 rw[rangeSize_one,(B1 l).1];have:((((gS l 0).length+1:Nat):Int)-1).toNat=(gS l 0).length+1-1:=by lia
 rw[this]
theorem El(h:n<=1000):d_ 1 (n:Int) 1=true:=small_one (by decide) (by decide) (by lia) (by lia)
theorem J1{a: List Nat}(h:a.length=n)(hn:n<=1000):bN G (λvs=>call (.builtin "len") vs) [.str (tx a)] σ (.int n) σ:=by subst h;exact zg hn
theorem wN(i:Nat):(1+(i:Int)).toNat=1+i:=by lia
theorem zh(h:(bQ l).length<=1000){k: Nat}(e:σ.get k=some (.list ((bQ l).map λx=>.str (tx x)))):bN G (λvs=>call (.builtin "len") vs) [.ref k] σ (.int (bQ l).length) σ:=by
 have:=qf (G:=G) e (by rw[aj];exact bc h (by decide))
 rwa [aj]at this
noncomputable abbrev Oe(l:List Nat)(i:Nat):Int:=(((bQ l).take (1+i)).flatten.length:Int)
noncomputable abbrev Rp(row:List Int)(size:Int)(l:List Nat)(acc:List (Int×Int))(i:Nat):St:=wP row size l acc (wF l) [(9,AW 1 ((bQ l).length-1) i),(8,.gQ 1 (bQ l).length 1)] 10
noncomputable abbrev DS(l:List Nat):Nat->List CV:=eu λi=>.int (Oe l i)
theorem M8{fr: List (Str×CV)}{o: AO}:fz 12 ((PP (Rp row size l acc i) (DS l i) fr).push o) (PP (Rp row size l acc i) (DS l i) []):=
 fz.mk [] rfl rfl ⟨⟨_,rfl,_,rfl,trivial⟩,⟨_,rfl,Jy⟩,⟨_,rfl,rfl⟩,⟨_,rfl,rfl⟩,⟨_,rfl,AA⟩,⟨_,rfl,cz⟩,⟨_,rfl,rfl⟩,⟨_,rfl,rfl⟩,⟨_,rfl,rfl⟩,⟨_,rfl,_,rfl,rfl,rfl,trivial⟩,⟨_,rfl,av⟩,trivial⟩
unseal st in
theorem DH(B:aF G 4)(hh:G.A.handled=none)(h2:(bQ l).length<=1000)(h3:(bQ l).flatten.length<=1000):SS G 5 (eW tk) (ai jx 1) (wP row size l acc (wF l) [] 8) .next (wP row size l acc (wF l++[(So "places",.ref 8)]) [(8,.list ((lq l).map .int))] 9):=by
 conv in ai jx 1=>whnf
 refine .mM (.nY (mm:=[]) (it:=9) (c:=.ref 8) (σ1:=wP row size l acc (wF l) [(8,.gQ 1 (bQ l).length 1)] 9) (σ2:=Rp row size l acc 0) (σ3:=(PP (Rp row size l acc ((bQ l).length-1)) (DS l ((bQ l).length-1)) []).del 9) 12 (cl:=[(So "parts",4)]) (by kernel_rfl) (by kernel_rfl)
  (.gi (.glob (dC B)) (.cons .int (.cons (.dP (.glob (ey B)) (.cons (.cell rfl rfl) .nil) (zh h2 rfl)) .nil)) rM) (iP rfl (El h2) (B0 l)) (show 11<12 by decide) ?h3 (.loc rfl) rfl (λenv h=>(iO h).trans (by kernel_rfl))) ?hs
 case h3 =>
  refine cW.qW (N:=10) (n:=(bQ l).length-1) (Rp row size l acc) (λi=>.int (1+i)) (DS l) (λzz=>rfl) rfl (show 9<12 by decide) rfl rfl rfl (mK _ _ _ _ _) (nk hh rfl (aW _)) (λi hi=>?_) (D.jI hh rfl);have hft:=ak (CG (bQ l) (1+(i:Int)).toNat) h3;exact XD _ _ _ ⟨X.jI rfl hi,.name (.loc (m':=[]) rfl),.Hu (σ1:=(PP (Rp row size l acc (i+1)) (DS l i) [(So "k",.int (1+i))]).push (.list (((bQ l).take (1+(i:Int)).toNat).map λx=>.str (tx x)))) (.dP (.glob (ey B)) (.cons (.qG fk dB rfl .str mr (.cons (.slice (.cell rfl rfl) .no (.at (.loc rfl rfl)) .no (wb rfl (by lia) h2)) .nil) (uP rfl (ak hft (by decide)))) .nil) (J1 (congrArg (λj=>((bQ l).take j).flatten.length) (wN i)) (wN i▸hft)))
   rfl (f5 (by lia)) eS,M8⟩
 case hs =>
  exact fz.mk [(5,5),(7,7),(8,10)] rfl rfl ⟨⟨_,rfl,Lp av T_⟩,⟨_,rfl,AA⟩,⟨_,rfl,cz⟩,⟨_,rfl,rfl⟩,⟨_,rfl,rfl⟩,⟨_,rfl,rfl⟩,⟨_,rfl,_,rfl,rfl,rfl,rfl,trivial⟩,⟨_,rfl,av⟩,trivial⟩
unseal st in
theorem M_(B:aF G 4)(hh:G.A.handled=none)(h3:(bQ l).flatten.length<=1000){os: List (Nat×AO)}:SS G m (eW tk) (ai jx 2) (wP row size l acc (wF l++[(So "places",.ref 8)]) [(8,.list ((lq l).map .int))] 9) .next (wP row size l acc (wF (bQ l).flatten++[(So "places",.ref 8)]) [(8,.list ((lq l).map .int))] 9):=by
 conv in ai jx 2=>whnf
 exact .to (.assign (.qG fk dB rfl .str mr (.cons (.cell rfl rfl) .nil) (uP rfl (ak h3 (by decide)))) (.loc rfl)) rfl
end
section
variable{G:Gv}{σ:St}{n i tk m:Nat}{row ps cur B_:List Int}{l l':List Nat}{acc ws:List (Int×Int)}{size:Int}{pt:Option CV}{out:List Int}{k:Nat}
theorem BC(h:gm l' cur i=some B_):((l'.drop i).take 2≠[102,105]/\B_=cur)∨((l'.drop i).take 2=[102,105]/\∃j,∃hj:j<cur.length,cur[j]=1+(i:Int)/\(∀m (hm:m<cur.length),m<j->cur[m]≠1+(i:Int))/\B_=cur.eraseIdx j):=by
 unfold gm at h;by_cases c:(l'.drop i).take 2=[102,105]
 ·rw[if_pos c]at h
  by_cases c2:(1+(i:Int))∈cur
  ·rw[if_pos c2]at h
   refine c_ λj7 ef=>?_;obtain⟨j,hj,e1,e2,e3⟩:=Hm _ _ c2;refine ef ?_;exact .inr ⟨c,j,hj,e1,e2,(a8 h).symm.trans e3⟩
  ·rw[if_neg c2]at h;cases h
 ·rw[if_neg c]at h;exact .inl ⟨c,(a8 h).symm⟩
theorem sl2(h:i+1<l'.length):Txt.slice (tx l') (some (1+(i:Int)-1)) (some (1+(i:Int)+1))=tx ((l'.drop i).take 2):=by
 rw[rH (by lia) (by lia) (by lia),show(1+(i:Int)-1).toNat=i by lia,show(1+(i:Int)+1-(1+(i:Int)-1)).toNat=2 by lia]
noncomputable abbrev wT(row:List Int)(size:Int)(l l':List Nat)(acc:List (Int×Int))(cur:List Int)(i:Nat)(fr:List (Str×CV)):St:=wP row size l acc (wF l'++[(So "places",.ref 8)]++fr) [(10,AW 1 (l'.length-1) i),(9,.gQ 1 l'.length 1),(8,.list (cur.map .int))] 11
seal aV cD SS eA bN d0 bH fH du cW eU fV dk gI fg kG SK SF m6
unseal st in
theorem DG{j: Nat}(B:aF G 4)(hl:l'.length<=1000)(hi:i+1<l'.length)(hc:cur.length<=1000)(h:gm l' cur i=some B_):eA G 11 (eW tk) (fB (ai jx 3)) (wT row size l l' acc cur j [(So "k",.int (1+i))]) .next (wT row size l l' acc B_ j [(So "k",.int (1+i))]):=by
 conv in fB _=>whnf
 have sl:dk G (.str (tx l')) (some (1+(i:Int)-1)) (some (1+(i:Int)+1)) none (wT row size l l' acc cur j [(So "k",.int (1+i))]) (.str (tx ((l'.drop i).take 2))) (wT row size l l' acc cur j [(So "k",.int (1+i))]):=sl2 hi▸tw (by rw[dT];exact dn (ak hl (by decide)));rcases BC h with⟨c,rfl⟩|⟨c,q,hq,e1,e2,rfl⟩
 ·exact .cons (.jK (b:=false) (.cmp (.slice (.loc rfl rfl) (.at (.bin (.loc rfl rfl) .int lH)) (.at (.bin (.loc rfl rfl) .int cE)) .no sl) .str ((wM (b:=[102,105]) (by kernel_rfl)).to (decide_eq_false c))) .nil) .nil rfl
 ·exact .cons (.jK (b:=true) (.cmp (.slice (.loc rfl rfl) (.at (.bin (.loc rfl rfl) .int lH)) (.at (.bin (.loc rfl rfl) .int cE)) .no sl) .str ((wM (b:=[102,105]) (by kernel_rfl)).to (decide_eq_true c)))
   (.cons (.to (.expr (.qR PySem.F.slot_list_remove bI rfl (.loc rfl rfl) (gR rfl) (.cons (.loc rfl rfl) .nil) (list_remove rfl hq e1 e2 (dn (ak hc (by decide)))))) rfl) .nil rfl)) .nil rfl
noncomputable def zO(l':List Nat)(ps:List Int)(i:Nat):List Int:=((az i).foldlM (gm l') ps).getD ps
theorem t8(h:(az k).foldlM (gm l') ps=some out)(hi:i<k):gm l' (zO l' ps i) i=some (zO l' ps (i+1))/\(zO l' ps i).length<=ps.length:=by
 have e1:az k=az (i+1)++(az k).drop (i+1):=by
  conv=>lhs;rw[←fE (i+1) (az k)]
  rw[List.take_range,Nat.min_eq_left hi]
 rw[e1,lB]at h;unfold zO;cases e4:(az (i+1)).foldlM (gm l') ps with
 |none=>rw[e4]at h;cases h
 |some nx =>
  rw[dm,lB]at e4;cases e5:(az i).foldlM (gm l') ps with
  |none=>rw[e5]at e4;cases e4
  |some c =>
   rw[e5]at e4;exact⟨by simpa using e4,qA _ _ _ _ e5⟩
theorem N'(k:Nat):((k:Int)-1).toNat=k-1:=by
 cases k with
 |zero=>rfl
 |succ k=>rw[Int.natCast_succ,Int.add_sub_cancel];rfl
theorem Za(h:k<=1000):bT 1 (k:Int) 1=((k-1:Nat):Int):=by rw[rangeSize_one];exact congrArg Nat.cast (N' k)
unseal st in
theorem M9(B:aF G 4)(hh:G.A.handled=none)(hl:l'.length<=1000)(hp:ps.length<=1000)(h:(az (l'.length-1)).foldlM (gm l') ps=some out):
  SS G 5 (eW tk) (ai jx 3) (wP row size l acc (wF l'++[(So "places",.ref 8)]) [(8,.list (ps.map .int))] 9) .next (wP row size l acc (wF l'++[(So "places",.ref 8)]) [(8,.list (out.map .int))] 9):=by
 have st:=λ(i:Nat)(hi:i<l'.length-1)=>DG (tk:=tk) (row:=row) (size:=size) (l:=l) (acc:=acc) (j:=i+1) B hl (by lia) (ak (t8 h hi).2 hp) (t8 h hi).1;have e0:zO l' ps (l'.length-1)=out:=by unfold zO;rw[h];rfl
 conv in ai jx 3=>whnf
 refine .mM (SS.for (m':=11) (it:=10) (l'.length-1) (λi=>wT row size l l' acc (zO l' ps i) i []) rfl (by decide) (by decide) (.gi (.glob (dC B)) (.cons .int (.cons (.dP (.glob (ey B)) (.cons (.loc rfl rfl) .nil) (zg hl)) .nil)) rM) (iP rfl (El hl) (Za hl)) (λi hi=>?_) (D.jI hh rfl)) ?_
 ·exact⟨_,⟨_,_,_,X.jI rfl hi,.name (.loc rfl),st i hi⟩,fz.mk [] rfl rfl ⟨⟨_,rfl,rfl⟩,⟨_,rfl,rfl⟩,⟨_,rfl,av⟩,⟨_,rfl,AA⟩,⟨_,rfl,cz⟩,⟨_,rfl,rfl⟩,⟨_,rfl,rfl⟩,⟨_,rfl,rfl⟩,⟨_,rfl,_,rfl,rfl,rfl,rfl,trivial⟩,⟨_,rfl,av⟩,trivial⟩⟩
 ·rw[e0]
  exact fz.mk [(5,5),(7,7),(8,8)] rfl rfl ⟨⟨_,rfl,av⟩,⟨_,rfl,AA⟩,⟨_,rfl,cz⟩,⟨_,rfl,rfl⟩,⟨_,rfl,rfl⟩,⟨_,rfl,rfl⟩,⟨_,rfl,_,rfl,rfl,rfl,rfl,trivial⟩,⟨_,rfl,av⟩,trivial⟩
end
section
variable{G:Gv}{σ:St}{n i tk m:Nat}{row ps:List Int}{l l':List Nat}{acc ws:List (Int×Int)}{size:Int}{pt:Option CV}{w:List (Int×Int)}
seal aV cD SS eA bN d0 bH fH du cW eU fV dk gI fg kG SK SF m6
noncomputable abbrev Yt(row:List Int)(size:Int)(l l':List Nat)(acc:List (Int×Int))(ps:List Int)(i:Nat):St:=wP row size l acc (wF l'++[(So "places",.ref 8)]) [(9,.i6 8 i),(8,.list (ps.map .int))] 10
noncomputable abbrev wC(size:Int)(ps:List Int)(i:Nat):CV:=gw (size,ps.getD i 0)
theorem DT(size:Int)(ps:List Int):eu (wC size ps) ps.length=(ps.map λp=>(size,p)).map gw:=by
 unfold eu;apply List.ext_getElem
 ·simp
 ·intro i h1 h2
  simp at h1;simp[wC,h1]
theorem Hk(h1:acc.length<=1000)(h2:ps.length<=1000):(acc.map gw).length+(eu (wC size ps) ps.length).length<=2^20:=by
 rw[DT,aj,aj,aj];exact ak (gu h1 h2) (by decide)
unseal st in
theorem DI(B:aF G 4)(hh:G.A.handled=none)(h1:acc.length<=1000)(h2:ps.length<=1000):SS G 5 (eW tk) (ai jx 4) (wP row size l acc (wF l'++[(So "places",.ref 8)]) [(8,.list (ps.map .int))] 9) .next (wW row size (some (.ref 6)) l' (acc++ps.map λp=>(size,p))):=by
 conv in ai jx 4=>whnf
 refine .mM (.expr (.qG lO bI rfl (.loc rfl rfl) (gR rfl) (.cons (.comp (mm:=[]) (it:=9) (c:=.ref 8) (σ1:=wP row size l acc (wF l'++[(So "places",.ref 8)]) [(8,.list (ps.map .int))] 9) (σ2:=Yt row size l l' acc ps 0) (σ3:=(PP (Yt row size l l' acc ps ps.length) (eu (wC size ps) ps.length) []).del 9) 12 (cl:=[(So "size",3)]) (by kernel_rfl) (by kernel_rfl)
  (.loc rfl rfl) (cM rfl) (show 11<12 by decide) ?h3 rfl) .nil) (xg rfl rfl (Hk h1 h2)))) ?hs
 case h3 =>
  exact cW.simple (N:=10) (n:=ps.length) (Yt row size l l' acc ps) (λi=>.int (ps.getD i 0)) (λi=>[(So "place",.int (ps.getD i 0))]) (eu (wC size ps)) (λzz=>rfl) rfl (show 9<12 by decide) rfl rfl rfl (mK _ _ _ _ _) (eR rfl) (λi hi=>⟨X.names rfl rfl (pF hi),.name (.loc (m':=[]) rfl),
   .md (.tuple (.cons (.cell rfl rfl) (.cons (.loc rfl rfl) .nil)) rfl) rfl (f5 (ak (bY hi) (ak h2 (by decide)))) eS⟩) (D.list hh rfl rfl (aj _))
 case hs =>
  exact fz.mk [(5,5),(6,7)] rfl rfl ⟨⟨_,rfl,Lp cz (by rw[DT,aY])⟩,⟨_,rfl,rfl⟩,⟨_,rfl,rfl⟩,⟨_,rfl,rfl⟩,⟨_,rfl,_,rfl,rfl,rfl,trivial⟩,⟨_,rfl,av⟩,trivial⟩
theorem HO:jx=[ai jx 0,ai jx 1,ai jx 2,ai jx 3,ai jx 4]:=by kernel_rfl
theorem Ez(h:oH l=some ps):(l.length<=1000/\(bQ l).length<=1000/\(bQ l).flatten.length<=1000)/\(az ((bQ l).flatten.length-1)).foldlM (gm (bQ l).flatten) (lq l)=some ps/\(lq l).length<=1000/\ps.length<=1000:=by
 unfold oH at h;by_cases c:l.length<=1000/\(bQ l).length<=1000/\(bQ l).flatten.length<=1000
 ·rw[if_pos c]at h
  have hp:(lq l).length<=1000:=by unfold lq;rw[aj,bU];exact ak (Nat.sub_le _ _) c.2.1
  exact⟨c,h,hp,ak (qA _ _ _ _ h) hp⟩
 ·rw[if_neg c]at h;cases h
theorem M7(B:aF G 4)(hh:G.A.handled=none)(h:oH l=some ps)(h1:acc.length<=1000):eA G 5 (eW tk) jx (wW row size pt l acc) .next (wW row (size+1) (some (.ref 6)) (bQ l).flatten (acc++ps.map λp=>(size+1,p))):=by
 refine Aa (Ez h) λDD hp p1 p2=>?_;obtain⟨c1,c2,c3⟩:=DD;exact .text HO (.cons (II B hh c1 c2) (.cons (DH B hh c2 c3) (.cons (M_ (os:=[]) B hh c3) (.cons (M9 B hh c3 p1 hp) (.cons (DI B hh h1 p2) .nil rfl) rfl) rfl) rfl) rfl)
theorem JZ(h:f3 n size l acc=some w):(102∈l/\∃k ps,n=k+1/\oH l=some ps/\acc.length<=1000/\f3 k (size+1) (bQ l).flatten (acc++ps.map λp=>(size+1,p))=some w/\iw n size l pt=iw k (size+1) (bQ l).flatten (some (.ref 6)))∨(102 ∉ l/\acc=w/\iw n size l pt=(size,l,pt)):=by
 cases n with
 |zero =>
  unfold f3 at h;by_cases c:102∈l
  ·rw[if_pos c]at h;cases h
  ·rw[if_neg c]at h;exact .inr ⟨c,a8 h,rfl⟩
 |succ n =>
  unfold f3 at h;by_cases c:102∈l
  ·rw[if_pos c]at h
   cases e:oH l with
   |none=>rw[e]at h;cases h
   |some ps =>
    rw[e]at h;by_cases c2:acc.length<=1000
    ·rw[ia,if_pos c2]at h
     exact .inl ⟨c,n,ps,rfl,rfl,c2,h,if_pos c⟩
    ·rw[ia,if_neg c2]at h;cases h
  ·rw[if_neg c]at h;exact .inr ⟨c,a8 h,if_neg c⟩
theorem DF{e: Env}{qQ: Expr}{body: List Stmt}{pos: Pos}{S:Int->Option CV->List Nat->List (Int×Int)->St}{w: List (Int×Int)}(hb:EB 5 e=true)(hT:∀size pt l acc,cD G e qQ (S size pt l acc) (decide (102∈l)) (S size pt l acc))
  (hB:∀size pt l acc ps,oH l=some ps->acc.length<=1000->eA G 5 e body (S size pt l acc) .next (S (size+1) (some (.ref 6)) (bQ l).flatten (acc++ps.map λp=>(size+1,p))))
  {k:Nat}{l0:List Nat}{f:Int×List Nat×Option CV}(h:f3 k 0 l0 []=some w) (hf:iw k 0 l0 none=f):SS G 5 e (.While qQ body [] pos) (S 0 none l0 []) .next (S f.1 f.2.2 f.2.1 w):=by
 refine .yx (λn σ=>∃size pt l acc,σ=S size pt l acc/\f3 n size l acc=some w/\iw n size l pt=f) k ⟨0,none,l0,[],rfl,h,hf⟩ hb ?_;intro n _ oT;refine vN (oT) λsize pt l acc SE h hf=>?_;obtain rfl:=SE;have hT:=hT size pt l acc;rcases JZ (pt:=pt) h with⟨c,k,ps,rfl,h1,h2,h3,h4⟩|⟨c,rfl,h4⟩
 ·rw[decide_eq_true c]at hT
  exact .inr ⟨_,_,_,k,hT,hB size pt l acc ps h1 h2,fz.refl,bg k,_,_,_,_,rfl,h3,h4.symm.trans hf⟩
 ·rw[decide_eq_false c]at hT
  rw[←hf,h4];exact .inl hT
end
section
variable{G:Gv}{σ:St}{n i tk m:Nat}{row ps:List Int}{l l':List Nat}{acc ws out:List (Int×Int)}{size:Int}{pt:Option CV}
seal aV cD SS eA bN d0 bH fH du cW eU fV dk gI fg kG SK SF m6
unseal st in
theorem IH{k:Nat}(B:aF G 4)(hh:G.A.handled=none)(h:f3 k 0 l []=some ws):SS G 5 (eW tk) (ai (fB (st 17)) 2) (wW row 0 none l []) .next (wW row (iw k 0 l none).1 (iw k 0 l none).2.2 (iw k 0 l none).2.1 ws):=by
 have wt:=λsize pt l acc ps h h1=>M7 (tk:=tk) (row:=row) (size:=size) (pt:=pt) (l:=l) (acc:=acc) (ps:=ps) B hh h h1
 conv in ai (fB (st 17)) 2=>whnf
 exact DF (S:=wW row) rfl (λsize pt l acc=>.cmp .str (.loc rfl rfl) (EY (by kernel_rfl))) wt h rfl
theorem oO(B:aF G n):Glob G (So "sorted") (.builtin "sorted"):=B.blt (λzz zz zz zz=>by kernel_rfl) (λzz zz zz zz=>by kernel_rfl)
theorem P9(h:xp ws=true)(i:Nat)(hi:i+1<ws.length):XN (ws.getD (i+1) (0,0)) (ws.getD i (0,0))=false:=by
 have:=List.all_eq_true.mp h i (List.mem_range.mpr (Nat.lt_sub_of_add_lt hi))
 rwa [jD]at this
unseal st in
theorem SM(B:aF G 4)(ho:xp ws=true)(Qp:ws.length<64):eA G m (eW tk) [ai (fB (st 17)) 3] (wW row size pt l ws) (.ret (.ref 7)) ((wW row size pt l ws).push (.list (ws.map gw))):=by
 conv in ai (fB (st 17)) 3=>whnf
 exact .stop (.ret (.dP (.glob (oO B)) (.cons (.loc rfl rfl) .nil) (uv rfl Qp (P9 ho)))) rfl
theorem Uc(tk:Nat):iW (n8 17 Ca tk 221) (fB (st 17)) [(So "parts",2),(So "size",1),(So "row",0)]:=⟨rfl,rfl,λL=>by kernel_rfl,by kernel_rfl,by kernel_rfl,by kernel_rfl,by kernel_rfl,by kernel_rfl⟩
theorem Xe{tk s}(a:af):bW s (n8 17 Ca tk 221) ⟨[a],[]⟩ [(So "row",a)]:=cj (K:=[]) (λzz zz h=>nomatch h) λS=>by kernel_rfl
theorem DR(h:oF row=some out):f3 (row.length+1) 0 (xh row) []=some out/\xp out=true/\out.length<64:=by
 unfold oF at h;cases e:f3 (row.length+1) 0 (xh row) []with
 |none=>rw[e]at h;cases h
 |some ws =>
  rw[e,ia]at h;by_cases c:xp ws=true/\ws.length<64
  ·rw[if_pos c]at h;cases h;exact⟨rfl,c⟩
  ·rw[if_neg c]at h;cases h
noncomputable abbrev Qz(row:List Int):Int×List Nat×Option CV:=iw (row.length+1) 0 (xh row) none
noncomputable abbrev YN(row:List Int)(out:List (Int×Int)):St:=(wW row (Qz row).1 (Qz row).2.2 (Qz row).2.1 out).push (.list (out.map gw))
theorem TJ(B:aF G 5)(hh:G.A.handled=none)(hb:jw row<=1000)(h:oF row=some out):SK G (λvs ws=>call (.ref 222) vs ([].zip ws)) [.ref 0] [] (sP row) (.ref 7) (YN row out):=by
 obtain⟨tk,D,C⟩:=B.Bl;obtain⟨h1,h2,h3⟩:=DR h;exact SK.fy (names:=[]) (m:=5) (f:=.ret (.ref 7)) (rb:=[(So "row",.ref 0)]) B.dH D B.dG C (Uc tk) (zw λα s u g q=>⟨_,Xe u,rfl,.aT q cf⟩) (by kernel_rfl) rfl (by kernel_rfl) λenv =>
  .text (show fB (st 17)=[ai (fB (st 17)) 0,ai (fB (st 17)) 1,ai (fB (st 17)) 2,ai (fB (st 17)) 3] by kernel_rfl) (.cons (IK B.deep hh hb) (.cons (IJ B.deep hh) (.cons (IH B.deep hh h1) (SM B.deep h2 h3) rfl) rfl) rfl)
end
section
open PyProof
variable{G:Gv}{n m bf:Nat}{e:Env}{σ σ2:St}{ks:List Nat}{a b c x hi:CV}{lo:Int}{fd:cm}{bn msg:Str}{fr:List (Str×CV)}{p1 p2 p3 p4 p5 p6 p7 p8 p9 wG wD Ie:Pos}{k1 k2:Nat}{bM T E:List Stmt}
noncomputable abbrev cn:Str:=So "lo must be non-negative"
theorem zT(B:aF G n):Glob G (So "ValueError") (.type "ValueError"):=B.blt (λzz zz zz zz=>by kernel_rfl) (λzz zz zz zz=>by kernel_rfl)
theorem Q4{P s}(X:(KS P).In s.heap)(a x l:af):bW s zK ⟨[a,x,l],[]⟩ [(So "a",a),(So "x",x),(So "lo",l),(So "hi",.none),(So "key",.none)]:=cj X λS=>by kernel_rfl
theorem Q1{P s}(X:(KS P).In s.heap)(a x l:af):bW s zH ⟨[a,x,l],[]⟩ [(So "a",a),(So "x",x),(So "lo",l),(So "hi",.none),(So "key",.none)]:=cj X λS=>by kernel_rfl
theorem QZ{P s}(X:(KS P).In s.heap)(a x l:af):bW s zG ⟨[a,x,l],[]⟩ [(So "a",a),(So "x",x),(So "lo",l),(So "hi",.none),(So "key",.none)]:=cj X λS=>by kernel_rfl
theorem QW{P s}(X:(KS P).In s.heap)(a x l:af):bW s xF ⟨[a,x,l],[]⟩ [(So "a",a),(So "x",x),(So "lo",l),(So "hi",.none),(So "key",.none)]:=cj X λS=>by kernel_rfl
theorem XP{P:AM->aq->List af->Prop}(h:∀α s u v w,GS G α σ s->VR α s.heap a u->VR α s.heap b v->VR α s.heap c w->P α s [u,v,w]):∀α s vs,GS G α σ s->dq α s.heap [a,b,c] vs->P α s vs:=by
 rintro α s _ g ⟨u,_,rfl,ru,v,_,rfl,rv,w,_,rfl,rw,rfl⟩;exact h α s u v w g ru rv rw
theorem lb4{P:AM->aq->List af->Prop}(h:∀α s u v w y,GS G α σ s->VR α s.heap a u->VR α s.heap b v->VR α s.heap c w->VR α s.heap x y->P α s [u,v,w,y]):∀α s vs,GS G α σ s->dq α s.heap [a,b,c,x] vs->P α s vs:=by
 rintro α s _ g ⟨u,_,rfl,ru,v,_,rfl,rv,w,_,rfl,rw,y,_,rfl,ry,rfl⟩;exact h α s u v w y g ru rv rw ry
theorem vJ.push(hs:vJ σ ks):vJ (σ.push (.frame fr)) (σ.n::ks):=by
 intro k hk;rw[show(σ.push (.frame fr)).get k=match aU k σ.n with|true=>some (.frame fr)|false=>cL σ.objs k from rfl];cases q:aU k σ.n with
 |true=>exact⟨_,rfl⟩
 |false =>
  rcases List.mem_cons.mp hk with e|hk
  ·rw[e,bL]at q;cases q
  ·exact hs k hk
theorem EK(hh:G.A.handled=none)(be:BE e)(hv:Glob G (So "ValueError") (.type "ValueError"))(hk:bx e (So "ValueError") .globalImplicit=true)(he:e.locals=σ.n)(hg:e.globals=3)(hb:e.builtins=0)(hs:vJ σ ks)(h0:lo<0):
  n9 G msg m e ks (.If (.Compare (.Name (So "lo") p1) [.Lt] [.Constant (.int 0) k1 p2] p3) [.Raise (some (.Call (.Name (So "ValueError") p4) [.Constant (.str msg) k2 p5] [] p6)) none p7] [] p8::bM) (σ.push (.frame (bF a x (.int lo) hi .none))) (σ.push (.frame (bF a x (.int lo) hi .none))):=
 .ifX (b:=true) (.cmp (.loc (he▸jc) rfl be.lo) .int (jv.to (decide_eq_true h0))) (.raise hh (.glob hv hk hg hb) (he▸hs.push))
theorem U_(be:BI e bn)(he:e.locals=σ.n)(D:f9 G bf fd)(hg:Glob G bn (.ref bf))(spec:dy G msg (σ.n::ks) (λvs=>call (.ref bf) vs) [a,x,.int lo,hi] (σ.push (.frame (bF a x (.int lo) hi .none))) σ2):
  n9 G msg m e ks (.If (.Compare (.Name (So "key") p1) [.Is] [.Constant .none k1 p2] p3) [.Assign [.Name (So "lo") p4] (.Call (.Name bn p5) [.Name (So "a") p6,.Name (So "x") p7,.Name (So "lo") p8,.Name (So "hi") p9] [] wG) wD] E Ie::T) (σ.push (.frame (bF a x (.int lo) hi .none))) σ2:=
 .ifX (b:=true) (.cmp (.loc (he▸jc) rfl be.key) .none kN) (.assign (.call D (.glob hg be.fn be.g be.b be.d) (.cons (.loc (he▸jc) rfl be.a) (.cons (.loc (he▸jc) rfl be.x) (.cons (.loc (he▸jc) rfl be.lo) (.cons (.loc (he▸jc) rfl be.hi) .nil)))) (he▸spec)))
unseal st in
theorem x39(B:aF G 0)(hs:vJ σ ks)(h0:lo<0):n9 G cn m (Yf σ.n) ks (fB (st 3)) (σ.push (.frame (bF a x (.int lo) hi .none))) (σ.push (.frame (bF a x (.int lo) hi .none))):=by
 conv in fB (st 3)=>whnf
 exact EK B.hh (QR _) (zT B) (by kernel_rfl) rfl rfl rfl hs h0
unseal st in
theorem x57(B:aF G 0)(hs:vJ σ ks)(h0:lo<0):n9 G cn m (Yd σ.n) ks (fB (st 5)) (σ.push (.frame (bF a x (.int lo) hi .none))) (σ.push (.frame (bF a x (.int lo) hi .none))):=by
 conv in fB (st 5)=>whnf
 exact EK B.hh (QQ _) (zT B) (by kernel_rfl) rfl rfl rfl hs h0
theorem Y8(B:aF G 1)(hs:vJ σ ks)(h0:lo<0):dy G cn ks (λvs=>call (.ref 39) vs) [a,x,.int lo] σ (σ.push (.frame (bF a x (.int lo) .none .none))):=
 .entry (m:=σ.n) (rb:=bF a x (.int lo) .none .none) B.dH (B.defAt qU qT) B.dG (B.dZ sx) rfl (XP λα s va vx vl g ra rx rl=>⟨_,Q1 (je B.KS g) va vx vl,rfl,.aT dw (.aT dw (.aT rl (.aT rx (.aT ra cf))))⟩) (by kernel_rfl) (by kernel_rfl) (aG _) (λenv=>x39 B.deep hs h0) (by kernel_rfl) (by kernel_rfl) (by kernel_rfl)
theorem N9(B:aF G 1)(hs:vJ σ ks)(h0:lo<0):dy G cn ks (λvs=>call (.ref 39) vs) [a,x,.int lo,hi] σ (σ.push (.frame (bF a x (.int lo) hi .none))):=
 .entry (m:=σ.n) (rb:=bF a x (.int lo) hi .none) B.dH (B.defAt qU qT) B.dG (B.dZ sx) rfl (lb4 λα s va vx vl vh g ra rx rl rh=>⟨_,HX (je B.KS g) va vx vl vh,rfl,.aT dw (.aT rh (.aT rl (.aT rx (.aT ra cf))))⟩) (by kernel_rfl) (by kernel_rfl) (aG _) (λenv=>x39 B.deep hs h0) (by kernel_rfl) (by kernel_rfl) (by kernel_rfl)
theorem Y6(B:aF G 1)(hs:vJ σ ks)(h0:lo<0):dy G cn ks (λvs=>call (.ref 57) vs) [a,x,.int lo] σ (σ.push (.frame (bF a x (.int lo) .none .none))):=
 .entry (m:=σ.n) (rb:=bF a x (.int lo) .none .none) B.dH (B.defAt pG pv) B.dG (B.dZ qn) rfl (XP λα s va vx vl g ra rx rl=>⟨_,QW (je B.KS g) va vx vl,rfl,.aT dw (.aT dw (.aT rl (.aT rx (.aT ra cf))))⟩) (by kernel_rfl) (by kernel_rfl) (aG _) (λenv=>x57 B.deep hs h0) (by kernel_rfl) (by kernel_rfl) (by kernel_rfl)
theorem N8(B:aF G 1)(hs:vJ σ ks)(h0:lo<0):dy G cn ks (λvs=>call (.ref 57) vs) [a,x,.int lo,hi] σ (σ.push (.frame (bF a x (.int lo) hi .none))):=
 .entry (m:=σ.n) (rb:=bF a x (.int lo) hi .none) B.dH (B.defAt pG pv) B.dG (B.dZ qn) rfl (lb4 λα s va vx vl vh g ra rx rl rh=>⟨_,HW (je B.KS g) va vx vl vh,rfl,.aT dw (.aT rh (.aT rl (.aT rx (.aT ra cf))))⟩) (by kernel_rfl) (by kernel_rfl) (aG _) (λenv=>x57 B.deep hs h0) (by kernel_rfl) (by kernel_rfl) (by kernel_rfl)
unseal st in
theorem x30(B:aF G 1)(hs:vJ σ ks)(h0:lo<0):n9 G cn m (Yg σ.n) ks (fB (st 2)) (σ.push (.frame (bF a x (.int lo) hi .none))) ((σ.push (.frame (bF a x (.int lo) hi .none))).push (.frame (bF a x (.int lo) hi .none))):=by
 conv in fB (st 2)=>whnf
 exact U_ (QP _) rfl (B.defAt qU qT) (zB B) (N9 B hs.push h0)
unseal st in
theorem x48(B:aF G 1)(hs:vJ σ ks)(h0:lo<0):n9 G cn m (Ye σ.n) ks (fB (st 4)) (σ.push (.frame (bF a x (.int lo) hi .none))) ((σ.push (.frame (bF a x (.int lo) hi .none))).push (.frame (bF a x (.int lo) hi .none))):=by
 conv in fB (st 4)=>whnf
 exact U_ (QO _) rfl (B.defAt pG pv) (xB B) (N8 B hs.push h0)
theorem Y9(B:aF G 2)(hs:vJ σ ks)(h0:lo<0):dy G cn ks (λvs=>call (.ref 30) vs) [a,x,.int lo] σ ((σ.push (.frame (bF a x (.int lo) .none .none))).push (.frame (bF a x (.int lo) .none .none))):=
 .entry (m:=σ.n) (rb:=bF a x (.int lo) .none .none) B.dH (B.defAt x9 xP) B.dG (B.dZ vj) rfl (XP λα s va vx vl g ra rx rl=>⟨_,Q4 (je B.KS g) va vx vl,rfl,.aT dw (.aT dw (.aT rl (.aT rx (.aT ra cf))))⟩) (by kernel_rfl) (by kernel_rfl) (aG _) (λenv=>x30 B.deep hs h0) (by kernel_rfl) (by kernel_rfl) (by kernel_rfl)
theorem Y7(B:aF G 2)(hs:vJ σ ks)(h0:lo<0):dy G cn ks (λvs=>call (.ref 48) vs) [a,x,.int lo] σ ((σ.push (.frame (bF a x (.int lo) .none .none))).push (.frame (bF a x (.int lo) .none .none))):=
 .entry (m:=σ.n) (rb:=bF a x (.int lo) .none .none) B.dH (B.defAt x8 xO) B.dG (B.dZ vi) rfl (XP λα s va vx vl g ra rx rl=>⟨_,QZ (je B.KS g) va vx vl,rfl,.aT dw (.aT dw (.aT rl (.aT rx (.aT ra cf))))⟩) (by kernel_rfl) (by kernel_rfl) (aG _) (λenv=>x48 B.deep hs h0) (by kernel_rfl) (by kernel_rfl) (by kernel_rfl)
end
section
open PyProof
variable{G:Gv}{n m tk i:Nat}{σ σ2:St}{ks:List Nat}{row el ll ln ml:List Int}{frL fr:List (Str×CV)}
noncomputable abbrev qF:Str:=Sx [95,108,97,119,95,104,101,108,100]
theorem ue(P:ae)(f:Nat->Obj)(kt tk:Nat):(fw P f kt tk).get? 241=some (Ff P kt tk):=by kernel_rfl
theorem Xn(P:ae)(f:Nat->Obj)(kt tk:Nat):(fw P f kt tk).get? 240=some (Fg P kt tk):=by kernel_rfl
theorem Wm(P:ae)(kt tk:Nat):(Ff P kt tk).data=.func (n8 20 qF tk 240):=by kernel_rfl
theorem aF.ue{G n}(B:aF G n):∃tk,ku G 241 240 238 (n8 20 qF tk 240):=by
 obtain⟨f,kt,tk,es,ep,_,_,c⟩:=B.heap;have h1:=c _ _ (by rfl) (Mine.Xn G.w.params f kt tk);exact⟨tk,⟨_,c _ _ (by rfl) (Mine.ue _ _ _ _),Wm _ _ _⟩,dA h1 rfl rfl,ql h1 rfl rfl rfl rfl rfl rfl rfl rfl rfl⟩
noncomputable def qH:Nat->Nat->Str:=λzz zz=>qF++aE ".<locals>."++aE "<lambda>"
noncomputable abbrev Bf(tk:Nat):Env:=entryE (n8 20 qF tk 240) [(So "tell",4),(So "high",3),(So "low",2),(So "spots",1),(So "row",0)] 3 241
noncomputable abbrev gE(n:Nat):Int:=(n:Int).fdiv 3
noncomputable abbrev dg(n:Nat):Int:=(n:Int)-(n:Int).fdiv 3
noncomputable abbrev hT0(frL:List (Str×CV))(row:List Int):St:=⟨[(2,.frame frL),(1,.tab 238 qH),(0,.list (row.map .int))],3⟩
noncomputable abbrev hA(row:List Int)(frL fr:List (Str×CV))(YM:Option CV)(os:List (Nat×AO))(n:Nat):St:=
 ⟨os++[(8,.cell YM),(7,.cell (some (.int (dg row.length)))),(6,.cell (some (.int (gE row.length)))),(5,.cell (some (.ref 11))),(4,.cell (some (.ref 0))),(3,.frame fr),(2,.frame frL),(1,.tab 238 qH),(0,.list (row.map .int))],n⟩
noncomputable abbrev hE(row:List Int)(frL:List (Str×CV)):St:=⟨[(8,.cell none),(7,.cell none),(6,.cell none),(5,.cell none),(4,.cell (some (.ref 0))),(3,.frame []),(2,.frame frL),(1,.tab 238 qH),(0,.list (row.map .int))],9⟩
noncomputable abbrev hF(more:List (Str×CV)):List (Str×CV):=[(So "words",.ref 9),(So "early",.ref 12),(So "late",.ref 13),(So "line",.ref 14),(So "mirror",.ref 15)]++more
noncomputable abbrev hM(g:n3)(row:List Int)(frL:List (Str×CV))(ws:List CV)(el ll ln ml:List Int)(more:List (Str×CV))(xs:List (Nat×AO))(n:Nat):St:=
 hA row frL (hF more) (some (.ref 16)) (xs++[(16,.fn g),(15,.list (ml.map .int)),(14,.list (ln.map .int)),(13,.list (ll.map .int)),(12,.list (el.map .int)),(11,.list ((bh row.length).map .int)),(9,.list ws)]) n
noncomputable abbrev hB(row:List Int)(frL:List (Str×CV)):St:=hA row frL [(So "words",.ref 9)] none [(11,.list ((bh row.length).map .int)),(9,.list [])] 12
theorem OD(tk:Nat):iW (n8 20 qF tk 240) (fB (st 20)) [(So "tell",4),(So "high",3),(So "low",2),(So "spots",1),(So "row",0)]:=⟨rfl,rfl,λL=>by kernel_rfl,by kernel_rfl,by kernel_rfl,by kernel_rfl,by kernel_rfl,by kernel_rfl⟩
theorem QU{tk s}(a:af):bW s (n8 20 qF tk 240) ⟨[a],[]⟩ [(So "row",a)]:=cj (K:=[]) (λzz zz h=>nomatch h) λS=>by kernel_rfl
theorem jd{r:Nat->Nat}(h:yj fr):jt r (.frame fr) (.frame fr):=⟨fr,rfl,h r⟩
seal aV cD SS eA bN d0 bH fH du cW eU fV dk gI fg kG SK SF m6
unseal st in
theorem hd0(B:aF G 4)(hh:G.A.handled=none)(hl:row.length<2^16)(hr:yj frL):SS G 9 (Bf tk) (ai (fB (st 20)) 0) (hE row frL) .next (hB row frL):=by
 conv in ai (fB (st 20)) 0=>whnf
 have VY:row.length<2^20:=aA hl (by decide);exact .mM (.gH (.tuple (.cons (.list .nil rfl) (.cons (.gi (.glob (me B)) (.cons (.gi (.glob (dC B)) (.cons (.dP (.glob (ey B)) (.cons (.cell rfl rfl) .nil) (j2 rfl VY)) .nil) mA) .nil) (list_range hh rfl VY))
  (.cons (.bin (.dP (.glob (ey B)) (.cons (.cell rfl rfl) .nil) (j2 rfl VY)) .int (jY (by decide) (by decide)))
  (.cons (.bin (.dP (.glob (ey B)) (.cons (.cell rfl rfl) .nil) (j2 rfl VY)) (.bin (.dP (.glob (ey B)) (.cons (.cell rfl rfl) .nil) (j2 rfl VY)) .int (jY (by decide) (by decide))) lH) .nil)))) rfl)
  (.tuple hh (.name (.loc (m':=[]) rfl) (.name (.cell rfl rfl) (.name (.cell rfl rfl) (.name (.cell rfl rfl) .nil))))) (hw:=λenv h=>(bE h).trans (by kernel_rfl)))
  (fz.mk [(9,9),(11,11)] rfl rfl ⟨⟨_,rfl,av⟩,⟨_,rfl,rfl⟩,⟨_,rfl,rfl⟩,⟨_,rfl,rfl⟩,⟨_,rfl,rfl⟩,⟨_,rfl,rfl⟩,⟨_,rfl,rfl⟩,⟨_,rfl,_,rfl,rfl,trivial⟩,⟨_,rfl,jd hr⟩,⟨_,rfl,rfl⟩,⟨_,rfl,av⟩,trivial⟩)
unseal st in
theorem hd1(tk:Nat):∃g,iV g (So "one")/\g.clos=[(So "row",4)]/\∀(G:Gv)(row:List Int) (frL:List (Str×CV)),aF G 4->G.A.handled=none->CodeHd G.h₀ 240 238->row.length<2^16->SS G 9 (Bf tk) (ai (fB (st 20)) 1) (hB row frL) .next (hM g row frL [] row row [] [] [] [] 17):=by
 conv in ai (fB (st 20)) 1=>whnf
 apply Exists.intro;refine⟨?h1,?h2,λG row frL B hh A hl=>?h3⟩
 case h3 =>
  refine aH (B.mods 238 (by decide)) λmg Ij uT=>?_;have hf:(row.map CV.int).length<=bC:=pk (aA hl (by decide));exact .gH (.tuple (.cons (.gi (.glob (me B)) (.cons (.cell rfl rfl) .nil) (o5 rfl hf)) (.cons (.gi (.glob (me B)) (.cons (.cell rfl rfl) .nil) (o5 rfl hf))
   (.cons (.list .nil rfl) (.cons (.list .nil rfl) (.cons (.rY (c:=240) (P:=238) (clos:=[(So "row",4)]) rfl rfl Ij rfl A uT (k:=1) rfl rfl) .nil))))) rfl)
   (.tuple hh (.name (.loc (m':=[(So "words",.ref 9)]) rfl) (.name (.loc (m':=[(So "words",.ref 9),(So "early",.ref 12)]) rfl) (.name (.loc (m':=[(So "words",.ref 9),(So "early",.ref 12),(So "late",.ref 13)]) rfl) (.name (.loc (m':=[(So "words",.ref 9),(So "early",.ref 12),(So "late",.ref 13),(So "line",.ref 14)]) rfl) (.name (.cell rfl rfl) .nil)))))) (hw:=λenv h=>(bE h).trans (by kernel_rfl))
 case h1=>exact⟨⟨_,_,_,_,_,rfl⟩,λzz zz zz zz zz=>rfl,⟨rfl,rfl⟩,rfl,rfl,rfl,rfl,rfl⟩
 case h2=>rfl
end
section
open PyProof
variable{G:Gv}{n m tk i a:Nat}{e:Env}{σ σ1 σ2:St}{ks:List Nat}{row el ll ln ml:List Int}{frL fr:List (Str×CV)}{g:n3}{c x:CV}{y0:Stmt}{f:List (Str×CV)}{k:Nat}{y:Str}
theorem mZ.mM(h:mZ G ks m e y0 σ .next σ1)(k:fz m σ1 σ2):mZ G ks m e y0 σ .next σ2:=by
 intro α s env E i g q;refine wQ (h α s env E i g q) ?_;rintro _ s1 ⟨β,x,g1,rfl⟩;obtain⟨γ,y,g2⟩:=k G β s1 g1;exact⟨γ,x.trans y,g2,rfl⟩
theorem Glob.re{v w: af}{h: Heap}(q:Glob G y v)(k:∀b o,G.h₀.get? b=some o->h.get? b=some o):Glob (Ry G w h) y v:=by
 rcases q with⟨mg,h1,h2⟩|⟨mg,mb,h1,h2,h3,h4⟩
 ·exact .inl ⟨mg,h1.keeps k,h2⟩
 ·exact .inr ⟨mg,mb,h1.keeps k,h2,h3.keeps k,h4⟩
noncomputable abbrev BJ:List Nat:=[57,39,48,30]
theorem TU(B:aF G 2)(hs:vJ σ ks)(ha:a∈BJ):∃fd Bs,f9 G a fd/\dy G cn ks (λvs=>call (.ref a) vs) [c,x,.int (-1)] σ Bs/\∃f,Bs=σ.push (.frame f)∨Bs=(σ.push (.frame f)).push (.frame f):=by
 rcases List.mem_cons.mp ha with rfl|ha
 ·exact qw _ _ ⟨B.defAt pG pv,Y6 (B.le rfl) hs (by decide),_,.inl rfl⟩
 rcases List.mem_cons.mp ha with rfl|ha
 ·exact qw _ _ ⟨B.defAt qU qT,Y8 (B.le rfl) hs (by decide),_,.inl rfl⟩
 rcases List.mem_cons.mp ha with rfl|ha
 ·exact qw _ _ ⟨B.defAt x8 xO,Y7 B hs (by decide),_,.inr rfl⟩
 cases List.mem_singleton.mp ha;exact qw _ _ ⟨B.defAt x9 xP,Y9 B hs (by decide),_,.inr rfl⟩
theorem tK{r:Nat->Nat}:∀k,cV r (aI k (.str y))=aI k (.str y):=by
 intro k
 induction k with
 |zero=>rfl
 |succ k ih=>exact congrArg (CV.str y::·) ih
theorem nA{r:Nat->Nat}:jt r (.list (aI k (.str y))) (.list (aI k (.str y))):=congrArg AO.list (tK k).symm
theorem Jx{r:Nat->Nat}:jt r (.list (aI k (.str y)++[.str y])) (.list (aI (k+1) (.str y))):=congrArg AO.list (List.replicate_succ'.symm.trans (tK (k+1)).symm)
theorem KP(B:aF G n):Glob G (So "str") (.type "str"):=B.blt (λzz zz zz zz=>by kernel_rfl) (λzz zz zz zz=>by kernel_rfl)
theorem Qt(B:aF G n):Glob G (So "insort_left") (.ref 48):=B.glob λzz zz zz zz=>by kernel_rfl
theorem Qu(B:aF G n):Glob G (So "insort_right") (.ref 30):=B.glob λzz zz zz zz=>by kernel_rfl
noncomputable abbrev hW(g:n3)(row:List Int)(frL:List (Str×CV))(ws:List CV)(more:List (Str×CV))(i:Nat):St:=hM g row frL ws row row [] [] more [(18,.i6 17 i),(17,.list (BJ.map λa=>.val (.ref a)))] 19
theorem Kf(hr:yj frL)(hc:g.clos=[(So "row",4)]):fz 19 ((hW g row frL (aI k (.str cn)) [(So "search",.val (.ref a))] i).push (.frame f)) (hW g row frL (aI k (.str cn)) [(So "search",.val (.ref a))] i):=
 fz.mk [] rfl rfl ⟨⟨_,rfl,rfl⟩,⟨_,rfl,rfl⟩,⟨_,rfl,mO hc rfl⟩,⟨_,rfl,rfl⟩,⟨_,rfl,rfl⟩,⟨_,rfl,av⟩,⟨_,rfl,av⟩,⟨_,rfl,av⟩,⟨_,rfl,nA⟩,⟨_,rfl,rfl⟩,⟨_,rfl,rfl⟩,⟨_,rfl,rfl⟩,⟨_,rfl,rfl⟩,⟨_,rfl,rfl⟩,⟨_,rfl,_,rfl,rfl,rfl,rfl,rfl,rfl,rfl,trivial⟩,⟨_,rfl,jd hr⟩,⟨_,rfl,rfl⟩,⟨_,rfl,av⟩,trivial⟩
theorem Ke(hr:yj frL)(hc:g.clos=[(So "row",4)]):fz 19 (((hW g row frL (aI k (.str cn)) [(So "search",.val (.ref a))] i).push (.frame f)).push (.frame f)) (hW g row frL (aI k (.str cn)) [(So "search",.val (.ref a))] i):=
 fz.mk [] rfl rfl ⟨⟨_,rfl,rfl⟩,⟨_,rfl,rfl⟩,⟨_,rfl,mO hc rfl⟩,⟨_,rfl,rfl⟩,⟨_,rfl,rfl⟩,⟨_,rfl,av⟩,⟨_,rfl,av⟩,⟨_,rfl,av⟩,⟨_,rfl,nA⟩,⟨_,rfl,rfl⟩,⟨_,rfl,rfl⟩,⟨_,rfl,rfl⟩,⟨_,rfl,rfl⟩,⟨_,rfl,rfl⟩,⟨_,rfl,_,rfl,rfl,rfl,rfl,rfl,rfl,rfl,trivial⟩,⟨_,rfl,jd hr⟩,⟨_,rfl,rfl⟩,⟨_,rfl,av⟩,trivial⟩
theorem Kg(hr:yj frL)(hc:g.clos=[(So "row",4)]):fz 19 (hW g row frL (aI k (.str cn)++[.str cn]) [(So "search",.val (.ref a))] i) (hW g row frL (aI (k+1) (.str cn)) [] i):=
 fz.mk [] rfl rfl ⟨⟨_,rfl,rfl⟩,⟨_,rfl,rfl⟩,⟨_,rfl,mO hc rfl⟩,⟨_,rfl,rfl⟩,⟨_,rfl,rfl⟩,⟨_,rfl,av⟩,⟨_,rfl,av⟩,⟨_,rfl,av⟩,⟨_,rfl,Jx⟩,⟨_,rfl,rfl⟩,⟨_,rfl,rfl⟩,⟨_,rfl,rfl⟩,⟨_,rfl,rfl⟩,⟨_,rfl,rfl⟩,⟨_,rfl,_,rfl,rfl,rfl,rfl,rfl,rfl,trivial⟩,⟨_,rfl,jd hr⟩,⟨_,rfl,rfl⟩,⟨_,rfl,av⟩,trivial⟩
theorem Qa{ws: List CV}{more: List (Str×CV)}:vJ (hW g row frL ws more i) [3,2]:=by
 intro k hk;rcases List.mem_cons.mp hk with rfl|hk
 ·exact⟨_,rfl⟩
 ·cases List.mem_singleton.mp hk;exact⟨_,rfl⟩
noncomputable abbrev xU:List Stmt:=fB (ai (fB (st 20)) 2)
seal aV cD SS eA bN d0 bH fH du cW eU fV dk gI fg kG SK SF m6 mZ iz sS n9 dy
unseal st in
theorem VM(B:aF G 4)(hr:yj frL)(hc:g.clos=[(So "row",4)])(ha:a∈BJ)(hi:i<4):mZ G [3,2] 19 (Bf tk) (ai xU 0) (hW g row frL (aI i (.str cn)) [(So "search",.val (.ref a))] (i+1)) .next
  (hW g row frL (aI i (.str cn)++[.str cn]) [(So "search",.val (.ref a))] (i+1)):=by
 conv in ai xU 0=>whnf
 refine .NA (msg:=cn) (σ1:=hW g row frL (aI i (.str cn)) [(So "search",.val (.ref a))] (i+1)) (S2:=λy=>hW g row frL (aI i (.str cn)++[.str cn]) [(So "search",.val (.ref a)),(So "error",.val (.ref y))] (i+1)) (zT B) (by kernel_rfl) (by kernel_rfl) rfl rfl rfl rfl ?hX rfl rfl ?hs ?h2
 case hX =>
  refine c_ λj7 ef=>?_;obtain⟨fd,Bs,D,hR,f,hσ⟩:=TU (c:=.ref 0) (x:=.int 5) (B.le rfl) (Qa (g:=g) (row:=row) (frL:=frL) (ws:=aI i (.str cn)) (more:=[(So "search",.val (.ref a))]) (i:=i+1)) ha;refine ef ?_;refine⟨Bs,.call D (.loc rfl rfl) (.cons (.cell rfl rfl) (.cons .int (.cons (.un .int nz) .nil))) hR,?_⟩;rcases hσ with rfl|rfl
  ·exact Kf hr hc
  ·exact Ke hr hc
 case hs =>
  intro y t h ea;have hu:G.A.units+2<cLine:=aA (bc (gk (show 2<=10*4 by decide) _) B.un) (show 9000<=9900 by decide);exact .cons (.to (.expr (.qR fQ bI rfl (.loc rfl rfl) (gR rfl) (.cons (.gi (.glob ((KP B).re ea.sub)) (.cons (.loc rfl rfl) .nil) (I_ ea hu)) .nil) (list_append rfl (by rw[List.length_replicate];exact ak (bY hi) (by decide))))) rfl) .nil rfl
 case h2=>exact λy=>⟨_,rfl,by kernel_rfl⟩
unseal st in
theorem hd2(B:aF G 4)(hh:G.A.handled=none)(hr:yj frL)(hc:g.clos=[(So "row",4)]):mZ G [3,2] 9 (Bf tk) (ai (fB (st 20)) 2) (hM g row frL [] row row [] [] [] [] 17) .next (hM g row frL (aI 4 (.str cn)) row row [] [] [] [] 17):=by
 have body:∀i a,i<4->a∈BJ->iz G [3,2] 19 (Bf tk) xU (hW g row frL (aI i (.str cn)) [(So "search",.val (.ref a))] (i+1)) .next (hW g row frL (aI i (.str cn)++[.str cn]) [(So "search",.val (.ref a))] (i+1)):=λi a hi ha=>by
  rw[show xU=[ai xU 0] by kernel_rfl];exact .cons (VM B hr hc ha hi) (.of .nil) rfl rfl
 conv in ai (fB (st 20)) 2=>whnf
 refine .mM (.for (m':=19) (it:=18) 4 (λi=>hW g row frL (aI i (.str cn)) [] i) rfl rfl (by decide) (by decide) (.list (.cons (.glob (xB B)) (.cons (.glob (zB B)) (.cons (.glob (Qt B)) (.cons (.glob (Qu B)) .nil)))) rfl) (cM rfl) (λi hi=>?_) (D.list hh rfl rfl rfl)) ?_
 ·obtain⟨a,ha⟩:∃a,BJ[i]?=some a:=⟨BJ[i],aD hi⟩
  exact⟨_,⟨_,_,_,X.names rfl rfl (by rw[br,ha];rfl),.name (.loc (m':=hF []) rfl),body i a hi (List.mem_of_getElem? ha)⟩,Kg hr hc⟩
 ·exact fz.mk [(9,9),(11,11),(12,12),(13,13),(14,14),(15,15),(16,16)] rfl rfl ⟨⟨_,rfl,mO hc rfl⟩,⟨_,rfl,rfl⟩,⟨_,rfl,rfl⟩,⟨_,rfl,av⟩,⟨_,rfl,av⟩,⟨_,rfl,av⟩,⟨_,rfl,nA⟩,⟨_,rfl,rfl⟩,⟨_,rfl,rfl⟩,⟨_,rfl,rfl⟩,⟨_,rfl,rfl⟩,⟨_,rfl,rfl⟩,⟨_,rfl,_,rfl,rfl,rfl,rfl,rfl,rfl,trivial⟩,⟨_,rfl,jd hr⟩,⟨_,rfl,rfl⟩,⟨_,rfl,av⟩,trivial⟩
end
section
open PyProof
variable{G:Gv}{n m tk i a:Nat}{e:Env}{σ σ1 σ2:St}{ks:List Nat}{row el ll ln ml:List Int}{frL fr:List (Str×CV)}{g:n3}{c x:CV}{ws:List CV}{k:Nat}{b hi j:Int}
theorem KU{a m: Int}(h:m<hi)(hn:hi-a<=((n+1:Nat):Int)):m-a<=n:=by lia
theorem KR{a m: Int}(h:a<=m)(hn:hi-a<=((n+1:Nat):Int)):hi-(m+1)<=n:=by lia
theorem pD(lt:Int->Bool):∀(n:Nat)(lo hi:Int),lo<=hi->(hi-lo).toNat<=n->(∀k,lo<=k->k<hi->lt k=true)->jh lt n lo hi=lo:=by
 intro n
 induction n with
 |zero=>intro lo hi _ _ _;rfl
 |succ n ih =>
  intro lo hi h hn ha;by_cases c:lo<hi
  ·have:=jZ c
   rw[zU c,ha _ this.1 this.2];exact ih lo _ this.1 (Int.toNat_le.mpr (KU this.2 (Int.toNat_le.mp hn))) λk h1 h2=>ha k h1 (fj h2 this.2)
  ·unfold jh;rw[if_neg c]
theorem nX(lt:Int->Bool):∀(n:Nat)(lo hi:Int),lo<=hi->(hi-lo).toNat<=n->(∀k,lo<=k->k<hi->lt k=false)->jh lt n lo hi=hi:=by
 intro n
 induction n with
 |zero=>intro lo hi h hn _;unfold jh;lia
 |succ n ih =>
  intro lo hi h hn ha;by_cases c:lo<hi
  ·have:=jZ c
   rw[zU c,ha _ this.1 this.2];exact ih _ hi this.2 (Int.toNat_le.mpr (KR this.1 (Int.toNat_le.mp hn))) λk h1 h2=>ha k (aQ this.1 (fW h1)) h2
  ·unfold jh;rw[if_neg c];lia
structure ez(row:List Int):Prop where
 len:row.length<2^16
 inc:∀i,i+1<row.length->row.getD i 0<row.getD (i+1) 0
 gQ:∀i,i<row.length->0<=row.getD i 0/\row.getD i 0<999
theorem ez.mono{row}(R:ez row):∀d i:Nat,i+d<row.length->row.getD i 0+d<=row.getD (i+d) 0:=by
 intro d
 induction d with
 |zero=>intro i h;simp
 |succ d ih =>
  intro i h;have h1:=ih i (by lia);have h2:=R.inc (i+d) (by lia);rw[show i+(d+1)=i+d+1 by lia]
  push_cast
  lia
theorem P2{a i: Int}(h:a+(j-i)<=b):a-i<=b-j:=by lia
theorem J7{a i: Int}(h1:0<=b)(h2:b+i<=a)(h3:a<999)(h4:0<=i):0<=a-i/\a-i<999:=by lia
theorem ez.key{row}(R:ez row){i: Int}(h0:0<=i)(h:i<=j)(hj:j<row.length):keyOf row i<=keyOf row j:=by
 have e:=oa h0 h;have:=R.mono (j-i).toNat i.toNat (e▸qz (aQ h0 h) hj);unfold keyOf;rw[e,eV (Int.sub_nonneg.mpr h)]at this;exact P2 this
theorem ez.J6{row}(R:ez row){i: Int}(h0:0<=i)(hi:i<row.length):0<=keyOf row i/\keyOf row i<999:=by
 have hl:=qz h0 hi;have h1:=R.gQ i.toNat hl;have h2:=R.mono i.toNat 0 ((fh _).symm▸hl);have h3:=R.gQ 0 (bc (aW _) hl);unfold keyOf;rw[fh,eV h0]at h2;exact J7 h3.1 h2 h1.2 h0
theorem ma(n:Nat):0<=gE n/\gE n<=dg n/\dg n<=n:=by
 unfold gE dg;rw[lT _ (by decide)];lia
theorem ez.GK(R:ez row):row.length<2^20:=aA R.len (by decide)
theorem ez.RL(R:ez row):row.length<2^60:=aA R.len (by decide)
theorem ez.ZX(R:ez row):jh (λk=>!decide (row.getD k.toNat 0 < -1)) (dg row.length-gE row.length).toNat (gE row.length) (dg row.length)=gE row.length:=by
 have hl:=ma row.length;refine pD _ _ _ _ hl.2.1 (aG _) λk h1 h2=>?_;have:=R.gQ k.toNat (by lia);rw[decide_eq_false (by lia)];rfl
theorem ez.Vy(R:ez row):jh (λk=>decide ((999:Int)<row.getD k.toNat 0)) (dg row.length-gE row.length).toNat (gE row.length) (dg row.length)=dg row.length:=by
 have hl:=ma row.length;refine nX _ _ _ _ hl.2.1 (aG _) λk h1 h2=>?_;have:=R.gQ k.toNat (by lia);exact decide_eq_false (by lia)
theorem rF(h:i<n):(bh n)[i]?=some (i:Int):=by simp[bh,h]
theorem pR(h:k<n):(bh n).getD k 0=k:=by rw[aB,rF h];rfl
noncomputable def n4(n:Nat):Nat->List Int
 |0=>[]
 |i+1=>((n:Int)-1-i)::n4 n i
theorem kP:∀i,(n4 n i).length=i:=by
 intro i
 induction i with
 |zero=>rfl
 |succ i ih=>exact congrArg (·+1) ih
theorem rW:∀i k,k<i->(n4 n i).getD k 0=(n:Int)-i+k:=by
 intro i
 induction i with
 |zero=>intro k h;cases h
 |succ i ih =>
  intro k h;cases k with
  |zero=>show(n:Int)-1-i=_;lia
  |succ k=>show(n4 n i).getD k 0=_;rw[ih k (jN h)];lia
theorem Gr(h:i<=n){x: Int}(hx:x∈n4 n i):0<=x/\x<n:=by
 obtain⟨k,hk,e⟩:=List.mem_iff_getElem.mp hx;rw[kP]at hk;have:=rW (n:=n) i k hk;rw[aB,aD (by rw[kP];exact hk),e]at this;have this:x=_:=this;lia
theorem Gs(n:Nat):n4 n n=bh n:=by
 refine List.ext_getElem (by rw[kP,gO]) λk h1 h2=>?_;rw[kP]at h1;have e1:=rW (n:=n) n k h1;have e2:=pR h1;rw[aB,aD (by rw[kP];exact h1)]at e1;rw[aB,aD h2]at e2;have e1:(n4 n n)[k]=_:=e1;have e2:(bh n)[k]=_:=e2;rw[e1,e2];lia
theorem oV(h:i<=n):((bh n).take i).length=i:=by rw[List.length_take,gO];lia
theorem ez.atEnd(R:ez row)(hi:i<row.length):jh (λk=>decide (keyOf row i<keyOf row (((bh row.length).take i).getD k.toNat 0))) ((((bh row.length).take i).length:Int)-0).toNat 0 ((bh row.length).take i).length=i:=by
 rw[oV (bY hi)];refine nX _ _ _ _ (aP _) (aG _) λk h1 h2=>?_;have e:((bh row.length).take i).getD k.toNat 0=k.toNat:=by
  rw[←pR (n:=row.length) (k:=k.toNat) (by lia),aB,aB,List.getElem?_take,if_pos (by lia)]
 rw[e];have:=R.key (i:=((k.toNat:Nat):Int)) (j:=i) (by lia) (by lia) (by lia);exact decide_eq_false (by lia)
theorem J'(hi:i<n):insI ((bh n).take i) i i=(bh n).take (i+1):=by
 unfold insI;rw[eK,gC (bK (oV (bY hi))),List.drop_eq_nil_of_le (bK (oV (bY hi))),List.take_add_one,rF hi];rfl
theorem ez.KZ(R:ez row)(hi:i<row.length):jh (λk=>!decide (keyOf row ((n4 row.length i).getD k.toNat 0)<keyOf row ((row.length:Int)-1-i))) (((n4 row.length i).length:Int)-0).toNat 0 (n4 row.length i).length=0:=by
 rw[kP];refine pD _ _ _ _ (aP _) (aG _) λk h1 h2=>?_;rw[rW _ _ (by lia)];have:=R.key (i:=(row.length:Int)-1-i) (j:=(row.length:Int)-i+k.toNat) (by lia) (by lia) (by lia);rw[decide_eq_false (by lia)];rfl
noncomputable abbrev hG(g:n3)(row:List Int)(frL:List (Str×CV))(ws:List CV)(ln ml:List Int)(more:List (Str×CV))(xs:List (Nat×AO))(n:Nat):St:=
 hM g row frL ws (insI row (gE row.length) (-1)) (insI row (dg row.length) 999) ln ml ([(So "gave",.ref 17)]++more) (xs++[(17,.list [.none,.none])]) n
seal aV cD SS eA bN d0 bH fH du cW eU fV dk gI fg kG SK SF m6 mZ iz sS n9 dy
unseal st in
theorem hd3(B:aF G 4)(R:ez row):SS G 9 (Bf tk) (ai (fB (st 20)) 3) (hM g row frL ws row row [] [] [] [] 17) .next (hG g row frL ws [] [] [] [] 18):=by
 conv in ai (fB (st 20)) 3=>whnf
 have hl:=ma row.length;exact .to (.assign (.list (.cons (.gy (B.defAt x8 xO) (.glob (Qt B)) (.cons (.loc rfl rfl) (.cons (.un .int nz) (.cons (.cell rfl rfl) (.cons (.cell rfl rfl) .nil))))
   (SK.og (g:=λvs=>call (.ref 48) vs) (SK.wu (k0:=12) rfl (λh k=>N1 (hi:=some (dg row.length)) (B.le rfl |>.ext k) R.GK hl.1 hl.2.1 hl.2.2 R.ZX) rfl (λzz=>rfl) λzz=>rfl)))
  (.cons (.gy (B.defAt x9 xP) (.glob (Qu B)) (.cons (.loc rfl rfl) (.cons .int (.cons (.cell rfl rfl) (.cons (.cell rfl rfl) .nil))))
   (SK.og (g:=λvs=>call (.ref 30) vs) (SK.wu (k0:=13) rfl (λh k=>N4 (hi:=some (dg row.length)) (B.le rfl |>.ext k) R.GK hl.1 hl.2.1 hl.2.2 R.Vy) rfl (λzz=>rfl) λzz=>rfl))) .nil)) rfl) (.loc (m':=hF []) rfl)) rfl
noncomputable abbrev nK:List Stmt:=fB (ai (fB (st 20)) 4)
noncomputable abbrev hL(g:n3)(row:List Int)(frL:List (Str×CV))(ws:List CV)(ln ml:List Int)(more:List (Str×CV))(i:Nat):St:=hG g row frL ws ln ml more [(18,.i6 11 i)] 19
unseal st in
theorem aax(B:aF G 4)(R:ez row)(K:iV g (So "one"))(hc:g.clos=[(So "row",4)])(hi:i<row.length):SS G 19 (Bf tk) (ai nK 0) (hL g row frL ws ((bh row.length).take i) ml [(So "k",.int i)] (i+1)) .next (hL g row frL ws ((bh row.length).take (i+1)) ml [(So "k",.int i)] (i+1)):=by
 conv in ai nK 0=>whnf
 have e:=J' hi;exact .to (.expr (.qq (names:=[So "key"]) (B.defAt x9 xP) (.glob (Qu B)) (.cons (.loc rfl rfl) (.cons (.loc rfl rfl) .nil)) (.cons (.cell rfl rfl) .nil)
  (SK.EO (k0:=14) (k1:=16) (k2:=4) (k3:=0) rfl rfl hc rfl rfl (by decide) (λh k=>N3 (nm:=So "one") (B.le (m:=2) rfl |>.ext k) K rfl R.RL (λx hx=>kL (List.mem_of_mem_take hx)) ⟨aP _,Int.ofNat_lt.mpr hi⟩ (by rw[oV (bY hi)];exact iA hi R.GK) (R.atEnd hi)) rfl rfl rfl rfl (λzz=>rfl) λzz=>rfl))) (by rw[e];rfl)
unseal st in
theorem aaw(B:aF G 4)(R:ez row)(K:iV g (So "one"))(hc:g.clos=[(So "row",4)])(hi:i<row.length):SS G 19 (Bf tk) (ai nK 1) (hL g row frL ws ln (n4 row.length i) [(So "k",.int i)] (i+1)) .next (hL g row frL ws ln (n4 row.length (i+1)) [(So "k",.int i)] (i+1)):=by
 conv in ai nK 1=>whnf
 exact .to (.expr (.qq (names:=[So "key"]) (B.defAt x8 xO) (.glob (Qt B)) (.cons (.loc rfl rfl) (.cons (.bin (.bin (.dP (.glob (ey B)) (.cons (.cell rfl rfl) .nil) (j2 rfl R.GK)) .int lH) (.loc rfl rfl) lH) .nil)) (.cons (.cell rfl rfl) .nil)
  (SK.EO (k0:=15) (k1:=16) (k2:=4) (k3:=0) rfl rfl hc rfl rfl (by decide) (λh k=>N0 (nm:=So "one") (B.le (m:=2) rfl |>.ext k) K rfl R.RL (λx hx=>Gr (bY hi) hx) ⟨by lia,by lia⟩ (by rw[kP];exact iA hi R.GK) (R.KZ hi)) rfl rfl rfl rfl (λzz=>rfl) λzz=>rfl))) rfl
theorem Kh(hr:yj frL)(hc:g.clos=[(So "row",4)]):fz 19 (hL g row frL (aI k (.str cn)) ln ml [(So "k",.int i)] a) (hL g row frL (aI k (.str cn)) ln ml [] a):=
 fz.mk [] rfl rfl ⟨⟨_,rfl,rfl⟩,⟨_,rfl,rfl⟩,⟨_,rfl,mO hc rfl⟩,⟨_,rfl,av⟩,⟨_,rfl,av⟩,⟨_,rfl,av⟩,⟨_,rfl,av⟩,⟨_,rfl,av⟩,⟨_,rfl,nA⟩,⟨_,rfl,rfl⟩,⟨_,rfl,rfl⟩,⟨_,rfl,rfl⟩,⟨_,rfl,rfl⟩,⟨_,rfl,rfl⟩,⟨_,rfl,_,rfl,rfl,rfl,rfl,rfl,rfl,rfl,trivial⟩,⟨_,rfl,jd hr⟩,⟨_,rfl,rfl⟩,⟨_,rfl,av⟩,trivial⟩
unseal st in
theorem hd4(B:aF G 4)(hh:G.A.handled=none)(R:ez row)(hr:yj frL)(K:iV g (So "one"))(hc:g.clos=[(So "row",4)]):SS G 9 (Bf tk) (ai (fB (st 20)) 4) (hG g row frL (aI k (.str cn)) [] [] [] [] 18) .next (hG g row frL (aI k (.str cn)) (bh row.length) (bh row.length) [] [] 19):=by
 have body:∀i,i<row.length->eA G 19 (Bf tk) nK (hL g row frL (aI k (.str cn)) ((bh row.length).take i) (n4 row.length i) [(So "k",.int i)] (i+1)) .next (hL g row frL (aI k (.str cn)) ((bh row.length).take (i+1)) (n4 row.length (i+1)) [(So "k",.int i)] (i+1)):=λi hi=>by
  rw[show nK=[ai nK 0,ai nK 1] by kernel_rfl];exact .cons (aax B R K hc hi) (.cons (aaw B R K hc hi) .nil rfl) rfl
 have e:(hL g row frL (aI k (.str cn)) ((bh row.length).take row.length) (n4 row.length row.length) [] row.length).del 18=hG g row frL (aI k (.str cn)) (bh row.length) (bh row.length) [] [] 19:=by
  rw[Gs,gC (bK (gO _))];rfl
 conv in ai (fB (st 20)) 4=>whnf
 refine .to (.for (m':=19) (it:=18) row.length (λi=>hL g row frL (aI k (.str cn)) ((bh row.length).take i) (n4 row.length i) [] i) rfl (by decide) (by decide) (.cell rfl rfl) (cM rfl) (λi hi=>?_) (D.list hh rfl rfl (by rw[aj,gO]))) e;exact⟨_,⟨_,_,_,X.names rfl rfl (by rw[br,rF hi];rfl),.name (.loc (m':=hF [(So "gave",.ref 17)]) rfl),body i hi⟩,Kh hr hc⟩
end
section
open PyProof
variable{G:Gv}{n m tk i j a:Nat}{e e':Env}{σ σ1 σ2:St}{row:List Int}{lo hi:Int}{frL fr:List (Str×CV)}{g:n3}{ws:List CV}{Y:List (Nat×AO)}{elt i0:Expr}{scope:iK}{pos p1 p2 p3 p4 p5 p6:Pos}{k1 k2:Nat}
noncomputable def sI:Nat->Nat
 |0=>57
 |_=>39
noncomputable def xJ:Nat->Int
 |0=>-1
 |_=>999
noncomputable def js(lo hi:Int)(k:Nat):CV:=.int (if k % 2=0 then lo else hi)
noncomputable abbrev D2:List CV:=[.val (.ref 57),.val (.ref 39)]
noncomputable abbrev Tt:List CV:=[.int (-1),.int 999]
theorem IW(h:i<2):D2[i]?=some (.val (.ref (sI i))):=by
 rcases i with _|_|i
 ·rfl
 ·rfl
 ·lia
theorem IX(h:j<2):Tt[j]?=some (.int (xJ j)):=by
 rcases j with _|_|j
 ·rfl
 ·rfl
 ·lia
theorem Be(h:j<2):js lo hi (2*i+j)=.int (if j=0 then lo else hi):=by
 unfold js;rcases j with _|_|j
 ·rw[if_pos (by lia),if_pos rfl]
 ·rw[if_neg (by lia),if_neg (by lia)]
 ·lia
theorem bnd(v:Int->Int)(h:∀k,lo<=k->k<hi->0<=v k/\v k<999)(hl:lo<=hi)(hj:j<2):
  jh (λk=>!decide (v k<xJ j)) (hi-lo).toNat lo hi=(if j=0 then lo else hi)/\jh (λk=>decide (xJ j<v k)) (hi-lo).toNat lo hi=if j=0 then lo else hi:=by
 rcases j with _|_|j
 ·rw[if_pos rfl]
  exact⟨pD _ _ _ _ hl (aG _) λk a b=>by have:=h k a b;show(!decide (v k < -1))=true;rw[decide_eq_false (by lia)];rfl,pD _ _ _ _ hl (aG _) λk a b=>by have:=h k a b;exact decide_eq_true (show -1<v k by lia)⟩
 ·rw[if_neg (by lia)]
  exact⟨nX _ _ _ _ hl (aG _) λk a b=>by have:=h k a b;show(!decide (v k<999))=false;rw[decide_eq_true (by lia)];rfl,nX _ _ _ _ hl (aG _) λk a b=>by have:=h k a b;exact decide_eq_false (show ¬999<v k by lia)⟩
 ·lia
theorem U2(B:aF G 2)(R:ez row)(Cy:i<2)(hj:j<2)(h0:σ.get 0=some (.list (row.map .int))):∃fd,f9 G (sI i) fd/\bN G (λvs=>call (.ref (sI i)) vs) [.ref 0,.int (xJ j),.int (gE row.length),.int (dg row.length)] σ (js (gE row.length) (dg row.length) (2*i+j)) σ:=by
 have hl:=ma row.length;have b:=bnd (lo:=gE row.length) (hi:=dg row.length) (λk=>row.getD k.toNat 0) (λk a b=>R.gQ k.toNat (by lia)) hl.2.1 hj;rw[Be hj];rcases i with _|_|i
 ·exact⟨_,B.defAt pG pv,SK.og (g:=λvs=>call (.ref 57) vs) (SK.GC h0 (λh k=>Eh (hi:=some (dg row.length)) (B.le rfl |>.ext k) R.RL hl.1 hl.2.1 hl.2.2 b.1) rfl (λzz=>rfl) λzz=>rfl)⟩
 ·exact⟨_,B.defAt qU qT,SK.og (g:=λvs=>call (.ref 39) vs) (SK.GC h0 (λh k=>Ei (hi:=some (dg row.length)) (B.le rfl |>.ext k) R.RL hl.1 hl.2.1 hl.2.2 b.2) rfl (λzz=>rfl) λzz=>rfl)⟩
 ·lia
theorem PU(B:aF G 2)(R:ez row)(K:iV g (So "one"))(hc:g.clos=[(So "row",4)])(Cy:i<2)(hj:j<2)(Yb:σ.get 11=some (.list ((bh row.length).map .int)))(h16:σ.get 16=some (.fn g))(h4:σ.get 4=some (.cell (some (.ref 0))))(h0:σ.get 0=some (.list (row.map .int))):
  ∃fd,f9 G (sI i) fd/\SK G (λvs ws=>call (.ref (sI i)) vs ([So "key"].zip ws)) [.ref 11,.int (xJ j),.int (gE row.length),.int (dg row.length)] [.ref 16] σ (js (gE row.length) (dg row.length) (2*i+j)) σ:=by
 have hl:=ma row.length;have hs:((some (dg row.length)).getD ((bh row.length).length:Int))<=(bh row.length).length:=by rw[gO];exact hl.2.2
 have b:=bnd (lo:=gE row.length) (hi:=dg row.length) (λk=>keyOf row ((bh row.length).getD k.toNat 0)) (λk a b=>by rw[pR (by lia)];exact R.J6 (by lia) (by lia)) hl.2.1 hj;rw[Be hj];rcases i with _|_|i
 ·exact⟨_,B.defAt pG pv,SK.AR Yb h16 hc h4 h0 (by decide) (λh k=>An (nm:=So "one") (hi:=some (dg row.length)) (B.le rfl |>.ext k) K rfl R.RL (λx=>kL) (nQ R.GK) hl.1 hl.2.1 hs b.1) rfl rfl rfl rfl (λzz=>rfl) λzz=>rfl⟩
 ·exact⟨_,B.defAt qU qT,SK.AR Yb h16 hc h4 h0 (by decide) (λh k=>Ao (nm:=So "one") (hi:=some (dg row.length)) (B.le rfl |>.ext k) K rfl R.RL (λx=>kL) (nQ R.GK) hl.1 hl.2.1 hs b.2) rfl rfl rfl rfl (λzz=>rfl) λzz=>rfl⟩
 ·lia
noncomputable abbrev zI(Y:List (Nat×AO))(i:Nat):St:=⟨[(20,.i6 19 i),(19,.list D2)]++Y,21⟩
noncomputable abbrev zJ(Y:List (Nat×AO))(i j:Nat)(out:List CV)(fr:List (Str×CV)):St:=⟨[(24,.i6 23 j),(23,.list Tt),(22,.frame fr),(21,.list out),(20,.i6 19 i),(19,.list D2)]++Y,25⟩
noncomputable abbrev zE(Y:List (Nat×AO))(i:Nat)(out:List CV)(fr:List (Str×CV)):St:=(zJ Y i 2 out fr).del 24
noncomputable def zC(i:Nat):Nat->List (Str×CV)
 |0=>[(So "search",.val (.ref (sI i)))]
 |j+1=>[(So "search",.val (.ref (sI i))),(So "thing",.int (xJ j))]
noncomputable abbrev L5(i0:Expr)(p1 p2 p3 p4 p5 p6:Pos)(k1 k2:Nat):List cg:=[⟨.Name (So "search") p1,i0,[],0⟩,⟨.Name (So "thing") p2,.List [.UnaryOp .USub (.Constant (.int 1) k1 p3) p4,.Constant (.int 999) k2 p5] p6,[],0⟩]
seal aV cD SS eA bN d0 bH fH du cW eU fV dk gI fg kG SK SF m6 mZ iz sS n9 dy
theorem BA(he:e'.locals=22)(hk:bx e' (So "thing") .local=true){out:List CV}{k:Nat}:fg G e' (So "thing") (.int (xJ j)) (zJ Y i k out (zC a j)) (zJ Y i k out (zC a (j+1))):=by
 have:=fg.loc (G:=G) (c:=.int (xJ j)) (σ:=zJ Y i k out (zC a j)) (m':=zC a j) (he▸rfl) hk;rw[he]at this;cases j<;>exact this
theorem Ku(hh:G.A.handled=none)(he:e'.locals=22)(hb:EB 25 e'=true)(hk:bx e' (So "thing") .local=true)
  (h:∀j out,j<2->aV G e' elt (zJ Y (i+1) (j+1) out (zC i (j+1))) (js lo hi (2*i+j)) (zJ Y (i+1) (j+1) out (zC i (j+1)))) (Cy:i<2):
  cW G 23 e' (λit acc env=>.compStart (.ListComp elt (L5 i0 p1 p2 p3 p4 p5 p6 k1 k2) scope pos) 1 it acc env) 24 21 (zJ Y (i+1) 0 (eu (js lo hi) (2*i)) (zC i 0)) (zE Y (i+1) (eu (js lo hi) (2*i+2)) (zC i 2)):=
 cW.start rfl rfl (eR rfl) (cW.loop (m':=25) 2 (λj=>zJ Y (i+1) j (eu (js lo hi) (2*i+j)) (zC i j)) hb (by decide) (by decide) (by decide) (Nz _ _ _ _ _ _)
  (λj hj=>⟨_,⟨_,_,zJ Y (i+1) (j+1) (eu (js lo hi) (2*i+j)) (zC i (j+1)),X.names rfl rfl (IX hj),.name (BA he hk),.Hu (h j _ hj) rfl (f5 (by lia)) eS⟩,.refl⟩) (D.list hh rfl rfl rfl))
theorem xI(hh:G.A.handled=none)(he:e'.locals=22)(hb:EB 23 e'=true)(X_:EB 25 e'=true)(hk:bx e' (So "thing") .local=true)(hk2:bx e' (So "search") .local=true)
  (hS:∀i k fr,fz 23 (zE Y (i+1) (eu (js lo hi) k) fr) (PP (zI Y (i+1)) (eu (js lo hi) k) []))
  (h:∀i j out,i<2->j<2->aV G e' elt (zJ Y (i+1) (j+1) out (zC i (j+1))) (js lo hi (2*i+j)) (zJ Y (i+1) (j+1) out (zC i (j+1)))):
  cW G 23 e' (λit acc env=>.compStart (.ListComp elt (L5 i0 p1 p2 p3 p4 p5 p6 k1 k2) scope pos) 0 it acc env) 20 21 (PP (zI Y 0) [] []) ((PP (zI Y 2) (eu (js lo hi) 4) []).del 20):=
 cW.qW (N:=21) (n:=2) (zI Y) (λi=>.val (.ref (sI i))) (λi=>eu (js lo hi) (2*i)) (λzz=>rfl) hb (by decide) rfl rfl rfl (Lf _ _ _ _ _ _ _ _) (eR rfl)
  (λi Cy=>⟨_,PP (zI Y (i+1)) (eu (js lo hi) (2*i)) (zC i 0),_,X.names rfl rfl (IW Cy),.name (by
   have:=fg.loc (G:=G) (c:=.val (.ref (sI i))) (σ:=PP (zI Y (i+1)) (eu (js lo hi) (2*i)) []) (m':=[]) (he▸rfl) hk2;rw[he]at this;exact this),.next hh (.list (.cons (.un .int nz) (.cons .int .nil)) rfl) (cM rfl) (Ku (i0:=i0) (p1:=p1) hh he X_ hk (λj out hj=>h i j out Cy hj) Cy),hS i _ _⟩) (D.list hh rfl rfl rfl)
end
section
open PyProof
variable{G:Gv}{n m tk i j k a:Nat}{row:List Int}{lo hi:Int}{frL fr:List (Str×CV)}{g:n3}
theorem y_{r:Nat->Nat}:cV r (eu (js lo hi) k)=eu (js lo hi) k:=by
 unfold eu
 induction az k with
 |nil=>rfl
 |cons i l ih=>exact congrArg (js lo hi i::·) ih
theorem AB{r:Nat->Nat}:jt r (.list (eu (js lo hi) k)) (.list (eu (js lo hi) k)):=congrArg AO.list y_.symm
noncomputable abbrev kU(lo hi:Int):List CV:=[.int lo,.int hi,.int lo,.int hi]
theorem L6(lo hi:Int):eu (js lo hi) 4=kU lo hi:=by rfl
noncomputable abbrev Qo(g:n3)(row:List Int)(frL:List (Str×CV))(k:Nat):St:=hG g row frL (aI k (.str cn)) (bh row.length) (bh row.length) [] [] 19
noncomputable abbrev Kp(g:n3)(row:List Int)(frL:List (Str×CV))(k:Nat)(es:List CV):St:=hG g row frL (aI k (.str cn)) (bh row.length) (bh row.length) [(So "ends",.ref 18)] [(18,.list es)] 19
theorem hS5(hr:yj frL)(hc:g.clos=[(So "row",4)]):fz 23 (zE (Qo g row frL k).objs (i+1) (eu (js lo hi) j) fr) (PP (zI (Qo g row frL k).objs (i+1)) (eu (js lo hi) j) []):=
 fz.mk [] rfl rfl ⟨⟨_,rfl,_,rfl,trivial⟩,⟨_,rfl,AB⟩,⟨_,rfl,rfl⟩,⟨_,rfl,rfl⟩,⟨_,rfl,rfl⟩,⟨_,rfl,mO hc rfl⟩,⟨_,rfl,av⟩,⟨_,rfl,av⟩,⟨_,rfl,av⟩,⟨_,rfl,av⟩,⟨_,rfl,av⟩,⟨_,rfl,nA⟩,⟨_,rfl,rfl⟩,⟨_,rfl,rfl⟩,⟨_,rfl,rfl⟩,⟨_,rfl,rfl⟩,⟨_,rfl,rfl⟩,⟨_,rfl,_,rfl,rfl,rfl,rfl,rfl,rfl,rfl,trivial⟩,⟨_,rfl,jd hr⟩,⟨_,rfl,rfl⟩,⟨_,rfl,av⟩,trivial⟩
theorem hS6(hr:yj frL)(hc:g.clos=[(So "row",4)]){lo' Cy: Int}:fz 23 (zE (Kp g row frL k (kU lo' Cy)).objs (i+1) (eu (js lo hi) j) fr) (PP (zI (Kp g row frL k (kU lo' Cy)).objs (i+1)) (eu (js lo hi) j) []):=
 fz.mk [] rfl rfl ⟨⟨_,rfl,_,rfl,trivial⟩,⟨_,rfl,AB⟩,⟨_,rfl,rfl⟩,⟨_,rfl,rfl⟩,⟨_,rfl,rfl⟩,⟨_,rfl,rfl⟩,⟨_,rfl,mO hc rfl⟩,⟨_,rfl,av⟩,⟨_,rfl,av⟩,⟨_,rfl,av⟩,⟨_,rfl,av⟩,⟨_,rfl,av⟩,⟨_,rfl,nA⟩,⟨_,rfl,rfl⟩,⟨_,rfl,rfl⟩,⟨_,rfl,rfl⟩,⟨_,rfl,rfl⟩,⟨_,rfl,rfl⟩,⟨_,rfl,_,rfl,rfl,rfl,rfl,rfl,rfl,rfl,rfl,trivial⟩,⟨_,rfl,jd hr⟩,⟨_,rfl,rfl⟩,⟨_,rfl,av⟩,trivial⟩
seal aV cD SS eA bN d0 bH fH du cW eU fV dk gI fg kG SK SF m6 mZ iz sS n9 dy
unseal st in
theorem hd5(B:aF G 4)(hh:G.A.handled=none)(R:ez row)(hr:yj frL)(hc:g.clos=[(So "row",4)]):SS G 9 (Bf tk) (ai (fB (st 20)) 5) (Qo g row frL k) .next (Kp g row frL k (kU (gE row.length) (dg row.length))):=by
 conv in ai (fB (st 20)) 5=>whnf
 refine .mM (.nY (mm:=[]) (it:=20) (c:=.ref 19) (σ1:=(Qo g row frL k).push (.list D2)) (σ2:=zI (Qo g row frL k).objs 0) (σ3:=(PP (zI (Qo g row frL k).objs 2) (eu (js (gE row.length) (dg row.length)) 4) []).del 20) 23 (cl:=[(So "row",4),(So "low",6),(So "high",7)]) (by kernel_rfl) (by kernel_rfl)
  (.list (.cons (.glob (xB B)) (.cons (.glob (zB B)) .nil)) rfl) (cM rfl) (show 22<23 by decide) ?h3 (.loc rfl) rfl (λenv h=>(iO h).trans (by kernel_rfl))) ?hs
 case h3 =>
  refine xI hh rfl rfl rfl (by kernel_rfl) (by kernel_rfl) (λzz zz zz=>hS5 hr hc) λi j out hi hj=>?_;refine aH (U2 (σ:=zJ (Qo g row frL k).objs (i+1) (j+1) out (zC i (j+1))) (B.le rfl) R hi hj rfl) λfd D L=>?_;exact .gy D (.loc rfl rfl) (.cons (.cell rfl rfl) (.cons (.loc rfl rfl) (.cons (.cell rfl rfl) (.cons (.cell rfl rfl) .nil)))) L
 case hs =>
  rw[L6];exact fz.mk [(9,9),(11,11),(12,12),(13,13),(14,14),(15,15),(16,16),(17,17),(18,21)] rfl rfl ⟨⟨_,rfl,rfl⟩,⟨_,rfl,rfl⟩,⟨_,rfl,mO hc rfl⟩,⟨_,rfl,av⟩,⟨_,rfl,av⟩,⟨_,rfl,av⟩,⟨_,rfl,av⟩,⟨_,rfl,av⟩,⟨_,rfl,nA⟩,⟨_,rfl,rfl⟩,⟨_,rfl,rfl⟩,⟨_,rfl,rfl⟩,⟨_,rfl,rfl⟩,⟨_,rfl,rfl⟩,⟨_,rfl,_,rfl,rfl,rfl,rfl,rfl,rfl,rfl,rfl,trivial⟩,⟨_,rfl,jd hr⟩,⟨_,rfl,rfl⟩,⟨_,rfl,av⟩,trivial⟩
unseal st in
theorem hd6(B:aF G 4)(hh:G.A.handled=none)(R:ez row)(hr:yj frL)(K:iV g (So "one"))(hc:g.clos=[(So "row",4)]):SS G 9 (Bf tk) (ai (fB (st 20)) 6) (Kp g row frL k (kU (gE row.length) (dg row.length))) .next (Kp g row frL k (kU (gE row.length) (dg row.length)++kU (gE row.length) (dg row.length))):=by
 conv in ai (fB (st 20)) 6=>whnf
 refine .mM (.aug (.loc rfl rfl) (.comp (mm:=[]) (it:=20) (c:=.ref 19) (σ1:=(Kp g row frL k (kU (gE row.length) (dg row.length))).push (.list D2)) (σ2:=zI (Kp g row frL k (kU (gE row.length) (dg row.length))).objs 0) (σ3:=(PP (zI (Kp g row frL k (kU (gE row.length) (dg row.length))).objs 2) (eu (js (gE row.length) (dg row.length)) 4) []).del 20) 23 (cl:=[(So "tell",8),(So "spots",5),(So "low",6),(So "high",7)]) (by kernel_rfl) (by kernel_rfl)
  (.list (.cons (.glob (xB B)) (.cons (.glob (zB B)) .nil)) rfl) (cM rfl) (show 22<23 by decide) ?h3 rfl) (uF rfl rfl (show 4+4<=2^20 by decide)) (.loc rfl)) ?hs
 case h3 =>
  refine xI hh rfl rfl rfl (by kernel_rfl) (by kernel_rfl) (λzz zz zz=>hS6 hr hc) λi j out hi hj=>?_;refine aH (PU (σ:=zJ (Kp g row frL k (kU (gE row.length) (dg row.length))).objs (i+1) (j+1) out (zC i (j+1))) (B.le rfl) R K hc hi hj rfl rfl rfl rfl) λfd D L=>?_;exact .qq (names:=[So "key"]) D (.loc rfl rfl) (.cons (.cell rfl rfl) (.cons (.loc rfl rfl) (.cons (.cell rfl rfl) (.cons (.cell rfl rfl) .nil)))) (.cons (.cell rfl rfl) .nil) L
 case hs =>
  rw[L6];exact fz.mk [(9,9),(11,11),(12,12),(13,13),(14,14),(15,15),(16,16),(17,17),(18,18)] rfl rfl ⟨⟨_,rfl,rfl⟩,⟨_,rfl,rfl⟩,⟨_,rfl,mO hc rfl⟩,⟨_,rfl,av⟩,⟨_,rfl,av⟩,⟨_,rfl,av⟩,⟨_,rfl,av⟩,⟨_,rfl,av⟩,⟨_,rfl,nA⟩,⟨_,rfl,rfl⟩,⟨_,rfl,rfl⟩,⟨_,rfl,rfl⟩,⟨_,rfl,rfl⟩,⟨_,rfl,rfl⟩,⟨_,rfl,_,rfl,rfl,rfl,rfl,rfl,rfl,rfl,rfl,trivial⟩,⟨_,rfl,jd hr⟩,⟨_,rfl,rfl⟩,⟨_,rfl,av⟩,trivial⟩
end
section
open PyProof
variable{G:Gv}{n m tk i j k a:Nat}{row ns:List Int}{lo hi:Int}{frL fr:List (Str×CV)}{g:n3}{es:List CV}{x:Int}{σ:St}
theorem P7(ns:List Int)(lo x:Int):(ns.take lo.toNat++[x])++ns.drop lo.toNat=insI ns lo x:=by rw[a7];rfl
theorem Bo(e1:σ.get j=some (.list ((ns.take lo.toNat++[x]).map .int)))(e2:σ.get k=some (.list ((ns.drop lo.toNat).map .int)))(hf:ns.length<2^16):bH G (ft .Add) (.ref j) (.ref k) σ (.ref σ.n) (σ.push (.list ((insI ns lo x).map .int))):=
 P7 ns lo x▸j5 e1 e2 (by rw[aC,List.length_take,j8];exact ak (w_ _ _) (ak (gu (Nat.succ_le_of_lt hf) (bY hf)) (by decide)))
theorem add_one(e1:σ.get j=some (.list ((ns.take lo.toNat).map .int)))(e2:σ.get k=some (.list ([x].map .int)))(hf:ns.length<2^16):bH G (ft .Add) (.ref j) (.ref k) σ (.ref σ.n) (σ.push (.list ((ns.take lo.toNat++[x]).map .int))):=
 j5 e1 e2 (by rw[List.length_take];exact ak (d8 (Nat.min_le_right _ _)) (ak (Nat.succ_le_of_lt hf) (by decide)))
noncomputable abbrev P8(row:List Int):km:=.list [.list ((bh row.length).map .int),.list ((bh row.length).map .int),.list ((insI row (gE row.length) (-1)).map .int),.list ((insI row (dg row.length) 999).map .int)]
theorem GQ:Lay (n+2) (P8 row):=.list (.cons .ints (.cons .ints (.cons .ints (.cons .ints .nil))))
theorem aF.hn{G n m}(B:aF G n)(h:m<=100):G.A.units+m<cLine:=by have:=B.un;show _<9900;lia
noncomputable abbrev RW(g:n3)(row:List Int)(frL:List (Str×CV))(k:Nat)(es:List CV)(more:List (Str×CV))(xs:List (Nat×AO))(n:Nat):St:=hG g row frL (aI k (.str cn)) (bh row.length) (bh row.length) ([(So "ends",.ref 18)]++more) (xs++[(18,.list es)]) n
noncomputable abbrev GP(row:List Int):List (Nat×AO):=[(30,.list [.ref 11,.ref 11,.ref 24,.ref 29]),(29,.list ((insI row (dg row.length) 999).map .int)),(28,.list ((row.drop (dg row.length).toNat).map .int)),(27,.list ((row.take (dg row.length).toNat++[999]).map .int)),(26,.list ([999].map .int)),(25,.list ((row.take (dg row.length).toNat).map .int)),
 (24,.list ((insI row (gE row.length) (-1)).map .int)),(23,.list ((row.drop (gE row.length).toNat).map .int)),(22,.list ((row.take (gE row.length).toNat++[-1]).map .int)),(21,.list ([-1].map .int)),(20,.list ((row.take (gE row.length).toNat).map .int)),(19,.list [.ref 14,.ref 15,.ref 12,.ref 13])]
seal aV cD SS eA bN d0 bH fH du cW eU fV dk gI fg kG SK SF m6 mZ iz sS n9 dy
theorem Z7(k:Nat)(es:List CV):Rd G (RW g row frL k es [] (GP row) 31) (.ref 19) (P8 row):=.list rfl (.cons (.ints rfl) (.cons (.ints rfl) (.cons (.ints rfl) (.cons (.ints rfl) .nil))))
theorem Z5(k:Nat)(es:List CV):Rd G (RW g row frL k es [] (GP row) 31) (.ref 30) (P8 row):=.list rfl (.cons (.ints rfl) (.cons (.ints rfl) (.cons (.ints rfl) (.cons (.ints rfl) .nil))))
unseal st in
theorem hd7(B:aF G 4)(R:ez row):SS G 9 (Bf tk) (ai (fB (st 20)) 7) (RW g row frL k es [] [] 19) .next (RW g row frL k es [(So "laid",.bool true)] (GP row) 31):=by
 conv in ai (fB (st 20)) 7=>whnf
 have hl:=ma row.length;have h2:=aQ hl.1 hl.2.1;exact .assign (.cmp (.list (.cons (.loc rfl rfl) (.cons (.loc rfl rfl) (.cons (.loc rfl rfl) (.cons (.loc rfl rfl) .nil)))) rfl)
  (.list (.cons (.cell rfl rfl) (.cons (.cell rfl rfl)
   (.cons (.bin (.bin (.slice (.cell rfl rfl) .no (.at (.cell rfl rfl)) .no (mw rfl hl.1 R.GK)) (.list (.cons (.un .int nz) .nil) rfl) (add_one rfl rfl R.len)) (.slice (.cell rfl rfl) (.at (.cell rfl rfl)) .no .no (my rfl hl.1 R.GK)) (Bo rfl rfl R.len))
   (.cons (.bin (.bin (.slice (.cell rfl rfl) .no (.at (.cell rfl rfl)) .no (mw rfl h2 R.GK)) (.list (.cons .int .nil) rfl) (add_one rfl rfl R.len)) (.slice (.cell rfl rfl) (.at (.cell rfl rfl)) .no .no (my rfl h2 R.GK)) (Bo rfl rfl R.len)) .nil)))) rfl)
  (kO (n:=2) GQ (Z7 k es) (Z5 k es) (B.hn (by decide)))) (.loc (m':=hF [(So "gave",.ref 17),(So "ends",.ref 18)]) rfl)
end
section
open PyProof
variable{G:Gv}{n m tk i j k a:Nat}{row ns:List Int}{lo hi:Int}{frL fr:List (Str×CV)}{g:n3}{es:List CV}{x:Int}{σ:St}
noncomputable abbrev I0(g:n3)(row:List Int)(frL:List (Str×CV)):St:=RW g row frL 4 (kU (gE row.length) (dg row.length)++kU (gE row.length) (dg row.length)) [(So "laid",.bool true)] ([(35,.list (aI 4 [CV.int (gE row.length),.int (dg row.length)]).flatten),(34,.list [.int (gE row.length),.int (dg row.length)]),(33,.list [.none,.none]),(32,.list (aI 4 [CV.str cn]).flatten),(31,.list [.str cn])]++GP row) 36
theorem uH:gv cn=true:=by kernel_rfl
noncomputable abbrev Wg(lo hi:Int):km:=.list [.int lo,.int hi,.int lo,.int hi,.int lo,.int hi,.int lo,.int hi]
theorem Ht:Lay (n+1) (Wg lo hi):=.list (.cons .int (.cons .int (.cons .int (.cons .int (.cons .int (.cons .int (.cons .int (.cons .int .nil))))))))
theorem EF(h:σ.get k=some (.list [.int lo,.int hi,.int lo,.int hi,.int lo,.int hi,.int lo,.int hi])):Rd G σ (.ref k) (Wg lo hi):=.list h (.cons .int (.cons .int (.cons .int (.cons .int (.cons .int (.cons .int (.cons .int (.cons .int .nil))))))))
noncomputable abbrev SY:km:=.list [.str cn,.str cn,.str cn,.str cn]
theorem Ar(h:σ.get k=some (.list [.str cn,.str cn,.str cn,.str cn])):Rd G σ (.ref k) SY:=.list h (.cons .str (.cons .str (.cons .str (.cons .str .nil))))
seal aV cD SS eA bN d0 bH fH du cW eU fV dk gI fg kG SK SF m6 mZ iz sS n9 dy
unseal st in
theorem hd8(B:aF G 4):eA G 9 (Bf tk) [ai (fB (st 20)) 8] (RW g row frL 4 (kU (gE row.length) (dg row.length)++kU (gE row.length) (dg row.length)) [(So "laid",.bool true)] (GP row) 31) (.ret (.bool true)) (I0 g row frL):=by
 conv in ai (fB (st 20)) 8=>whnf
 exact .stop (.ret (.vE (.cmp (.loc rfl rfl) (.bin (.list (.cons .str .nil) rfl) .int (qE (k:=4) rfl rfl (by decide) (by decide) (by decide) rfl)) (kO (n:=1) (.list (.cons (.str uH) (.cons (.str uH) (.cons (.str uH) (.cons (.str uH) .nil))))) (Ar rfl) (Ar rfl) (B.hn (by decide))))
  (.vE (.cmp (.loc rfl rfl) (.list (.cons .none (.cons .none .nil)) rfl) (kO (n:=1) (.list (.cons .none (.cons .none .nil))) (.list rfl (.cons .none (.cons .none .nil))) (.list rfl (.cons .none (.cons .none .nil))) (B.hn (by decide))))
  (.vE (.cmp (.loc rfl rfl) (.bin (.list (.cons (.cell rfl rfl) (.cons (.cell rfl rfl) .nil)) rfl) .int (qE (k:=4) rfl rfl (show 2*4<=2^20 by decide) (by decide) (by decide) rfl)) (kO (n:=1) Ht (EF rfl) (EF rfl) (B.hn (by decide))))
  (.zV (.loc rfl rfl)))))) rfl
theorem Lk(tk:Nat):∃g,∀(G:Gv),aF G 5->G.A.handled=none->f9 G 241 (n8 20 qF tk 240)->G.h₀.CodeRec (R 240) qF->CodeHd G.h₀ 240 238->∀row,ez row->∀frL,yj frL ->
  pJ G (H8 G [2]) (λvs ws=>call (.ref 241) vs ([].zip ws)) [.ref 0] [] (hT0 frL row) (.bool true) (I0 g row frL):=by
 obtain⟨g,K,hc,h1⟩:=hd1 tk;refine⟨g,λG B hh D C A row R frL hr=>pJ.Hq (names:=[]) (m:=9) (f:=.ret (.bool true)) (σ1:=hE row frL) (rb:=[(So "row",.ref 0)]) B.dH D B.dG C (OD tk) (zw λα s u g q=>⟨_,QU u,rfl,.aT q cf⟩) (by kernel_rfl) rfl (by kernel_rfl) λenv=>?_⟩;rw[show fB (st 20)=[ai (fB (st 20)) 0,ai (fB (st 20)) 1,ai (fB (st 20)) 2,ai (fB (st 20)) 3,ai (fB (st 20)) 4,ai (fB (st 20)) 5,ai (fB (st 20)) 6,ai (fB (st 20)) 7,ai (fB (st 20)) 8] by kernel_rfl];exact .cons (.of (hd0 B.deep hh R.len hr)) (.cons (.of (h1 _ _ _ B.deep hh A R.len)) (.cons (hd2 B.deep hh hr hc) (.of (.cons (hd3 B.deep R) (.cons (hd4 B.deep hh R hr K hc) (.cons (hd5 B.deep hh R hr hc) (.cons (hd6 B.deep hh R hr K hc) (.cons (hd7 B.deep R) (hd8 B.deep) rfl) rfl) rfl) rfl) rfl)) rfl rfl) rfl rfl) rfl rfl
end
section
open PyProof
variable{G:Gv}{n m tk i j k a r:Nat}{σ:St}{script row ns:List Int}{line text:List Nat}{dress pace:Int}{fold:Nat->List Nat}{dr fi se lo wa:Option CV}{fr:List (Str×CV)}{os:List (Nat×AO)}
noncomputable abbrev Cc:Str:=Sx [108,97,119]
theorem H2(P:ae)(f:Nat->Obj)(kt tk:Nat):(fw P f kt tk).get? 246=some (Fe P kt tk):=by kernel_rfl
theorem Xm(P:ae)(f:Nat->Obj)(kt tk:Nat):(fw P f kt tk).get? 245=some (Lq P kt tk):=by kernel_rfl
theorem Wl(P:ae)(kt tk:Nat):(Fe P kt tk).data=.func (n8 21 Cc tk 245):=by kernel_rfl
theorem aF.H2{G n}(B:aF G n):∃tk,f9 G 246 (n8 21 Cc tk 245)/\G.h₀.CodeRec (R 245) Cc:=B.fnAt Mine.H2 Xm Wl λzz zz zz=>⟨_,_,rfl,rfl⟩
noncomputable abbrev eL(tk:Nat):Env:=entryE (n8 21 Cc tk 245) [(So "ways",4),(So "longest",3),(So "second",2),(So "first",1),(So "dress",0)] 3 246
theorem Ug(tk:Nat):iW (n8 21 Cc tk 245) (fB (st 21)) [(So "ways",4),(So "longest",3),(So "second",2),(So "first",1),(So "dress",0)]:=⟨rfl,rfl,λL=>by kernel_rfl,by kernel_rfl,by kernel_rfl,by kernel_rfl,by kernel_rfl,by kernel_rfl⟩
theorem Xi{tk s}(a:af):bW s (n8 21 Cc tk 245) ⟨[a],[]⟩ [(So "script",a)]:=cj (K:=[]) (λzz zz h=>nomatch h) λS=>by kernel_rfl
noncomputable abbrev lS(dr fi se lo wa:Option CV)(fr:List (Str×CV))(os:List (Nat×AO))(n:Nat):St:=⟨os++[(8,.cell wa),(7,.cell lo),(6,.cell se),(5,.cell fi),(4,.cell dr),(3,.frame fr),(2,.tab lF yh),(1,.tab 238 qH),(0,.tab 224 qM)],n⟩
noncomputable abbrev XQ:St:=⟨[(2,.tab lF yh),(1,.tab 238 qH),(0,.tab 224 qM)],3⟩
theorem ux(l:List Nat):tB (tx l) i=.str (tx [l.getD i 0]):=by
 unfold tB
 congr 2
 simp[k6]
theorem V6(B:aF G n):Glob G (So "_law_drawn") (.ref 210):=B.glob λzz zz zz zz=>by kernel_rfl
theorem V5(B:aF G n):Glob G (So "_law_typed") (.ref 217):=B.glob λzz zz zz zz=>by kernel_rfl
theorem V8(B:aF G n):Glob G (So "in_table_b1") (.ref 159):=B.glob λzz zz zz zz=>by kernel_rfl
theorem V7(B:aF G n):Glob G (So "map_table_b3") (.ref 205):=B.glob λzz zz zz zz=>by kernel_rfl
noncomputable abbrev zk(line:List Nat)(pace:Int)(more:List (Str×CV)):List (Str×CV):=[(So "line",.str (tx line)),(So "pace",.int pace)]++more
noncomputable abbrev lp(text:List Nat):Nat->List CV:=eu λi=>.bool (oP (text.getD i 0:Nat))
theorem y8{r:Nat->Nat}:cV r (lp text k)=lp text k:=by
 unfold lp eu
 induction az k with
 |nil=>rfl
 |cons i l ih=>exact congrArg (CV.bool (oP (text.getD i 0:Nat))::·) ih
theorem Jw{r:Nat->Nat}:jt r (.list (lp text k)) (.list (lp text k)):=congrArg AO.list y8.symm
theorem Ah(h:i<k):(lp text k)[i]?=some (.bool (oP (text.getD i 0:Nat))):=by unfold lp eu;rw[br,gh h];rfl
theorem D8:(lp text k).length=k:=by unfold lp eu;rw[aj,bU]
seal aV cD SS eA bN d0 bH fH du cW eU fV dk gI fg kG SK SF m6 mZ iz sS n9 dy
unseal st in
theorem lw0(B:aF G 6)(hh:G.A.handled=none)(hr:∃vs n,G.h₀.get? r=some (kE vs n)/\IntsAre vs script)(hl:script.length<=1000)(e0:gz ((d6 script).getD 0 0).toNat=line)(e1:(d6 script).getD 1 0=dress)(e2:(d6 script).getD 2 0=pace):
  SS G 9 (eL tk) (ai (fB (st 21)) 0) (lS none none none none none [(So "script",.val (.ref r))] [] 9) .next (lS (some (.int dress)) none none none none (zk line pace []) [] 9):=by
 conv in ai (fB (st 21)) 0=>whnf
 obtain⟨sU,D,_⟩:=(B.le (m:=5) rfl).Bn;refine .mM (.gH (.gy D (.glob (V6 B)) (.cons (.loc rfl rfl) .nil) (SK.og (g:=λvs=>call (.ref 210) vs) (TL (B.le rfl) hh hr hl)))
  (.tuple hh (.name (.loc (m':=[(So "script",.val (.ref r))]) rfl) (.name (.cell rfl rfl) (.name (.loc (m':=[(So "script",.val (.ref r)),(So "line",_)]) rfl) .nil)))) (hw:=λenv h=>(bE h).trans (by kernel_rfl))) ?_
 rw[e0,e1,e2];exact fz.mk [] rfl rfl ⟨⟨_,rfl,rfl⟩,⟨_,rfl,rfl⟩,⟨_,rfl,rfl⟩,⟨_,rfl,rfl⟩,⟨_,rfl,rfl⟩,⟨_,rfl,_,rfl,rfl,rfl,trivial⟩,⟨_,rfl,rfl⟩,⟨_,rfl,rfl⟩,⟨_,rfl,rfl⟩,trivial⟩
unseal st in
theorem lw1(B:aF G 6)(hh:G.A.handled=none)(hl:line.length<=1000)(hc:∀c∈line,32<=c/\c<=200)(e:j_ dress pace line=text):
  SS G 9 (eL tk) (ai (fB (st 21)) 1) (lS (some (.int dress)) none none none none (zk line pace []) [] 9) .next (lS (some (.int dress)) none none none none (zk line pace [(So "text",.str (tx text))]) [] 9):=by
 conv in ai (fB (st 21)) 1=>whnf
 obtain⟨sU,D,_⟩:=(B.le (m:=5) rfl).Bm;exact e ▸ .assign (.gy D (.glob (V5 B)) (.cons (.loc rfl rfl) (.cons (.cell rfl rfl) (.cons (.loc rfl rfl) .nil))) (SK.og (g:=λvs=>call (.ref 217) vs) (TK (B.le rfl) hh hl hc))) (.loc (m':=zk line pace []) rfl)
noncomputable abbrev Z1(dr:Option CV)(line text:List Nat)(pace:Int)(i:Nat):St:=lS dr none none none none (zk line pace [(So "text",.str (tx text))]) [(9,.nU (tx text) i)] 10
unseal st in
theorem lw2(B:aF G 6)(hh:G.A.handled=none)(hl:text.length<=1000):SS G 9 (eL tk) (ai (fB (st 21)) 2) (lS (some (.int dress)) none none none none (zk line pace [(So "text",.str (tx text))]) [] 9) .next
  (lS (some (.int dress)) none none none none (zk line pace [(So "text",.str (tx text)),(So "told",.ref 9)]) [(9,.list (lp text text.length))] 10):=by
 conv in ai (fB (st 21)) 2=>whnf
 refine .mM (.nY (mm:=[]) (it:=9) (c:=.str (tx text)) (σ1:=lS (some (.int dress)) none none none none (zk line pace [(So "text",.str (tx text))]) [] 9) (σ2:=Z1 (some (.int dress)) line text pace 0) (σ3:=(PP (Z1 (some (.int dress)) line text pace text.length) (lp text text.length) []).del 9) 12 (cl:=[]) (by kernel_rfl) (by kernel_rfl)
  (.loc rfl rfl) GO (show 11<12 by decide) ?h3 (.loc (m':=zk line pace [(So "text",.str (tx text))]) rfl) rfl (λenv h=>(iO h).trans (by kernel_rfl))) ?hs
 case h3 =>
  exact cW.simple (N:=10) (n:=text.length) (Z1 (some (.int dress)) line text pace) (λi=>.str (tx [text.getD i 0])) (λi=>[(So "sign",.str (tx [text.getD i 0]))]) (lp text) (λzz=>rfl) rfl (show 9<12 by decide) rfl rfl rfl (mK _ _ _ _ _) (Ep rfl) (λi hi=>⟨ux text▸X.str rfl hi,.name (.loc (m':=[]) rfl),
   .md (.gy (B.defAt Mc (fd:=Hj) λzz=>by kernel_rfl) (.glob (V8 B)) (.cons (.loc rfl rfl) .nil) (SK.og (g:=λvs=>call (.ref 159) vs) (TN (B.le rfl)))) rfl (f5 (by lia)) eS⟩) (D.str hh rfl rfl)
 case hs=>exact fz.mk [(9,10)] rfl rfl ⟨⟨_,rfl,Jw⟩,⟨_,rfl,rfl⟩,⟨_,rfl,rfl⟩,⟨_,rfl,rfl⟩,⟨_,rfl,rfl⟩,⟨_,rfl,rfl⟩,⟨_,rfl,_,rfl,rfl,rfl,rfl,rfl,trivial⟩,⟨_,rfl,rfl⟩,⟨_,rfl,rfl⟩,⟨_,rfl,rfl⟩,trivial⟩
end
section
open PyProof
variable{G:Gv}{n m tk i j k a r:Nat}{e:Env}{x:Expr}{σ σ1:St}{script row ns:List Int}{line text:List Nat}{dress pace:Int}{fold:Nat->List Nat}{dr fi se lo wa:Option CV}{fr:List (Str×CV)}{os:List (Nat×AO)}{b t u:Bool}{p1 p2 p3 p4 p5:Pos}{k1 k2:Nat}
theorem cD.val(h:cD G e x σ t σ1)(q:t=u):cD G e x σ u σ1:=q▸h
theorem JO{y:Expr}(h:aV G e x σ (.bool b) σ)(h':aV G e y σ (.bool b) σ):cD G e (.BoolOp .And [.Compare x [.IsNot] [.Constant (.bool true) k1 p1] p2,.Compare y [.IsNot] [.Constant (.bool false) k2 p3] p4] p5) σ false σ:=by
 cases b with
 |false=>exact .vE (.cmp h .bool lK) (.zV (.cmp h' .bool lK))
 |true=>exact .CZ (.cmp h .bool lK)
theorem B4(fold:Nat->List Nat)(text:List Nat):outF (λi=>!oP (text.getD i 0:Nat)) (λi=>.str (tx (fold (text.getD i 0)))) text.length=((text.filter λ(c:Nat)=>!oP c).map fold).map λx=>.str (tx x):=by
 unfold outF
 conv=>rhs;rw[←gp text 0]
 rw[List.filter_map,bq,bq];rfl
noncomputable abbrev XR(dress:Int)(line text:List Nat)(pace:Int)(xs:List (Nat×AO))(n:Nat):St:=lS (some (.int dress)) none none none none (zk line pace [(So "text",.str (tx text)),(So "told",.ref 9)]) (xs++[(9,.list (lp text text.length))]) n
noncomputable abbrev Z0(dress:Int)(line text:List Nat)(pace:Int)(i:Nat):St:=XR dress line text pace [(10,.i6 9 i)] 11
noncomputable abbrev U4(dress:Int)(line text:List Nat)(pace:Int)(i:Nat):St:=XR dress line text pace [(18,.zip 16 17),(17,.two),(16,.pr 14 15),(15,.i6 9 i),(14,.nU (tx text) i),(13,.list []),(11,.list [])] 19
noncomputable abbrev EW(fold:Nat->List Nat)(text:List Nat):Nat->List CV:=outF (λi=>!oP (text.getD i 0:Nat)) (λi=>.str (tx (fold (text.getD i 0))))
noncomputable abbrev frT(text:List Nat)(i:Nat):List (Str×CV):=[(So "sign",.str (tx [text.getD i 0])),(So "one",.bool (oP (text.getD i 0:Nat)))]
theorem KN(B:aF G n):Glob G (So "zip") (.type "zip"):=B.blt (λzz zz zz zz=>by kernel_rfl) (λzz zz zz zz=>by kernel_rfl)
theorem getD_in(h:i<text.length):text.getD i 0∈text:=by
 rw[aB,aD h];exact fm h
theorem Q6(B:aF G n):f9 G 205 Hi:=by
 obtain⟨f,kt,tk,es,ep,_,_,c'⟩:=B.heap;exact⟨_,c' _ _ (by rfl) (Mb _ _ _ _),by kernel_rfl⟩
seal aV cD SS eA bN d0 bH fH du cW eU fV dk gI fg kG SK SF m6 mZ iz sS n9 dy
unseal st in
theorem lw3(B:aF G 6)(hh:G.A.handled=none)(hl:text.length<=1000)(hll:line.length<=1000)(hf:∀c∈text,oP (c:Nat)=false->qu c (tx (fold c)))(A5:((text.filter λ(c:Nat)=>!oP c).map fold).flatten=line):
  SS G 9 (eL tk) (ai (fB (st 21)) 3) (XR dress line text pace [] 10) .next (lS (some (.int dress)) none none none none (zk line pace []) [] 9):=by
 conv in ai (fB (st 21)) 3=>whnf
 refine .mM (.jK (b:=false) (.RA (.cmp (.comp (mm:=[]) (it:=10) (c:=.ref 9) (σ1:=XR dress line text pace [] 10) (σ2:=Z0 dress line text pace 0) (σ3:=(PP (Z0 dress line text pace text.length) [] []).del 10) 13 (cl:=[]) (by kernel_rfl) (by kernel_rfl) (.loc rfl rfl) (cM rfl) (show 12<13 by decide) ?hA rfl) (.list .nil rfl) (fb (n:=1) (.list .nil) (.list rfl .nil) (.list rfl .nil) (B.hn (by decide))))
  (.RC (.cmp (.qG fk dB rfl .str mr (.cons (.comp (mm:=[]) (it:=18) (c:=.ref 18) (σ1:=U4 dress line text pace 0) (σ2:=U4 dress line text pace 0) (σ3:=((((PP (U4 dress line text pace text.length) (EW fold text text.length) []).del 18).del 17).del 14).del 15) 21 (cl:=[]) (by kernel_rfl) (by kernel_rfl)
   (.gi (.glob (KN B)) (.cons (.loc rfl rfl) (.cons (.loc rfl rfl) .nil)) (IF rfl)) (wc rfl) (show 20<21 by decide) ?hB rfl) .nil) (uP (xs:=(text.filter λ(c:Nat)=>!oP c).map fold) (congrArg (λl=>some (AO.list l)) (B4 fold text)) (by rw[A5];lia))) (.loc rfl rfl) (B5.to ?hE)))) .nil) ?hs
 case hA =>
  refine cW.simple (N:=11) (n:=text.length) (Z0 dress line text pace) (λi=>.bool (oP (text.getD i 0:Nat))) (λi=>[(So "one",.bool (oP (text.getD i 0:Nat)))]) (λzz=>[]) (λzz=>rfl) rfl (show 10<13 by decide) rfl rfl rfl (D5 _ _ _ _ _ _) (eR rfl) (λi hi=>⟨X.names rfl rfl (Ah hi),.name (.loc (m':=[]) rfl),.Ai ?_⟩) (D.list hh rfl rfl D8);exact JO (.loc rfl rfl) (.loc rfl rfl)
 case hB =>
  refine cW.simple (N:=19) (n:=text.length) (U4 dress line text pace) (λi=>.tup [.str (tx [text.getD i 0]),.bool (oP (text.getD i 0:Nat))]) (frT text) (EW fold text) (λzz=>rfl) rfl (show 18<21 by decide) rfl rfl rfl (D5 _ _ _ _ _ _) (wc rfl) (λi hi=>⟨?_,?_,?_⟩) (D.zip hh rfl rfl rfl rfl rfl rfl rfl)
  ·rw[←ux text];exact X.zip (it:=18) (σ:=PP (U4 dress line text pace i) (EW fold text i) []) (x:=tx text) (xs:=lp text text.length) hh rfl rfl rfl rfl rfl rfl hi (Ah hi)
  ·exact .tuple hh (.name (.loc (m':=[]) rfl) (.name (.loc (m':=[(So "sign",.str (tx [text.getD i 0]))]) rfl) .nil))
  ·cases hb:oP (text.getD i 0:Nat)with
   |true =>
    rw[show EW fold text (i+1)=EW fold text i from(Ay (b:=λi=>!oP (text.getD i 0:Nat)) (by rw[hb];rfl)).symm];exact .Ai (.val (.not (.plain (.loc rfl rfl) Tz)) (by rw[hb];rfl))
   |false =>
    exact .Lh (.val (.not (.plain (.loc rfl rfl) Tz)) (by rw[hb];rfl)) (.md (.gy (Q6 B) (.glob (V7 B)) (.cons (.loc rfl rfl) .nil) (SK.og (g:=λvs=>call (.ref 205) vs) (TM (B.le rfl) (hf _ (getD_in hi) hb)))) rfl (wJ (by lia)) (wI (b:=λi=>!oP (text.getD i 0:Nat)) (by rw[hb];rfl)))
 case hE=>rw[A5];show(!(tx line==tx line))=false;rw[beq_self_eq_true];rfl
 case hs=>exact fz.mk [] rfl rfl ⟨⟨_,rfl,rfl⟩,⟨_,rfl,rfl⟩,⟨_,rfl,rfl⟩,⟨_,rfl,rfl⟩,⟨_,rfl,rfl⟩,⟨_,rfl,_,rfl,rfl,rfl,trivial⟩,⟨_,rfl,rfl⟩,⟨_,rfl,rfl⟩,⟨_,rfl,rfl⟩,trivial⟩
end
section
open PyProof
variable{G:Gv}{n m tk i j a r:Nat}{e:Env}{x:Expr}{σ σ1:St}{row:List Int}{line:List Nat}{dress pace first second k:Int}{lo wa:Option CV}{fr:List (Str×CV)}{ws:List (Int×Int)}
noncomputable def nu(line:List Nat):List Int:=(az line.length).filterMap λi=>if line.getD i 0=102 then some ((i:Nat):Int)else none
noncomputable abbrev qb(line:List Nat):Nat->List CV:=outF (λi=>line.getD i 0==102) λi=>.int i
theorem yQ(line:List Nat):qb line line.length=(nu line).map .int:=by
 show((az line.length).filter _).map _=_;unfold nu;rw[List.map_filterMap]
 induction az line.length with
 |nil=>rfl
 |cons i l ih =>
  rw[List.filter_cons,List.filterMap_cons];by_cases h:line.getD i 0=102
  ·rw[if_pos (beq_iff_eq.mpr h),if_pos h,ba,ih];rfl
  ·rw[if_neg (by rw[beq_iff_eq];exact h),if_neg h,ih];rfl
noncomputable abbrev Ih(pace:Int)(more:List (Str×CV)):List (Str×CV):=[(So "pace",.int pace),(So "pile",.ref 10),(So "row",.ref 9)]++more
noncomputable abbrev lP(dress first second:Int)(lo wa:Option CV)(fr:List (Str×CV))(k:Int)(row:List Int)(xs:List (Nat×AO))(n:Nat):St:=
 lS (some (.int dress)) (some (.int first)) (some (.int second)) lo wa fr (xs++[(11,.size k),(10,.cX cC 11 []),(9,.list (row.map .int))]) n
noncomputable abbrev U5(dress:Int)(line:List Nat)(pace:Int)(i:Nat):St:=lS (some (.int dress)) none none none none (zk line pace []) [(10,.qj 9 i),(9,.nU (tx line) i)] 11
theorem V3(B:aF G n):Glob G (So "_Accumulator") (.ref cC):=B.glob λzz zz zz zz=>by kernel_rfl
theorem U9(c:Nat):(tx [c]==(So "f":Str))=(c==102):=by
 rw[show(So "f":Str)=tx [102] by kernel_rfl,yB];simp
seal aV cD SS eA bN d0 bH fH du cW eU fV dk gI fg kG SK SF m6 mZ iz sS n9 dy
unseal st in
theorem lw4(B:aF G 6)(hh:G.A.handled=none)(hl:line.length<=1000):
  SS G 9 (eL tk) (ai (fB (st 21)) 4) (lS (some (.int dress)) none none none none (zk line pace []) [] 9) .next (lP dress (1+dress.fmod 4) (1+pace.fmod 4) none none (Ih pace []) (dress.fmod 3) (nu line) [] 12):=by
 conv in ai (fB (st 21)) 4=>whnf
 refine .mM (.gH (.tuple (.cons (.comp (mm:=[]) (it:=10) (c:=.ref 10) (σ1:=U5 dress line pace 0) (σ2:=U5 dress line pace 0) (σ3:=((PP (U5 dress line pace line.length) (qb line line.length) []).del 10).del 9) 13 (cl:=[]) (by kernel_rfl) (by kernel_rfl)
   (.gi (.glob (xV B)) (.cons (.loc rfl rfl) .nil) Hn) (pV rfl) (show 12<13 by decide) ?h3 rfl)
  (.cons (.callC B.K (P4 _) (.glob (V3 B)) (.cons (.bin (.cell rfl rfl) .int (gq (by decide))) .nil)
   (SK.og (g:=λvs=>call (.ref cC) vs) (SK.kx (τ0:=⟨[],0⟩) (news:=[(14,.cX cC 13 []),(13,.size (dress.fmod 3))]) (n':=15) (c:=.ref 14) (ks:=[]) (ks0:=[]) [] [(13,0),(14,1)] rfl rfl rfl rfl rfl trivial trivial ⟨⟨_,rfl,rfl⟩,⟨_,rfl,rfl⟩,trivial⟩ (λh k=>TP ((B.le (m:=3) rfl).ext k)) rfl rfl rfl)))
  (.cons (.bin .int (.bin (.cell rfl rfl) .int (gq (by decide))) cE) (.cons (.bin .int (.bin (.loc rfl rfl) .int (gq (by decide))) cE) .nil)))) rfl)
  (.tuple hh (.name (.loc (m':=zk line pace []) rfl) (.name (.loc (m':=zk line pace [(So "row",.ref 11)]) rfl) (.name (.cell rfl rfl) (.name (.cell rfl rfl) .nil))))) (hw:=λenv h=>(bE h).trans (by kernel_rfl))) ?hs
 case h3 =>
  refine cW.simple (N:=11) (n:=line.length) (U5 dress line pace) (λi=>.tup [.int i,.str (tx [line.getD i 0])]) (λi=>[(So "box",.int i),(So "letter",.str (tx [line.getD i 0]))]) (qb line) (λzz=>rfl) rfl (show 10<13 by decide) rfl rfl rfl (D5 _ _ _ _ _ _) (pV rfl) (λi hi=>⟨?_,?_,?_⟩) (D.Ho hh rfl rfl rfl (by decide))
  ·rw[←ux line];exact X.Ho (it:=10) (σ:=PP (U5 dress line pace i) (qb line i) []) hh rfl rfl hi (by decide)
  ·exact .tuple hh (.name (.loc (m':=[]) rfl) (.name (.loc (m':=[(So "box",.int i)]) rfl) .nil))
  ·cases hb:line.getD i 0==102 with
   |false =>
    rw[show qb line (i+1)=qb line i from(Ay (b:=λi=>line.getD i 0==102) hb).symm];exact .Ai (.cmp (.loc rfl rfl) .str (qd.to ((U9 _).trans hb)))
   |true =>
    exact .Lh (.cmp (.loc rfl rfl) .str (qd.to ((U9 _).trans hb))) (.md (.loc rfl rfl) rfl (wJ (by lia)) (wI (b:=λi=>line.getD i 0==102) hb))
 case hs =>
  rw[yQ];exact fz.mk [(9,11),(10,14),(11,13)] rfl rfl ⟨⟨_,rfl,rfl⟩,⟨_,rfl,rfl⟩,⟨_,rfl,av⟩,⟨_,rfl,rfl⟩,⟨_,rfl,rfl⟩,⟨_,rfl,rfl⟩,⟨_,rfl,rfl⟩,⟨_,rfl,rfl⟩,⟨_,rfl,_,rfl,rfl,rfl,rfl,trivial⟩,⟨_,rfl,rfl⟩,⟨_,rfl,rfl⟩,⟨_,rfl,rfl⟩,trivial⟩
end
section
open PyProof
variable{G:Gv}{n m tk i j a r:Nat}{e:Env}{x:Expr}{σ σ1:St}{row:List Int}{line:List Nat}{dress pace first second k:Int}{lo wa:Option CV}{fr:List (Str×CV)}{ws:List (Int×Int)}
theorem V4(B:aF G n):Glob G (So "_law_waves") (.ref 222):=B.glob λzz zz zz zz=>by kernel_rfl
noncomputable abbrev Oq(ws:List (Int×Int)):Nat->List CV:=eu λi=>.int (ws.getD i (0,0)).1
theorem EV(ws:List (Int×Int)):Oq ws ws.length=(ws.map (·.1)).map .int:=by
 show(az ws.length).map _=_
 conv=>rhs;rw[←gp ws (0,0)]
 rw[bq,bq];rfl
theorem qa(h:i<ws.length):(ws.map gw)[i]?=some (.tup [.int (ws.getD i (0,0)).1,.int (ws.getD i (0,0)).2]):=by
 rw[br,aD h,aB,aD h];rfl
noncomputable abbrev lQ(dress first second:Int)(lo wa:Option CV)(pace k:Int)(row:List Int)(ws:List (Int×Int))(more:List (Str×CV))(xs:List (Nat×AO))(n:Nat):St:=
 lP dress first second lo wa (Ih pace ([(So "waves",.ref 12)]++more)) k row (xs++[(12,.list (ws.map gw))]) n
noncomputable abbrev ZZ(dress first second pace k:Int)(row:List Int)(ws:List (Int×Int))(i:Nat):St:=lQ dress first second none none pace k row ws [] [(14,.i6 12 i),(13,.list ([0].map .int))] 15
seal aV cD SS eA bN d0 bH fH du cW eU fV dk gI fg kG SK SF m6 mZ iz sS n9 dy
unseal st in
theorem lw5(B:aF G 6)(hh:G.A.handled=none)(hb:jw row<=1000)(h:oF row=some ws):
  SS G 9 (eL tk) (ai (fB (st 21)) 5) (lP dress first second none none (Ih pace []) k row [] 12) .next (lQ dress first second none none pace k row ws [] [] 13):=by
 conv in ai (fB (st 21)) 5=>whnf
 obtain⟨sU,D,_⟩:=(B.le (m:=5) rfl).Bl;exact .assign (.gy D (.glob (V4 B)) (.cons (.loc rfl rfl) .nil) (SK.og (g:=λvs=>call (.ref 222) vs)
  (SK.kx (τ0:=sP row) (news:=[(12,.list (ws.map gw))]) (n':=13) (c:=.ref 12) (ks:=[]) (ks0:=[]) [(9,0)] [(12,7)] rfl rfl rfl rfl rfl ⟨⟨_,rfl,av⟩,trivial⟩ ⟨⟨_,_,rfl,rfl,av⟩,trivial⟩ ⟨⟨_,rfl,cz⟩,trivial⟩ (λh' q=>TJ ((B.le (m:=5) rfl).ext q) hh hb h) rfl rfl rfl))) (.loc (m':=Ih pace []) rfl)
unseal st in
theorem lw6(B:aF G 6)(hh:G.A.handled=none)(hl:ws.length<=1000):
  SS G 9 (eL tk) (ai (fB (st 21)) 6) (lQ dress first second none none pace k row ws [] [] 13) .next (lQ dress first second (some (.int (di (0::ws.map (·.1))))) none pace k row ws [] [] 13):=by
 conv in ai (fB (st 21)) 6=>whnf
 refine .mM (.assign (.dP (.glob (pC B)) (.cons (.bin (.list (.cons .int .nil) rfl) (.comp (mm:=[]) (it:=14) (c:=.ref 12) (σ1:=lQ dress first second none none pace k row ws [] [(13,.list ([0].map .int))] 14) (σ2:=ZZ dress first second pace k row ws 0) (σ3:=(PP (ZZ dress first second pace k row ws ws.length) (Oq ws ws.length) []).del 14) 17 (cl:=[]) (by kernel_rfl) (by kernel_rfl)
  (.loc rfl rfl) (cM rfl) (show 16<17 by decide) ?h3 rfl) (j5 (ns:=[0]) (ms:=ws.map (·.1)) rfl (congrArg (λl=>some (AO.list l)) (EV ws)) (by rw[aj];show 1+ws.length<=_;lia))) .nil) (max_list (ns:=[0]++ws.map (·.1)) hh rfl (kn _))) (.cell rfl rfl)) ?hs
 case h3 =>
  exact cW.simple (N:=15) (n:=ws.length) (ZZ dress first second pace k row ws) (λi=>.tup [.int (ws.getD i (0,0)).1,.int (ws.getD i (0,0)).2]) (λi=>[(So "size",.int (ws.getD i (0,0)).1),(So "place",.int (ws.getD i (0,0)).2)]) (Oq ws) (λzz=>rfl) rfl (show 14<17 by decide) rfl rfl rfl (mK _ _ _ _ _) (eR rfl) (λi hi=>⟨X.yC rfl rfl (qa hi),.tuple hh (.name (.loc (m':=[]) rfl) (.name (.loc (m':=[(So "size",.int (ws.getD i (0,0)).1)]) rfl) .nil)),
   .md (.loc rfl rfl) rfl (f5 (by lia)) eS⟩) (D.list hh rfl rfl (by rw[aj]))
 case hs=>exact fz.mk [(9,9),(10,10),(11,11),(12,12)] rfl rfl ⟨⟨_,rfl,cz⟩,⟨_,rfl,rfl⟩,⟨_,rfl,rfl⟩,⟨_,rfl,av⟩,⟨_,rfl,rfl⟩,⟨_,rfl,rfl⟩,⟨_,rfl,rfl⟩,⟨_,rfl,rfl⟩,⟨_,rfl,rfl⟩,⟨_,rfl,_,rfl,rfl,rfl,rfl,rfl,trivial⟩,⟨_,rfl,rfl⟩,⟨_,rfl,rfl⟩,⟨_,rfl,rfl⟩,trivial⟩
end
section
open PyProof
variable{G:Gv}{n m tk i j a r:Nat}{e:Env}{x:Expr}{σ σ1:St}{row sX iy:List Int}{dress pace first second k lo most more:Int}{fr:List (Str×CV)}{ws:List (Int×Int)}
theorem tW(B:aF G n):Glob G (So "_law_carried") (.ref 236):=B.glob λzz zz zz zz=>by kernel_rfl
theorem l7{r:Nat->Nat}{d d':Nat}{st:List Int}(hs:st=[])(h:r d'=d):jt r (.cX cC d ((ig st).map gc)) (.cX cC d' []):=by
 rw[hs];show AO.cX cC d []=AO.cX cC (r d') [];rw[h]
seal aV cD SS eA bN d0 bH fH du cW eU fV dk gI fg kG SK SF m6 mZ iz sS n9 dy
unseal st in
theorem lw7(B:aF G 6)(hh:G.A.handled=none)(hk:0<=k/\k<1000)(hs:(au row first 15).stack=[]):
  SS G 9 (eL tk) (ai (fB (st 21)) 7) (lQ dress first second (some (.int lo)) none pace k row ws [] [] 13) .next
   (lQ dress first second (some (.int lo)) none pace k row ws [(So "once",.ref 13),(So "most",.int (k+2*(au row first 15).mx))] [(13,.list ((au row first 15).laid.map .int))] 14):=by
 conv in ai (fB (st 21)) 7=>whnf
 obtain⟨sU,D,_⟩:=(B.le (m:=5) rfl).pH;exact .mM (.gH (.slice (.gy D (.glob (tW B)) (.cons (.loc rfl rfl) (.cons (.gi (.glob (dC B)) (.cons .int .nil) mA) (.cons (.loc rfl rfl) (.cons (.cell rfl rfl) .nil)))) (SK.og (g:=λvs=>call (.ref 236) vs)
   (SK.kx (τ0:=L' row 15 k) (news:=[(15,.list ((au row first 15).bP.map eQ)),(14,.list ((au row first 15).laid.map .int))]) (n':=16) (c:=.tup [.ref 14,.int (k+2*(au row first 15).mx),.ref 15]) (ks:=[]) (ks0:=[]) [(9,0),(13,1),(10,2),(11,3),(2,4)] [(14,6),(15,7)] rfl rfl rfl rfl rfl
    ⟨⟨_,rfl,av⟩,⟨_,rfl,rfl⟩,⟨_,rfl,rfl⟩,⟨_,rfl,rfl⟩,⟨_,rfl,rfl⟩,trivial⟩ ⟨⟨_,_,rfl,rfl,av⟩,⟨_,_,rfl,rfl,rfl⟩,⟨_,_,rfl,rfl,l7 hs rfl⟩,⟨_,_,rfl,rfl,rfl⟩,⟨_,_,rfl,rfl,rfl⟩,trivial⟩ ⟨⟨_,rfl,kC⟩,⟨_,rfl,av⟩,trivial⟩ (λh' q=>tv ((B.le (m:=5) rfl).ext q) hh hk (by decide)) rfl rfl rfl))) .no (.at .int) .no rI)
  (.tuple hh (.name (.loc (m':=Ih pace [(So "waves",.ref 12)]) rfl) (.name (.loc (m':=Ih pace [(So "waves",.ref 12),(So "once",.ref 14)]) rfl) .nil))) (hw:=λenv h=>(bE h).trans (by kernel_rfl)))
  (fz.mk [(9,9),(10,10),(11,11),(12,12),(13,14)] rfl rfl ⟨⟨_,rfl,av⟩,⟨_,rfl,cz⟩,⟨_,rfl,rfl⟩,⟨_,rfl,rfl⟩,⟨_,rfl,av⟩,⟨_,rfl,rfl⟩,⟨_,rfl,rfl⟩,⟨_,rfl,rfl⟩,⟨_,rfl,rfl⟩,⟨_,rfl,rfl⟩,⟨_,rfl,_,rfl,rfl,rfl,rfl,rfl,rfl,rfl,trivial⟩,⟨_,rfl,rfl⟩,⟨_,rfl,rfl⟩,⟨_,rfl,rfl⟩,trivial⟩)
unseal st in
theorem lw8(B:aF G 6)(hh:G.A.handled=none)(hk:0<=k/\k<1000)(hs:(au row second 15).stack=[]):
  SS G 9 (eL tk) (ai (fB (st 21)) 8) (lQ dress first second (some (.int lo)) none pace k row ws [(So "once",.ref 13),(So "most",.int most)] [(13,.list (sX.map .int))] 14) .next
   (lQ dress first second (some (.int lo)) none pace k row ws [(So "once",.ref 13),(So "most",.int most),(So "other",.ref 14),(So "more",.int (k+2*(au row second 15).mx))] [(14,.list ((au row second 15).laid.map .int)),(13,.list (sX.map .int))] 15):=by
 conv in ai (fB (st 21)) 8=>whnf
 obtain⟨sU,D,_⟩:=(B.le (m:=5) rfl).pH;exact .mM (.gH (.slice (.gy D (.glob (tW B)) (.cons (.loc rfl rfl) (.cons (.gi (.glob (dC B)) (.cons .int .nil) mA) (.cons (.loc rfl rfl) (.cons (.cell rfl rfl) .nil)))) (SK.og (g:=λvs=>call (.ref 236) vs)
   (SK.kx (τ0:=L' row 15 k) (news:=[(16,.list ((au row second 15).bP.map eQ)),(15,.list ((au row second 15).laid.map .int))]) (n':=17) (c:=.tup [.ref 15,.int (k+2*(au row second 15).mx),.ref 16]) (ks:=[]) (ks0:=[]) [(9,0),(14,1),(10,2),(11,3),(2,4)] [(15,6),(16,7)] rfl rfl rfl rfl rfl
    ⟨⟨_,rfl,av⟩,⟨_,rfl,rfl⟩,⟨_,rfl,rfl⟩,⟨_,rfl,rfl⟩,⟨_,rfl,rfl⟩,trivial⟩ ⟨⟨_,_,rfl,rfl,av⟩,⟨_,_,rfl,rfl,rfl⟩,⟨_,_,rfl,rfl,l7 hs rfl⟩,⟨_,_,rfl,rfl,rfl⟩,⟨_,_,rfl,rfl,rfl⟩,trivial⟩ ⟨⟨_,rfl,kC⟩,⟨_,rfl,av⟩,trivial⟩ (λh' q=>tv ((B.le (m:=5) rfl).ext q) hh hk (by decide)) rfl rfl rfl))) .no (.at .int) .no rI)
  (.tuple hh (.name (.loc (m':=Ih pace [(So "waves",.ref 12),(So "once",.ref 13),(So "most",.int most)]) rfl) (.name (.loc (m':=Ih pace [(So "waves",.ref 12),(So "once",.ref 13),(So "most",.int most),(So "other",.ref 15)]) rfl) .nil))) (hw:=λenv h=>(bE h).trans (by kernel_rfl)))
  (fz.mk [(9,9),(10,10),(11,11),(12,12),(13,13),(14,15)] rfl rfl ⟨⟨_,rfl,av⟩,⟨_,rfl,av⟩,⟨_,rfl,cz⟩,⟨_,rfl,rfl⟩,⟨_,rfl,rfl⟩,⟨_,rfl,av⟩,⟨_,rfl,rfl⟩,⟨_,rfl,rfl⟩,⟨_,rfl,rfl⟩,⟨_,rfl,rfl⟩,⟨_,rfl,rfl⟩,⟨_,rfl,_,rfl,rfl,rfl,rfl,rfl,rfl,rfl,rfl,rfl,trivial⟩,⟨_,rfl,rfl⟩,⟨_,rfl,rfl⟩,⟨_,rfl,rfl⟩,trivial⟩)
unseal st in
theorem lw9(B:aF G 6)(hh:G.A.handled=none)(hk:0<=k/\k<1000)(hs:(au sX second 20).stack=[]):
  SS G 9 (eL tk) (ai (fB (st 21)) 9) (lQ dress first second (some (.int lo)) none pace k row ws [(So "once",.ref 13),(So "most",.int most),(So "other",.ref 14),(So "more",.int more)] [(14,.list (iy.map .int)),(13,.list (sX.map .int))] 15) .next
   (lQ dress first second (some (.int lo)) none pace k (au sX second 20).laid ws [(So "most",.int most),(So "other",.ref 13),(So "more",.int more)] [(13,.list (iy.map .int))] 14):=by
 conv in ai (fB (st 21)) 9=>whnf
 obtain⟨sU,D,_⟩:=(B.le (m:=5) rfl).pH;exact .mM (.assign (.sub (.gy D (.glob (tW B)) (.cons (.loc rfl rfl) (.cons (.gi (.glob (dC B)) (.cons .int .nil) mA) (.cons (.loc rfl rfl) (.cons (.cell rfl rfl) .nil)))) (SK.og (g:=λvs=>call (.ref 236) vs)
   (SK.kx (τ0:=L' sX 20 k) (news:=[(17,.list ((au sX second 20).bP.map eQ)),(16,.list ((au sX second 20).laid.map .int))]) (n':=18) (c:=.tup [.ref 16,.int (k+2*(au sX second 20).mx),.ref 17]) (ks:=[]) (ks0:=[]) [(13,0),(15,1),(10,2),(11,3),(2,4)] [(16,6),(17,7)] rfl rfl rfl rfl rfl
    ⟨⟨_,rfl,av⟩,⟨_,rfl,rfl⟩,⟨_,rfl,rfl⟩,⟨_,rfl,rfl⟩,⟨_,rfl,rfl⟩,trivial⟩ ⟨⟨_,_,rfl,rfl,av⟩,⟨_,_,rfl,rfl,rfl⟩,⟨_,_,rfl,rfl,l7 hs rfl⟩,⟨_,_,rfl,rfl,rfl⟩,⟨_,_,rfl,rfl,rfl⟩,trivial⟩ ⟨⟨_,rfl,kC⟩,⟨_,rfl,av⟩,trivial⟩ (λh' q=>tv ((B.le (m:=5) rfl).ext q) hh hk (by decide)) rfl rfl rfl))) .int (Aj (k:=0) rfl (show 3<1000 by decide))) (.loc (m':=Ih pace [(So "waves",.ref 12),(So "once",.ref 13),(So "most",.int most),(So "other",.ref 14),(So "more",.int more)]) rfl))
  (fz.mk [(9,16),(10,10),(11,11),(12,12),(13,14)] rfl rfl ⟨⟨_,rfl,av⟩,⟨_,rfl,cz⟩,⟨_,rfl,rfl⟩,⟨_,rfl,rfl⟩,⟨_,rfl,av⟩,⟨_,rfl,rfl⟩,⟨_,rfl,rfl⟩,⟨_,rfl,rfl⟩,⟨_,rfl,rfl⟩,⟨_,rfl,rfl⟩,⟨_,rfl,_,rfl,rfl,rfl,rfl,rfl,rfl,rfl,rfl,trivial⟩,⟨_,rfl,rfl⟩,⟨_,rfl,rfl⟩,⟨_,rfl,rfl⟩,trivial⟩)
end
section
open PyProof
variable{G:Gv}{n m tk i j a r:Nat}{e:Env}{x:Expr}{σ σ1:St}{row sX iy:List Int}{dress pace first second k lo most more:Int}{fr:List (Str×CV)}{ws:List (Int×Int)}
theorem vA(B:aF G n):Glob G (So "min") (.builtin "min"):=B.blt (λzz zz zz zz=>by kernel_rfl) (λzz zz zz zz=>by kernel_rfl)
theorem PR(a b:Int):(if b<a then b else a)=min a b:=by lia
theorem Gu(hh:G.A.handled=none):bN G (λvs=>call (.builtin "min") vs) [.int first,.int lo] σ (.int (min first lo)) σ:=PR first lo▸ZK hh
noncomputable abbrev TX(dress lo first second:Int)(i:Nat):CV:=.int (dress.fmod 3+2*min ([first,second].getD i 0) lo)
noncomputable abbrev Ou(dress lo first second:Int):Nat->List CV:=eu (TX dress lo first second)
theorem Nu(h:i<2):(([first,second]:List Int).map CV.int)[i]?=some (.int ([first,second].getD i 0)):=by
 rcases i with _|_|i
 ·rfl
 ·rfl
 ·lia
noncomputable abbrev PZ(dress first second lo pace k:Int)(row:List Int)(ws:List (Int×Int))(most more:Int)(xs:List (Nat×AO))(n:Nat):St:=lQ dress first second (some (.int lo)) none pace k row ws [(So "most",.int most),(So "other",.ref 13),(So "more",.int more)] xs n
noncomputable abbrev J4(row iy:List Int)(r:qv)(most more:Int):List (Nat×AO):=[(17,.list ([most,more].map .int)),(16,.list (r.bP.map eQ)),(15,.list (r.laid.map .int)),(14,.gQ 0 20 1),(13,.list (iy.map .int))]
noncomputable abbrev P1(dress first second lo pace k:Int)(row:List Int)(ws:List (Int×Int))(most more:Int)(Y:List (Nat×AO))(i:Nat):St:=PZ dress first second lo pace k row ws most more ([(19,.i6 18 i),(18,.list ([first,second].map .int))]++Y) 20
seal aV cD SS eA bN d0 bH fH du cW eU fV dk gI fg kG SK SF m6 mZ iz sS n9 dy
unseal st in
theorem ZW(B:aF G 6)(hh:G.A.handled=none)(hk:0<=dress.fmod 3/\dress.fmod 3<1000)(hs:(au iy first 20).stack=[])(hl:(au iy first 20).laid=row)(h1:most=dress.fmod 3+2*min first lo)(h2:more=dress.fmod 3+2*min second lo):
  SS G 9 (eL tk) (ai (fB (st 21)) 10) (PZ dress first second lo pace (dress.fmod 3) row ws most more [(13,.list (iy.map .int))] 14) .next
   (lQ dress first second (some (.int lo)) none pace (dress.fmod 3) row ws [] [] 13):=by
 have g_:∀n,Lay (n+1) (.list ((au iy first 20).laid.map .int)):=λn=>.ints;have e2:Ou dress lo first second 2=[most,more].map .int:=by rw[h1,h2];rfl
 conv in ai (fB (st 21)) 10=>whnf
 obtain⟨sU,DC,_⟩:=(B.le (m:=5) rfl).pH;refine .mM (.jK (b:=false) (.RA (.cmp (.loc rfl rfl) (.sub (.gy DC (.glob (tW B)) (.cons (.loc rfl rfl) (.cons (.gi (.glob (dC B)) (.cons .int .nil) mA) (.cons (.loc rfl rfl) (.cons (.cell rfl rfl) .nil)))) (SK.og (g:=λvs=>call (.ref 236) vs)
   (SK.kx (τ0:=L' iy 20 (dress.fmod 3)) (news:=[(16,.list ((au iy first 20).bP.map eQ)),(15,.list ((au iy first 20).laid.map .int))]) (n':=17) (c:=.tup [.ref 15,.int (dress.fmod 3+2*(au iy first 20).mx),.ref 16]) (ks:=[]) (ks0:=[]) [(13,0),(14,1),(10,2),(11,3),(2,4)] [(15,6),(16,7)] rfl rfl rfl rfl rfl
    ⟨⟨_,rfl,av⟩,⟨_,rfl,rfl⟩,⟨_,rfl,rfl⟩,⟨_,rfl,rfl⟩,⟨_,rfl,rfl⟩,trivial⟩ ⟨⟨_,_,rfl,rfl,av⟩,⟨_,_,rfl,rfl,rfl⟩,⟨_,_,rfl,rfl,l7 hs rfl⟩,⟨_,_,rfl,rfl,rfl⟩,⟨_,_,rfl,rfl,rfl⟩,trivial⟩ ⟨⟨_,rfl,kC⟩,⟨_,rfl,av⟩,trivial⟩ (λh' q=>tv ((B.le (m:=5) rfl).ext q) hh hk (by decide)) rfl rfl rfl))) .int (Aj (k:=0) rfl (show 3<1000 by decide)))
   (fb (n:=1) (g_ 0) (hl ▸ .ints rfl) (.ints rfl) (B.hn (by decide))))
  (.RC (.cmp (.list (.cons (.loc rfl rfl) (.cons (.loc rfl rfl) .nil)) rfl) (.comp (mm:=[]) (it:=19) (c:=.ref 18) (σ1:=PZ dress first second lo pace (dress.fmod 3) row ws most more ([(18,.list ([first,second].map .int))]++J4 row iy (au iy first 20) most more) 19) (σ2:=P1 dress first second lo pace (dress.fmod 3) row ws most more (J4 row iy (au iy first 20) most more) 0)
   (σ3:=(PP (P1 dress first second lo pace (dress.fmod 3) row ws most more (J4 row iy (au iy first 20) most more) 2) (Ou dress lo first second 2) []).del 19) 22 (cl:=[(So "longest",7),(So "dress",4)]) (by kernel_rfl) (by kernel_rfl) (.list (.cons (.cell rfl rfl) (.cons (.cell rfl rfl) .nil)) rfl) (cM rfl) (show 21<22 by decide) ?h3 rfl)
   (fb (n:=1) (d:=.list ([most,more].map .int)) .ints (.ints rfl) (.ints (congrArg (λl=>some (AO.list l)) e2)) (B.hn (by decide)))))) .nil) ?hs
 case h3 =>
  refine cW.simple (N:=20) (n:=2) (P1 dress first second lo pace (dress.fmod 3) row ws most more (J4 row iy (au iy first 20) most more)) (λi=>.int ([first,second].getD i 0)) (λi=>[(So "room",.int ([first,second].getD i 0))]) (Ou dress lo first second) (λzz=>rfl) rfl (show 19<22 by decide) rfl rfl rfl (mK _ _ _ _ _) (eR rfl) (λi hi=>⟨X.names rfl rfl (Nu hi),.name (.loc (m':=[]) rfl),?_⟩) (D.list hh rfl rfl rfl);exact .md (.bin (.bin (.cell rfl rfl) .int (gq (by decide))) (.bin .int (.dP (.glob (vA B)) (.cons (.loc rfl rfl) (.cons (.cell rfl rfl) .nil)) (Gu hh)) (lI (gZ (by decide)))) cE) rfl (f5 (by lia)) eS
 case hs=>exact fz.mk [(9,9),(10,10),(11,11),(12,12)] rfl rfl ⟨⟨_,rfl,cz⟩,⟨_,rfl,rfl⟩,⟨_,rfl,rfl⟩,⟨_,rfl,av⟩,⟨_,rfl,rfl⟩,⟨_,rfl,rfl⟩,⟨_,rfl,rfl⟩,⟨_,rfl,rfl⟩,⟨_,rfl,rfl⟩,⟨_,rfl,_,rfl,rfl,rfl,rfl,rfl,trivial⟩,⟨_,rfl,rfl⟩,⟨_,rfl,rfl⟩,⟨_,rfl,rfl⟩,trivial⟩
end
section
open PyProof
variable{G:Gv}{n m tk i j a r:Nat}{e:Env}{x:Expr}{σ σ1:St}{row:List Int}{dress pace first second k lo ah:Int}{fr:List (Str×CV)}{ws:List (Int×Int)}
noncomputable def sY(first second:Int)(p:Int×Int):Int×Int:=(p.1,p.2+min first p.1+min second p.1)
noncomputable abbrev Ot(first second:Int)(ws:List (Int×Int)):Nat->List CV:=eu λi=>gw (sY first second (ws.getD i (0,0)))
theorem EX(first second:Int)(ws:List (Int×Int)):Ot first second ws ws.length=(ws.map (sY first second)).map gw:=by
 show(az ws.length).map _=_
 conv=>rhs;rw[←gp ws (0,0)]
 rw[bq,bq];rfl
noncomputable abbrev P0(dress first second lo pace k:Int)(row:List Int)(ws:List (Int×Int))(i:Nat):St:=lQ dress first second (some (.int lo)) none pace k row ws [] [(13,.i6 12 i)] 14
seal aV cD SS eA bN d0 bH fH du cW eU fV dk gI fg kG SK SF m6 mZ iz sS n9 dy
unseal st in
theorem ZV(B:aF G 6)(hh:G.A.handled=none)(hl:ws.length<=1000):
  SS G 9 (eL tk) (ai (fB (st 21)) 11) (lQ dress first second (some (.int lo)) none pace k row ws [] [] 13) .next (lQ dress first second (some (.int lo)) none pace k row (ws.map (sY first second)) [] [] 13):=by
 conv in ai (fB (st 21)) 11=>whnf
 refine .mM (.nY (mm:=[]) (it:=13) (c:=.ref 12) (σ1:=lQ dress first second (some (.int lo)) none pace k row ws [] [] 13) (σ2:=P0 dress first second lo pace k row ws 0) (σ3:=(PP (P0 dress first second lo pace k row ws ws.length) (Ot first second ws ws.length) []).del 13) 16 (cl:=[(So "second",6),(So "first",5)]) (by kernel_rfl) (by kernel_rfl)
  (.loc rfl rfl) (cM rfl) (show 15<16 by decide) ?h3 (.loc (m':=Ih pace [(So "waves",.ref 12)]) rfl) rfl (λenv h=>(iO h).trans (by kernel_rfl))) ?hs
 case h3 =>
  refine cW.simple (N:=14) (n:=ws.length) (P0 dress first second lo pace k row ws) (λi=>.tup [.int (ws.getD i (0,0)).1,.int (ws.getD i (0,0)).2]) (λi=>[(So "size",.int (ws.getD i (0,0)).1),(So "place",.int (ws.getD i (0,0)).2)]) (Ot first second ws) (λzz=>rfl) rfl (show 13<16 by decide) rfl rfl rfl (mK _ _ _ _ _) (eR rfl) (λi hi=>⟨X.yC rfl rfl (qa hi),.tuple hh (.name (.loc (m':=[]) rfl) (.name (.loc (m':=[(So "size",.int (ws.getD i (0,0)).1)]) rfl) .nil)),?_⟩) (D.list hh rfl rfl (by rw[aj]));exact .md (.tuple (.cons (.loc rfl rfl) (.cons (.bin (.bin (.loc rfl rfl) (.dP (.glob (vA B)) (.cons (.cell rfl rfl) (.cons (.loc rfl rfl) .nil)) (Gu hh)) cE) (.dP (.glob (vA B)) (.cons (.cell rfl rfl) (.cons (.loc rfl rfl) .nil)) (Gu hh)) cE) .nil)) rfl) rfl (f5 (by lia)) eS
 case hs =>
  rw[EX];exact fz.mk [(9,9),(10,10),(11,11),(12,14)] rfl rfl ⟨⟨_,rfl,cz⟩,⟨_,rfl,rfl⟩,⟨_,rfl,rfl⟩,⟨_,rfl,av⟩,⟨_,rfl,rfl⟩,⟨_,rfl,rfl⟩,⟨_,rfl,rfl⟩,⟨_,rfl,rfl⟩,⟨_,rfl,rfl⟩,⟨_,rfl,_,rfl,rfl,rfl,rfl,rfl,trivial⟩,⟨_,rfl,rfl⟩,⟨_,rfl,rfl⟩,⟨_,rfl,rfl⟩,trivial⟩
end
section
open PyProof
variable{G:Gv}{n m tk i j a r:Nat}{row:List Int}{ah:Int}{fr:List (Str×CV)}{ws:List (Int×Int)}{S:List Int×Int}{p:Int×Int}
noncomputable def jU(S:List Int×Int)(p:Int×Int):List Int×Int:=(S.1++(az p.1.toNat).map (λ(j:Nat)=>(p.2+10*p.1+2*S.2)+j),S.2+p.1)
noncomputable def gG(ws:List (Int×Int))(i:Nat):List Int×Int:=(ws.take i).foldl jU ([],0)
theorem sr(ws:List (Int×Int))(i:Nat)(hi:i<ws.length):gG ws (i+1)=jU (gG ws i) (ws.getD i (0,0)):=by
 unfold gG;rw[List.take_add_one,gV,aB,aD hi];rfl
theorem getD_mem'(h:i<ws.length):ws.getD i (0,0)∈ws:=by
 rw[aB,aD h];exact fm h
theorem QF{a s: Int}{L: Nat}(h0:0<=a)(h1:a<=100*i)(h2:L<=100*i)(s0:0<=s)(s1:s<=100):0<=a+s/\a+s<=100*((i+1:Nat):Int)/\L+s.toNat<=100*(i+1):=by
 have:=Int.toNat_le (n:=100).mpr s1;refine⟨Int.add_nonneg h0 s0,?_,?_⟩
 ·rw[Int.natCast_succ,Int.mul_add];exact Int.add_le_add h1 s1
 ·rw[Nat.mul_add];exact gu h2 this
theorem CL(ws:List (Int×Int))(h:∀p∈ws,0<=p.1/\p.1<=100):∀i,i<=ws.length->0<=(gG ws i).2/\(gG ws i).2<=100*i/\(gG ws i).1.length<=100*i:=by
 intro i
 induction i with
 |zero=>intro _;exact⟨bD 0,bD 0,aG 0⟩
 |succ i ih =>
  intro hi;have ih:=ih (bY hi);rw[sr ws i hi];have hp:=h _ (getD_mem' hi);unfold jU;rw[aC,aj,bU];exact QF ih.1 ih.2.1 ih.2.2 hp.1 hp.2
noncomputable abbrev zF(more:List (Str×CV)):List (Str×CV):=[(So "waves",.ref 12),(So "row",.ref 9)]++more
noncomputable abbrev lZ(ws:List (Int×Int))(row:List Int)(more:List (Str×CV))(xs:List (Nat×AO))(n:Nat):St:=⟨xs++[(12,.list (ws.map gw)),(9,.list (row.map .int)),(3,.frame (zF more)),(2,.tab lF yh),(1,.tab 238 qH),(0,.tab 224 qM)],n⟩
noncomputable abbrev zA(S:List Int×Int):List (Str×CV):=[(So "ahead",.int S.2),(So "due",.ref 13)]
noncomputable abbrev Cq(ws:List (Int×Int))(row:List Int)(S:List Int×Int)(more:List (Str×CV))(xs:List (Nat×AO))(i n:Nat):St:=lZ ws row (zA S++more) (xs++[(14,.i6 12 i),(13,.list (S.1.map .int))]) n
theorem yO(p:Int×Int)(a:Int)(xs:List Int):xs.map CV.int++eN (p.2+10*p.1+2*a) 1 p.1.toNat=(jU (xs,a) p).1.map .int:=by
 unfold jU eN;rw[aY,bq]
 congr 2
 funext j
 show CV.int _=CV.int _;rw[Int.mul_one]
noncomputable abbrev qO:List Stmt:=fB (ai (fB (st 21)) 14)
seal aV cD SS eA bN d0 bH fH du cW eU fV dk gI fg kG SK SF m6 mZ iz sS n9 dy
unseal st in
theorem ZT(hh:G.A.handled=none):SS G 9 (eL tk) (ai (fB (st 21)) 13) (lZ ws row [] [] 13) .next (lZ ws row (zA ([],0)) [(13,.list [])] 14):=by
 conv in ai (fB (st 21)) 13=>whnf
 exact .to (.swap (names:=[So "due",So "ahead"]) hh (.tuple (.cons (.list .nil rfl) (.cons .int .nil)) rfl) rfl (.bind (.loc (m':=zF []) rfl) (.bind (.loc (m':=zF [(So "ahead",.int 0)]) rfl) .nil)) (hw:=λenv h=>(bE h).trans (by kernel_rfl))) rfl
unseal st in
theorem ZQ(B:aF G 6)(hh:G.A.handled=none)(h1:0<=p.1/\p.1<=100/\0<=p.2/\p.2<=10000)(h2:0<=S.2/\S.2<=100000)(h3:S.1.length<=100000):
  SS G 15 (eL tk) (ai qO 0) (Cq ws row S [(So "size",.int p.1),(So "place",.int p.2)] [] i 15) .next (Cq ws row ((jU S p).1,S.2) [(So "size",.int p.1),(So "place",.int p.2)] [(15,.gQ (p.2+10*p.1+2*S.2) (p.2+11*p.1+2*S.2) 1)] i 17):=by
 conv in ai qO 0=>whnf
 exact .to (.expr (.qG lO bI rfl (.loc rfl rfl) (gR rfl) (.cons (.gi (.glob (dC B)) (.cons (.bin (.bin (.loc rfl rfl) (.bin .int (.loc rfl rfl) (lI (gZ (by decide)))) cE) (.bin .int (.loc rfl rfl) (lI (gZ (by decide)))) cE)
  (.cons (.bin (.bin (.loc rfl rfl) (.bin .int (.loc rfl rfl) (lI (gZ (by decide)))) cE) (.bin .int (.loc rfl rfl) (lI (gZ (by decide)))) cE) .nil)) rM) .nil)
  (o6 (n:=p.1.toNat) hh rfl rfl (small_one (by lia) (by lia) (by lia) (by lia)) (by rw[rangeSize_one];lia) (by rw[aj];lia)))) (by
   rw[show ∀σ:St,σ.set 13 (.list (S.1.map .int++eN (p.2+10*p.1+2*S.2) 1 p.1.toNat))=σ.set 13 (.list ((jU S p).1.map .int))from λσ=>by rw[yO]];rfl)
unseal st in
theorem ZP{ys: List Int}:SS G 15 (eL tk) (ai qO 1) (Cq ws row (ys,S.2) [(So "size",.int p.1),(So "place",.int p.2)] [(15,.gQ (p.2+10*p.1+2*S.2) (p.2+11*p.1+2*S.2) 1)] i 17) .next (Cq ws row (ys,S.2+p.1) [(So "size",.int p.1),(So "place",.int p.2)] [(15,.gQ (p.2+10*p.1+2*S.2) (p.2+11*p.1+2*S.2) 1)] i 17):=by
 conv in ai qO 1=>whnf
 exact .aug (.loc rfl rfl) (.loc rfl rfl) oZ (.loc (m':=zF (zA (ys,S.2)++[(So "size",.int p.1),(So "place",.int p.2)])) rfl)
unseal st in
theorem ZS(B:aF G 6)(hh:G.A.handled=none)(XT:ws.length<=60)(P_:∀p∈ws,0<=p.1/\p.1<=100/\0<=p.2/\p.2<=10000):SS G 9 (eL tk) (ai (fB (st 21)) 14) (lZ ws row (zA ([],0)) [(13,.list [])] 14) .next ((Cq ws row (gG ws ws.length) [] [] ws.length 15).del 14):=by
 have body:∀i,i<ws.length->eA G 15 (eL tk) qO (Cq ws row (gG ws i) [(So "size",.int (ws.getD i (0,0)).1),(So "place",.int (ws.getD i (0,0)).2)] [] (i+1) 15) .next (Cq ws row (gG ws (i+1)) [(So "size",.int (ws.getD i (0,0)).1),(So "place",.int (ws.getD i (0,0)).2)] [(15,.gQ ((ws.getD i (0,0)).2+10*(ws.getD i (0,0)).1+2*(gG ws i).2) ((ws.getD i (0,0)).2+11*(ws.getD i (0,0)).1+2*(gG ws i).2) 1)] (i+1) 17):=λi hi=>by
  have d:=CL ws (λp hp=>⟨(P_ p hp).1,(P_ p hp).2.1⟩) i (bY hi);rw[show qO=[ai qO 0,ai qO 1] by kernel_rfl,sr ws i hi];exact .cons (ZQ B hh (P_ _ (getD_mem' hi)) ⟨d.1,by lia⟩ (by lia)) (.cons ZP .nil rfl) rfl
 conv in ai (fB (st 21)) 14=>whnf
 refine .for (m':=15) (it:=14) ws.length (λi=>Cq ws row (gG ws i) [] [] i 15) rfl (by decide) (by decide) (.loc rfl rfl) (cM rfl) (λi hi=>?_) (D.list hh rfl rfl (by rw[aj]));exact⟨_,⟨_,_,Cq ws row (gG ws i) [(So "size",.int (ws.getD i (0,0)).1),(So "place",.int (ws.getD i (0,0)).2)] [] (i+1) 15,X.yC rfl rfl (qa hi),.tuple hh (.name (.loc (m':=zF (zA (gG ws i))) rfl) (.name (.loc (m':=zF (zA (gG ws i)++[(So "size",.int (ws.getD i (0,0)).1)])) rfl) .nil)),body i hi⟩,
  fz.mk [] rfl rfl ⟨⟨_,rfl,rfl⟩,⟨_,rfl,av⟩,⟨_,rfl,cz⟩,⟨_,rfl,av⟩,⟨_,rfl,_,rfl,rfl,rfl,rfl,rfl,trivial⟩,⟨_,rfl,rfl⟩,⟨_,rfl,rfl⟩,⟨_,rfl,rfl⟩,trivial⟩⟩
unseal st in
theorem ZR(B:aF G 6)(h:(gG ws ws.length).1=row):eA G 9 (eL tk) [ai (fB (st 21)) 15] ((Cq ws row (gG ws ws.length) [] [] ws.length 15).del 14) (.ret (.bool true)) ((Cq ws row (gG ws ws.length) [] [] ws.length 15).del 14):=by
 have e:((Cq ws row (gG ws ws.length) [] [] ws.length 15).del 14).get 13=some (.list (row.map .int)):=by rw[←h];rfl
 conv in ai (fB (st 21)) 15=>whnf
 exact .stop (.ret (.cmp (.loc rfl rfl) (.loc rfl rfl) (kO (n:=1) (d:=.list (row.map .int)) .ints (.ints rfl) (.ints e) (B.hn (by decide))))) rfl
end
section
open PyProof
variable{G:Gv}{n:Nat}
theorem za{a b: Int}(ha:0<=a)(hb:0<=b)(h:a<b):(tx [32,pM a]).cps.toList<(tx [32,pM b]).cps.toList:=by
 show [32,pM a]<[32,pM b];rw[List.cons_lt_cons_iff,List.cons_lt_cons_iff];exact .inr ⟨rfl,.inl (by unfold pM;lia)⟩
theorem ze:∀(zs:List Str) {ys:List Str},zs.Perm ys->zs.Pairwise (λa b=>¬b.cps.toList<a.cps.toList)->ys.Pairwise (λa b=>a.cps.toList<b.cps.toList)->zs=ys:=by
 intro zs
 induction zs with
 |nil=>intro ys hp _ _;exact(List.nil_perm.mp hp).symm
 |cons z zs ih =>
  intro ys hp h1 h2;cases ys with
  |nil=>exact absurd hp.length_eq (by simp)
  |cons y ys =>
   have e:z=y:=by
    have hz:z∈y::ys:=hp.subset (.head _);have hy:y∈z::zs:=hp.symm.subset (.head _);rcases List.mem_cons.mp hz with e|hz
    ·exact e
    ·rcases List.mem_cons.mp hy with e|hy
     ·exact e.symm
     ·exact absurd ((List.pairwise_cons.mp h2).1 _ hz) ((List.pairwise_cons.mp h1).1 _ hy)
   subst e;rw[ih (List.Perm.cons_inv hp) (List.pairwise_cons.mp h1).2 (List.pairwise_cons.mp h2).2]
theorem BV:∀(l:List Str) {p:Str},risingS p l=true->(p::l).Pairwise λa b=>¬b.cps.toList<a.cps.toList:=by
 intro l
 induction l with
 |nil=>intro p _;exact List.pairwise_cons.mpr ⟨λzz h=>(nomatch h),.nil⟩
 |cons x r ih =>
  intro p h;have h:(!PySem.Spec.ltCps x.cps.toList p.cps.toList&&risingS x r)=true:=h;rw[aK]at h;have ih:=ih h.2;have h1:¬x.cps.toList<p.cps.toList:=by
   have:=h.1;rw[ltCps_eq,jD,decide_eq_false_iff_not]at this;exact this
  refine List.pairwise_cons.mpr ⟨λb hb=>?_,ih⟩;rcases List.mem_cons.mp hb with rfl|hb
  ·exact h1
  ·have h2:=(List.pairwise_cons.mp ih).1 b hb
   intro h3;rcases Decidable.em (x.cps.toList<b.cps.toList)with h4|h4
   ·exact h1 (List.lt_trans h4 h3)
   ·have:x.cps.toList=b.cps.toList:=List.le_antisymm (List.not_lt.mp h2) (List.not_lt.mp h4)
    exact h1 (this▸h3)
theorem BK{l: List Str}(h:sortedS l=true):l.Pairwise λa b=>¬b.cps.toList<a.cps.toList:=by
 cases l with
 |nil=>exact .nil
 |cons x r=>exact BV r h
noncomputable def asc:List Int->Bool
 |a::b::r=>decide (a<b)&&asc (b::r)
 |_=>true
theorem Q8(l:List Int):asc l=true->l.Pairwise (· < ·):=by
 induction l with
 |nil=>exact λzz=>.nil
 |cons a l ih =>
  intro h;cases l with
  |nil=>exact List.pairwise_cons.mpr ⟨λzz h=>(nomatch h),.nil⟩
  |cons b r =>
   have h:(decide (a<b)&&asc (b::r))=true:=h;rw[aK]at h;have ih:=ih h.2;have Il:=of_decide_eq_true h.1;refine List.pairwise_cons.mpr ⟨λc hc=>?_,ih⟩;rcases List.mem_cons.mp hc with rfl|hc
   ·exact Il
   ·exact fj Il ((List.pairwise_cons.mp ih).1 c hc)
noncomputable abbrev iT(b:Int):Str:=tx [32,pM b]
theorem pE{row bs: List Int}(hp:bs.Perm row)(ha:asc row=true)(h0:∀x∈row,0<=x):∀zs,zs.Perm (bs.map iT)->sortedS zs=true->zs=row.map iT:=by
 intro zs h1 h2;refine ze _ (h1.trans (hp.map _)) (BK h2) ?_;rw[List.pairwise_map];exact(Q8 row ha).imp_of_mem λ{a b} hx hy Il=>za (h0 _ hx) (h0 _ hy) Il
noncomputable def aS(aN:List Int):Nat:=(di (0::aN)+1).toNat
structure oE(longest turn:Int)(row aN:List Int):Prop where
 stk:(au row 10 (aS aN)).stack=[]
 laid:(au row 10 (aS aN)).laid=aN
 mx:((au row 10 (aS aN)).mx:Int)=longest
 back:iJ (-turn) aN=some row
 su:∀p∈(au row 10 (aS aN)).bP,∀q∈(au row 10 (aS aN)).bP,¬(p.1<q.1/\q.1<p.2/\p.2<q.2)
 pos:∀p∈(au row 10 (aS aN)).bP,0<=p.1/\0<=p.2
 perm:((au row 10 (aS aN)).bP.map (·.1)).Perm row
structure TurnOk(pace longest:Int)(turn:Int)(row aN:List Int):Prop where
 mv:iJ turn row=some aN
 len:row.length<=50
 PV:aN.length<=50
 gQ:∀b∈row,0<=b/\b<=1000
 TZ:∀b∈aN,0<=b/\b<=900
 asc:asc row=true
 car:turn<4->oE longest turn row aN
 held:turn=1+pace.fmod 3->ez aN
theorem AL{l: List Int}{M: Int}(h:∀b∈l,b<=M)(h0:0<=M):di (0::l)<=M:=by
 rcases(foldl_max (0::l) 0).2.2 with e|e
 ·exact aQ (Int.le_of_eq e) h0
 ·rcases List.mem_cons.mp e with e|e
  ·exact aQ (Int.le_of_eq e) h0
  ·exact h _ e
structure LC where
 dress:Int
 first:Int
 second:Int
 lo:Int
 pace:Int
 ws:List (Int×Int)
noncomputable abbrev AU(c:LC)(more:List (Str×CV)):List (Str×CV):=[(So "pace",.int c.pace),(So "pile",.ref 10),(So "waves",.ref 12),(So "row",.ref 15)]++more
noncomputable abbrev lV(c:LC)(wa:Option CV)(row:List Int)(i:Nat)(more:List (Str×CV))(xs:List (Nat×AO))(n:Nat):St:=
 lS (some (.int c.dress)) (some (.int c.first)) (some (.int c.second)) (some (.int c.lo)) wa (AU c more) (xs++[(15,.list (row.map .int)),(14,AW 1 10 i),(12,.list (c.ws.map gw)),(11,.size (c.dress.fmod 3)),(10,.cX cC 11 [])]) n
noncomputable abbrev cy:List Stmt:=fB (ai (fB (st 21)) 12)
noncomputable abbrev fU:List Stmt:=fB (ai cy 2)
theorem A7(B:aF G n):Glob G (So "_law_moved") (.ref 229):=B.glob λzz zz zz zz=>by kernel_rfl
theorem LX(B:aF G n):Glob G (So "_law_held") (.ref 241):=B.glob λzz zz zz zz=>by kernel_rfl
end
section
open PyProof
variable{G:Gv}{n m tk i j a:Nat}{e e':Env}{σ:St}{x y:Str}{Y:List (Nat×AO)}{W:List (Int×Int)}{i0:Expr}{scope:iK}{pos p1 p2 p3 p4 p5 p6 p7 p8 p9 wG wD:Pos}{k1 k2:Nat}{fr:List (Str×CV)}{b c d f:Int}
theorem B6:bH G (bO .Lt) (.str x) (.str y) σ (.bool (decide (x.cps.toList<y.cps.toList))) σ:=XF λs Q E t u h=>PyProof.Rows.lt_str h
theorem JX(ha:0<=b)(hb:0<=c):decide ((tx [32,pM b]).cps.toList<(tx [32,pM c]).cps.toList)=decide (b<c):=by
 by_cases h:b<c
 ·rw[decide_eq_true h,decide_eq_true (za ha hb h)]
 ·rw[decide_eq_false h]
  refine decide_eq_false λq=>?_;rcases Int.lt_or_eq_of_le (Int.not_lt.mp h)with l|l
  ·exact List.lt_irrefl _ (List.lt_trans q (za hb ha l))
  ·rw[l]at q;exact List.lt_irrefl _ q
theorem oI(ha:0<=b)(hb:0<=c):bH G (bO .Lt) (.str (tx [32,pM b])) (.str (tx [32,pM c])) σ (.bool (decide (b<c))) σ:=JX ha hb▸B6
theorem HD{l r1 r2 r3: Expr}(h1:aV G e l σ (.str (tx [32,pM b])) σ)(h2:aV G e r1 σ (.str (tx [32,pM c])) σ)(h3:aV G e r2 σ (.str (tx [32,pM d])) σ)(h4:aV G e r3 σ (.str (tx [32,pM f])) σ)
  (q1:0<=b) (q2:0<=c) (q3:0<=d) (q4:0<=f) (no:¬(b<c/\c<d/\d<f)) (hm:lastMarks [.Lt,.Lt,.Lt] [r1,r2,r3]=false:=by with_unfolding_all rfl):cD G e (.Compare l [.Lt,.Lt,.Lt] [r1,r2,r3] pos) σ false σ:=by
 have:=cD.QI (pos:=pos) h1 h2 (oI q1 q2) (λzz=>⟨h3,oI q2 q3,λzz=>⟨h4,oI q3 q4⟩⟩) (λzz zz=>rfl) (λzz zz=>rfl) (λzz=>rfl) hm;refine this.val ?_;by_cases u:b<c
 ·by_cases v:c<d
  ·rw[decide_eq_true u,decide_eq_true v,decide_eq_false λw=>no ⟨u,v,w⟩];rfl
  ·rw[decide_eq_true u,decide_eq_false v];rfl
 ·rw[decide_eq_false u];rfl
noncomputable abbrev cI(Y:List (Nat×AO))(i:Nat):St:=⟨(21,.i6 20 i)::Y,22⟩
noncomputable abbrev wA(W:List (Int×Int))(i:Nat):CV:=.str (tx [32,pM (W.getD i (0,0)).1])
noncomputable abbrev wB(W:List (Int×Int))(i:Nat):CV:=.str (tx [32,pM (W.getD i (0,0)).2])
noncomputable abbrev Yc(W:List (Int×Int))(i:Nat):List (Str×CV):=[(So "ball",wA W i),(So "box",wB W i)]
noncomputable def Qw(W:List (Int×Int))(i:Nat):Nat->List (Str×CV)
 |0=>Yc W i
 |j+1=>Yc W i++[(So "near",wA W j),(So "far",wB W j)]
noncomputable abbrev cJ(Y:List (Nat×AO))(i j:Nat)(fr:List (Str×CV)):St:=⟨(24,.i6 20 j)::(23,.frame fr)::(22,.list [])::(21,.i6 20 i)::Y,25⟩
noncomputable abbrev HA(i0:Expr)(p1 p2 p3 p4 p5 p6 p7 p8 p9 wG wD:Pos)(k1 k2:Nat)(i1:Expr):List cg:=
 [⟨.Tuple [.Name (So "ball") p1,.Name (So "box") p2] k1 p3,i0,[],0⟩,⟨.Tuple [.Name (So "near") p4,.Name (So "far") p5] k2 p6,i1,[.Compare (.Name (So "ball") p7) [.Lt,.Lt,.Lt] [.Name (So "near") p8,.Name (So "box") p9,.Name (So "far") wG] wD],0⟩]
theorem mn(h:i<W.length):(W.map eQ)[i]?=some (.tup [wA W i,wB W i]):=by
 rw[br,aD h,wA,wB,aB,aD h];rfl
seal aV cD SS eA bN d0 bH fH du cW eU fV dk gI fg kG SK SF m6 mZ iz sS n9 dy
structure Yk(e':Env):Prop where
 l:e'.locals=23
 b1:EB 24 e'=true
 b2:EB 25 e'=true
 ck:bx e' (So "ball") .local=true
 box:bx e' (So "box") .local=true
 near:bx e' (So "near") .local=true
 Dc:bx e' (So "far") .local=true
 bP:bx e' (So "ways") .cell=true
 cell:e'.cells.lookup (So "ways")=some 8
theorem pA(C:Yk e'):(cJ Y i j fr).get e'.locals=some (.frame fr):=by rw[C.l];rfl
theorem fg.at{m': List (Str×CV)}{z: Str}{v: CV}{k: Nat}{σ': St}(hk:bx e' z .local=true)(hl:e'.locals=k)(hm:σ.get k=some (.frame m'))(q:σ.set k (.frame (upd m' z v))=σ'):fg G e' z v σ σ':=by
 subst hl;exact q▸fg.loc hm hk
theorem ES(C:Yk e')(hh:G.A.handled=none):du G e' (.Tuple [.Name (So "near") p4,.Name (So "far") p5] k2 p6) (.tup [wA W j,wB W j]) (cJ Y i n (Qw W a j)) (cJ Y i n (Qw W a (j+1))):=by
 cases j with
 |zero=>exact .tuple hh (.name (.at C.near C.l rfl rfl) (.name (.at C.Dc C.l rfl rfl) .nil))
 |succ j=>exact .tuple hh (.name (.at C.near C.l rfl rfl) (.name (.at C.Dc C.l rfl rfl) .nil))
theorem Hz{i1 elt: Expr}(C:Yk e')(hh:G.A.handled=none)(hW:cL Y 20=some (.list (W.map eQ)))(hi:i<W.length)(BX:∀p∈W,0<=p.1/\0<=p.2)(no:∀p∈W,∀q∈W,¬(p.1<q.1/\q.1<p.2/\p.2<q.2)):
  cW G 24 e' (λit acc env=>.compStart (.ListComp elt (HA i0 p1 p2 p3 p4 p5 p6 p7 p8 p9 wG wD k1 k2 i1) scope pos) 1 it acc env) 24 22 (cJ Y (i+1) 0 (Qw W i 0)) ((cJ Y (i+1) W.length (Qw W i W.length)).del 24):=by
 refine cW.start rfl rfl (eR rfl) (cW.loop (m':=25) W.length (λj=>cJ Y (i+1) j (Qw W i j)) C.b2 (by decide) (by decide) (by decide) (Ny _ _ _ _ _ _ _) (λj hj=>⟨_,⟨_,_,cJ Y (i+1) (j+1) (Qw W i (j+1)),X.yC rfl hW (mn hj),ES C hh,.Ai ?_⟩,.refl⟩) (D.list hh rfl hW (by rw[aj])));have m1:=getD_mem' hi;have m2:=getD_mem' hj;exact HD (.loc (pA C) rfl C.ck) (.loc (pA C) rfl C.near) (.loc (pA C) rfl C.box) (.loc (pA C) rfl C.Dc) (BX _ m1).1 (BX _ m2).1 (BX _ m1).2 (BX _ m2).2 (no _ m1 _ m2)
theorem t_{elt: Expr}{px: Pos}(C:Yk e')(hh:G.A.handled=none)(hW:cL Y 20=some (.list (W.map eQ)))(h8:cL Y 8=some (.cell (some (.ref 20))))(BX:∀p∈W,0<=p.1/\0<=p.2)(no:∀p∈W,∀q∈W,¬(p.1<q.1/\q.1<p.2/\p.2<q.2))
  (hS:∀i j fr,fz 24 ((cJ Y (i+1) j fr).del 24) (PP (cI Y (i+1)) [] [])):
  cW G 24 e' (λit acc env=>.compStart (.ListComp elt (HA i0 p1 p2 p3 p4 p5 p6 p7 p8 p9 wG wD k1 k2 (.Name (So "ways") px)) scope pos) 0 it acc env) 21 22 (PP (cI Y 0) [] []) ((PP (cI Y W.length) [] []).del 21):=
 cW.qW (N:=22) (n:=W.length) (cI Y) (λi=>.tup [wA W i,wB W i]) (λzz=>[]) (λzz=>rfl) C.b1 (by decide) rfl rfl rfl (Lf _ _ _ _ _ _ _ _) (eR rfl)
  (λi hi=>⟨_,PP (cI Y (i+1)) [] (Qw W i 0),_,X.yC rfl hW (mn hi),.tuple hh (.name (.at (m':=[]) C.ck C.l rfl rfl) (.name (.at (m':=[(So "ball",wA W i)]) C.box C.l rfl rfl) .nil)),
   .next hh (.cell C.cell h8 C.bP) (cM hW) (Hz (i0:=i0) (p1:=p1) (p2:=p2) (p3:=p3) (k1:=k1) C hh hW hi BX no),hS i _ _⟩) (D.list hh rfl hW (by rw[aj]))
end
section
open PyProof
variable{G:Gv}{n m tk i j a kk k2:Nat}{row aN:List Int}{turn:Int}{c:LC}{wa:Option CV}{W:List (Int×Int)}{f:List (Str×CV)}
noncomputable def nM:Nat->Option CV
 |0=>none
 |_+1=>some (.ref 16)
theorem Lo{r:Nat->Nat}(h:r 16=16):jt r (.cell (nM i)) (.cell (nM i)):=by
 cases i with
 |zero=>rfl
 |succ i=>exact congrArg (λk=>AO.cell (some (CV.ref k))) h.symm
theorem xk(aN:List Int):di (0::aN)+1=(aS aN:Nat):=by have:=AN aN;unfold aS;lia
seal aV cD SS eA bN d0 bH fH du cW eU fV dk gI fg kG SK SF m6 mZ iz sS n9 dy
unseal st in
theorem t0A(B:aF G 6)(hh:G.A.handled=none)(mQ:row.length=kk+1)(hl:row.length<=50)(h:iJ turn row=some aN):SS G 15 (eL tk) (ai cy 0) (lV c wa row i [(So "turn",.int turn)] [] 17) .next (lV c wa row i [(So "turn",.int turn),(So "soon",.ref 17)] [(17,.list (aN.map .int))] 18):=by
 conv in ai cy 0=>whnf
 obtain⟨sU,A9⟩:=B.sN;have e:=vZ mQ h;exact .assign (.gy A9.1 (.glob (A7 B)) (.cons (.loc rfl rfl) (.cons (.loc rfl rfl) .nil)) (SK.og (g:=λvs=>call (.ref 229) vs) (SK.kx (τ0:=sM row) (τ1:=ni turn row) (news:=[(17,.list (aN.map .int))]) (n':=18) (c:=.ref 17) (c0:=.ref 7) (ks:=[]) (ks0:=[]) [(15,0),(0,1)] [(17,7)] rfl rfl rfl rfl rfl
  ⟨⟨_,rfl,rfl⟩,⟨_,rfl,av⟩,trivial⟩ ⟨⟨_,_,rfl,e.2.2.1,av⟩,⟨_,_,rfl,e.2.2.2,rfl⟩,trivial⟩ ⟨⟨_,e.2.1,av⟩,trivial⟩ (λh' q=>Ap ((B.le (m:=3) rfl).ext q) hh (bc hl (by decide)) h e.1) rfl rfl rfl))) (.loc (m':=AU c [(So "turn",.int turn)]) rfl)
unseal st in
theorem t0B(B:aF G 6)(hh:G.A.handled=none)(h:iJ turn []=some []):SS G 15 (eL tk) (ai cy 0) (lV c wa [] i [(So "turn",.int turn)] [] 17) .next (lV c wa [] i [(So "turn",.int turn),(So "soon",.ref 15)] [] 17):=by
 conv in ai cy 0=>whnf
 obtain⟨sU,A9⟩:=B.sN;have e:=vY (turn:=turn);exact .assign (.gy A9.1 (.glob (A7 B)) (.cons (.loc rfl rfl) (.cons (.loc rfl rfl) .nil)) (SK.og (g:=λvs=>call (.ref 229) vs) (SK.kx (τ0:=sM []) (τ1:=ni turn []) (news:=[]) (n':=17) (c:=.ref 15) (c0:=.ref 0) (ks:=[]) (ks0:=[]) [(15,0),(0,1)] [] rfl rfl rfl rfl rfl
  ⟨⟨_,rfl,rfl⟩,⟨_,rfl,rfl⟩,trivial⟩ ⟨⟨_,_,rfl,e.2.1,rfl⟩,⟨_,_,rfl,e.2.2,rfl⟩,trivial⟩ trivial (λh' q=>Ap ((B.le (m:=3) rfl).ext q) hh (by decide) h e.1) rfl rfl rfl))) (.loc (m':=AU c [(So "turn",.int turn)]) rfl)
unseal st in
theorem t1A(B:aF G 6)(hh:G.A.handled=none)(hl:(aN:List Int).length<=50):SS G 15 (eL tk) (ai cy 1) (lV c (nM j) row i [(So "turn",.int turn),(So "soon",.ref 17)] [(17,.list (aN.map .int))] 18) .next (lV c (nM j) row i [(So "turn",.int turn),(So "soon",.ref 17),(So "last",.int (di (0::aN)))] [(17,.list (aN.map .int))] 18):=by
 conv in ai cy 1=>whnf
 exact .mM (.assign (.dP (.glob (pC B)) (.cons (.bin (.list (.cons .int .nil) rfl) (.loc rfl rfl) (j5 (ns:=[0]) (ms:=aN) rfl rfl (ak (gk hl 1) (by decide)))) .nil) (max_list (ns:=[0]++aN) hh rfl (kn _))) (.loc (m':=AU c [(So "turn",.int turn),(So "soon",.ref 17)]) rfl))
  (fz.mk [(15,15),(16,16),(17,17)] rfl rfl ⟨⟨_,rfl,av⟩,⟨_,rfl,av⟩,⟨_,rfl,rfl⟩,⟨_,rfl,cz⟩,⟨_,rfl,rfl⟩,⟨_,rfl,rfl⟩,⟨_,rfl,Lo rfl⟩,⟨_,rfl,rfl⟩,⟨_,rfl,rfl⟩,⟨_,rfl,rfl⟩,⟨_,rfl,rfl⟩,⟨_,rfl,_,rfl,rfl,rfl,rfl,rfl,rfl,rfl,rfl,trivial⟩,⟨_,rfl,rfl⟩,⟨_,rfl,rfl⟩,⟨_,rfl,rfl⟩,trivial⟩)
unseal st in
theorem t1B(B:aF G 6)(hh:G.A.handled=none)(hl:([]:List Int).length<=50):SS G 15 (eL tk) (ai cy 1) (lV c (nM j) [] i [(So "turn",.int turn),(So "soon",.ref 15)] [] 17) .next (lV c (nM j) [] i [(So "turn",.int turn),(So "soon",.ref 15),(So "last",.int (di (0::[])))] [] 18):=by
 conv in ai cy 1=>whnf
 exact .mM (.assign (.dP (.glob (pC B)) (.cons (.bin (.list (.cons .int .nil) rfl) (.loc rfl rfl) (j5 (ns:=[0]) (ms:=[]) rfl rfl (ak (gk hl 1) (by decide)))) .nil) (max_list (ns:=[0]++[]) hh rfl (kn _))) (.loc (m':=AU c [(So "turn",.int turn),(So "soon",.ref 15)]) rfl))
  (fz.mk [(15,15),(16,16)] rfl rfl ⟨⟨_,rfl,av⟩,⟨_,rfl,rfl⟩,⟨_,rfl,cz⟩,⟨_,rfl,rfl⟩,⟨_,rfl,rfl⟩,⟨_,rfl,Lo rfl⟩,⟨_,rfl,rfl⟩,⟨_,rfl,rfl⟩,⟨_,rfl,rfl⟩,⟨_,rfl,rfl⟩,⟨_,rfl,_,rfl,rfl,rfl,rfl,rfl,rfl,rfl,rfl,trivial⟩,⟨_,rfl,rfl⟩,⟨_,rfl,rfl⟩,⟨_,rfl,rfl⟩,trivial⟩)
unseal st in
theorem u0A(B:aF G 6)(hh:G.A.handled=none)(hn:aS aN<=1000)(C:oE c.lo turn row aN):SS G 15 (eL tk) (ai fU 0) (lV c wa row i [(So "turn",.int turn),(So "soon",.ref 17),(So "last",.int (di (0::aN)))] [(17,.list (aN.map .int))] 18) .next (lV c (some (.ref 20)) row i [(So "turn",.int turn),(So "soon",.ref 17),(So "last",.int (di (0::aN))),(So "laid",.ref 19),(So "most",.int (c.dress.fmod 3+2*c.lo))] ([(20,.list ((au row 10 (aS aN)).bP.map eQ)),(19,.list ((aN:List Int).map .int)),(18,.gQ 0 (aS aN) 1)]++[(17,.list (aN.map .int))]) 21):=by
 have hk:0<=c.dress.fmod 3/\c.dress.fmod 3<1000:=⟨bS _ (by decide),fj (c9 _ (by decide)) (by decide)⟩;have e1:=C.laid;have e2:=C.mx
 conv in ai fU 0=>whnf
 obtain⟨sU,DC,_⟩:=(B.le (m:=5) rfl).pH;exact .to (.gH (.gy DC (.glob (tW B)) (.cons (.loc rfl rfl) (.cons (.gi (.glob (dC B)) (.cons (.bin (.loc rfl rfl) .int cE) .nil) (rK (xk aN))) (.cons (.loc rfl rfl) (.cons .int .nil)))) (SK.og (g:=λvs=>call (.ref 236) vs)
   (SK.kx (τ0:=L' row (aS aN) (c.dress.fmod 3)) (news:=[(20,.list ((au row 10 (aS aN)).bP.map eQ)),(19,.list ((au row 10 (aS aN)).laid.map .int))]) (n':=21) (c:=.tup [.ref 19,.int (c.dress.fmod 3+2*(au row 10 (aS aN)).mx),.ref 20]) (ks:=[]) (ks0:=[]) [(15,0),(18,1),(10,2),(11,3),(2,4)] [(19,6),(20,7)] rfl rfl rfl rfl rfl
    ⟨⟨_,rfl,av⟩,⟨_,rfl,rfl⟩,⟨_,rfl,rfl⟩,⟨_,rfl,rfl⟩,⟨_,rfl,rfl⟩,trivial⟩ ⟨⟨_,_,rfl,rfl,av⟩,⟨_,_,rfl,rfl,rfl⟩,⟨_,_,rfl,rfl,l7 C.stk rfl⟩,⟨_,_,rfl,rfl,rfl⟩,⟨_,_,rfl,rfl,rfl⟩,trivial⟩ ⟨⟨_,rfl,kC⟩,⟨_,rfl,av⟩,trivial⟩ (λh' q=>tv ((B.le (m:=5) rfl).ext q) hh hk hn) rfl rfl rfl)))
  (.tuple hh (.name (.loc (m':=AU c [(So "turn",.int turn),(So "soon",.ref 17),(So "last",.int (di (0::aN)))]) rfl) (.name (.loc (m':=AU c ([(So "turn",.int turn),(So "soon",.ref 17),(So "last",.int (di (0::aN)))]++[(So "laid",.ref 19)])) rfl) (.name (.cell (k:=8) rfl rfl) .nil)))) (hw:=λenv h=>(bE h).trans (by kernel_rfl))) (by rw[e1,e2];rfl)
unseal st in
theorem u0B(B:aF G 6)(hh:G.A.handled=none)(hn:aS []<=1000)(C:oE c.lo turn [] []):SS G 15 (eL tk) (ai fU 0) (lV c wa [] i [(So "turn",.int turn),(So "soon",.ref 15),(So "last",.int (di (0::[])))] [] 18) .next (lV c (some (.ref 20)) [] i [(So "turn",.int turn),(So "soon",.ref 15),(So "last",.int (di (0::[]))),(So "laid",.ref 19),(So "most",.int (c.dress.fmod 3+2*c.lo))] ([(20,.list ((au [] 10 (aS [])).bP.map eQ)),(19,.list (([]:List Int).map .int)),(18,.gQ 0 (aS []) 1)]++[]) 21):=by
 have hk:0<=c.dress.fmod 3/\c.dress.fmod 3<1000:=⟨bS _ (by decide),fj (c9 _ (by decide)) (by decide)⟩;have e1:=C.laid;have e2:=C.mx
 conv in ai fU 0=>whnf
 obtain⟨sU,DC,_⟩:=(B.le (m:=5) rfl).pH;exact .to (.gH (.gy DC (.glob (tW B)) (.cons (.loc rfl rfl) (.cons (.gi (.glob (dC B)) (.cons (.bin (.loc rfl rfl) .int cE) .nil) (rK (xk []))) (.cons (.loc rfl rfl) (.cons .int .nil)))) (SK.og (g:=λvs=>call (.ref 236) vs)
   (SK.kx (τ0:=L' [] (aS []) (c.dress.fmod 3)) (news:=[(20,.list ((au [] 10 (aS [])).bP.map eQ)),(19,.list ((au [] 10 (aS [])).laid.map .int))]) (n':=21) (c:=.tup [.ref 19,.int (c.dress.fmod 3+2*(au [] 10 (aS [])).mx),.ref 20]) (ks:=[]) (ks0:=[]) [(15,0),(18,1),(10,2),(11,3),(2,4)] [(19,6),(20,7)] rfl rfl rfl rfl rfl
    ⟨⟨_,rfl,av⟩,⟨_,rfl,rfl⟩,⟨_,rfl,rfl⟩,⟨_,rfl,rfl⟩,⟨_,rfl,rfl⟩,trivial⟩ ⟨⟨_,_,rfl,rfl,av⟩,⟨_,_,rfl,rfl,rfl⟩,⟨_,_,rfl,rfl,l7 C.stk rfl⟩,⟨_,_,rfl,rfl,rfl⟩,⟨_,_,rfl,rfl,rfl⟩,trivial⟩ ⟨⟨_,rfl,kC⟩,⟨_,rfl,av⟩,trivial⟩ (λh' q=>tv ((B.le (m:=5) rfl).ext q) hh hk hn) rfl rfl rfl)))
  (.tuple hh (.name (.loc (m':=AU c [(So "turn",.int turn),(So "soon",.ref 15),(So "last",.int (di (0::[])))]) rfl) (.name (.loc (m':=AU c ([(So "turn",.int turn),(So "soon",.ref 15),(So "last",.int (di (0::[])))]++[(So "laid",.ref 19)])) rfl) (.name (.cell (k:=8) rfl rfl) .nil)))) (hw:=λenv h=>(bE h).trans (by kernel_rfl))) (by rw[e1,e2];rfl)
theorem hSA:fz 24 ((cJ (lV c (some (.ref 20)) row i [(So "turn",.int turn),(So "soon",.ref 17),(So "last",.int (di (0::aN))),(So "laid",.ref 19),(So "most",.int (c.dress.fmod 3+2*c.lo))] ([(20,.list ((au row 10 (aS aN)).bP.map eQ)),(19,.list ((aN:List Int).map .int)),(18,.gQ 0 (aS aN) 1)]++[(17,.list (aN.map .int))]) 21).objs (a+1) j f).del 24) (PP (cI (lV c (some (.ref 20)) row i [(So "turn",.int turn),(So "soon",.ref 17),(So "last",.int (di (0::aN))),(So "laid",.ref 19),(So "most",.int (c.dress.fmod 3+2*c.lo))] ([(20,.list ((au row 10 (aS aN)).bP.map eQ)),(19,.list ((aN:List Int).map .int)),(18,.gQ 0 (aS aN) 1)]++[(17,.list (aN.map .int))]) 21).objs (a+1)) [] []):=
 fz.mk [] rfl rfl ⟨⟨_,rfl,_,rfl,trivial⟩,⟨_,rfl,rfl⟩,⟨_,rfl,rfl⟩,⟨_,rfl,kC⟩,⟨_,rfl,av⟩,⟨_,rfl,rfl⟩,⟨_,rfl,av⟩,⟨_,rfl,av⟩,⟨_,rfl,rfl⟩,⟨_,rfl,cz⟩,⟨_,rfl,rfl⟩,⟨_,rfl,rfl⟩,⟨_,rfl,rfl⟩,⟨_,rfl,rfl⟩,⟨_,rfl,rfl⟩,⟨_,rfl,rfl⟩,⟨_,rfl,rfl⟩,⟨_,rfl,_,rfl,rfl,rfl,rfl,rfl,rfl,rfl,rfl,rfl,rfl,trivial⟩,⟨_,rfl,rfl⟩,⟨_,rfl,rfl⟩,⟨_,rfl,rfl⟩,trivial⟩
unseal st in
theorem u1A(B:aF G 6)(hh:G.A.handled=none)(C:oE c.lo turn row aN):SS G 15 (eL tk) (ai fU 1) (lV c (some (.ref 20)) row i [(So "turn",.int turn),(So "soon",.ref 17),(So "last",.int (di (0::aN))),(So "laid",.ref 19),(So "most",.int (c.dress.fmod 3+2*c.lo))] ([(20,.list ((au row 10 (aS aN)).bP.map eQ)),(19,.list ((aN:List Int).map .int)),(18,.gQ 0 (aS aN) 1)]++[(17,.list (aN.map .int))]) 21) .next (lV c (some (.ref 20)) row i [(So "turn",.int turn),(So "soon",.ref 17),(So "last",.int (di (0::aN))),(So "laid",.ref 19),(So "most",.int (c.dress.fmod 3+2*c.lo)),(So "cross",.ref 22)] ([(22,.list [])]++([(20,.list ((au row 10 (aS aN)).bP.map eQ)),(19,.list ((aN:List Int).map .int)),(18,.gQ 0 (aS aN) 1)]++[(17,.list (aN.map .int))])) 24):=by
 conv in ai fU 1=>whnf
 refine .to (.nY (mm:=[]) (it:=21) (c:=.ref 20) (σ1:=(lV c (some (.ref 20)) row i [(So "turn",.int turn),(So "soon",.ref 17),(So "last",.int (di (0::aN))),(So "laid",.ref 19),(So "most",.int (c.dress.fmod 3+2*c.lo))] ([(20,.list ((au row 10 (aS aN)).bP.map eQ)),(19,.list ((aN:List Int).map .int)),(18,.gQ 0 (aS aN) 1)]++[(17,.list (aN.map .int))]) 21)) (σ2:=cI (lV c (some (.ref 20)) row i [(So "turn",.int turn),(So "soon",.ref 17),(So "last",.int (di (0::aN))),(So "laid",.ref 19),(So "most",.int (c.dress.fmod 3+2*c.lo))] ([(20,.list ((au row 10 (aS aN)).bP.map eQ)),(19,.list ((aN:List Int).map .int)),(18,.gQ 0 (aS aN) 1)]++[(17,.list (aN.map .int))]) 21).objs 0) (σ3:=(PP (cI (lV c (some (.ref 20)) row i [(So "turn",.int turn),(So "soon",.ref 17),(So "last",.int (di (0::aN))),(So "laid",.ref 19),(So "most",.int (c.dress.fmod 3+2*c.lo))] ([(20,.list ((au row 10 (aS aN)).bP.map eQ)),(19,.list ((aN:List Int).map .int)),(18,.gQ 0 (aS aN) 1)]++[(17,.list (aN.map .int))]) 21).objs (au row 10 (aS aN)).bP.length) [] []).del 21) 24 (cl:=[(So "ways",8)]) (by kernel_rfl) (by kernel_rfl)
  (.cell rfl rfl) (cM rfl) (show 23<24 by decide) ?h3 (.loc (m':=AU c [(So "turn",.int turn),(So "soon",.ref 17),(So "last",.int (di (0::aN))),(So "laid",.ref 19),(So "most",.int (c.dress.fmod 3+2*c.lo))]) rfl) rfl (λenv h=>(iO h).trans (by kernel_rfl))) rfl
 case h3=>exact t_ ⟨rfl,rfl,rfl,by kernel_rfl,by kernel_rfl,by kernel_rfl,by kernel_rfl,by kernel_rfl,by kernel_rfl⟩ hh rfl rfl C.pos C.su λzz zz zz=>hSA
theorem hSB:fz 24 ((cJ (lV c (some (.ref 20)) [] i [(So "turn",.int turn),(So "soon",.ref 15),(So "last",.int (di (0::[]))),(So "laid",.ref 19),(So "most",.int (c.dress.fmod 3+2*c.lo))] ([(20,.list ((au [] 10 (aS [])).bP.map eQ)),(19,.list (([]:List Int).map .int)),(18,.gQ 0 (aS []) 1)]++[]) 21).objs (a+1) j f).del 24) (PP (cI (lV c (some (.ref 20)) [] i [(So "turn",.int turn),(So "soon",.ref 15),(So "last",.int (di (0::[]))),(So "laid",.ref 19),(So "most",.int (c.dress.fmod 3+2*c.lo))] ([(20,.list ((au [] 10 (aS [])).bP.map eQ)),(19,.list (([]:List Int).map .int)),(18,.gQ 0 (aS []) 1)]++[]) 21).objs (a+1)) [] []):=
 fz.mk [] rfl rfl ⟨⟨_,rfl,_,rfl,trivial⟩,⟨_,rfl,rfl⟩,⟨_,rfl,rfl⟩,⟨_,rfl,kC⟩,⟨_,rfl,av⟩,⟨_,rfl,rfl⟩,⟨_,rfl,av⟩,⟨_,rfl,rfl⟩,⟨_,rfl,cz⟩,⟨_,rfl,rfl⟩,⟨_,rfl,rfl⟩,⟨_,rfl,rfl⟩,⟨_,rfl,rfl⟩,⟨_,rfl,rfl⟩,⟨_,rfl,rfl⟩,⟨_,rfl,rfl⟩,⟨_,rfl,_,rfl,rfl,rfl,rfl,rfl,rfl,rfl,rfl,rfl,rfl,trivial⟩,⟨_,rfl,rfl⟩,⟨_,rfl,rfl⟩,⟨_,rfl,rfl⟩,trivial⟩
unseal st in
theorem u1B(B:aF G 6)(hh:G.A.handled=none)(C:oE c.lo turn [] []):SS G 15 (eL tk) (ai fU 1) (lV c (some (.ref 20)) [] i [(So "turn",.int turn),(So "soon",.ref 15),(So "last",.int (di (0::[]))),(So "laid",.ref 19),(So "most",.int (c.dress.fmod 3+2*c.lo))] ([(20,.list ((au [] 10 (aS [])).bP.map eQ)),(19,.list (([]:List Int).map .int)),(18,.gQ 0 (aS []) 1)]++[]) 21) .next (lV c (some (.ref 20)) [] i [(So "turn",.int turn),(So "soon",.ref 15),(So "last",.int (di (0::[]))),(So "laid",.ref 19),(So "most",.int (c.dress.fmod 3+2*c.lo)),(So "cross",.ref 22)] ([(22,.list [])]++([(20,.list ((au [] 10 (aS [])).bP.map eQ)),(19,.list (([]:List Int).map .int)),(18,.gQ 0 (aS []) 1)]++[])) 24):=by
 conv in ai fU 1=>whnf
 refine .to (.nY (mm:=[]) (it:=21) (c:=.ref 20) (σ1:=(lV c (some (.ref 20)) [] i [(So "turn",.int turn),(So "soon",.ref 15),(So "last",.int (di (0::[]))),(So "laid",.ref 19),(So "most",.int (c.dress.fmod 3+2*c.lo))] ([(20,.list ((au [] 10 (aS [])).bP.map eQ)),(19,.list (([]:List Int).map .int)),(18,.gQ 0 (aS []) 1)]++[]) 21)) (σ2:=cI (lV c (some (.ref 20)) [] i [(So "turn",.int turn),(So "soon",.ref 15),(So "last",.int (di (0::[]))),(So "laid",.ref 19),(So "most",.int (c.dress.fmod 3+2*c.lo))] ([(20,.list ((au [] 10 (aS [])).bP.map eQ)),(19,.list (([]:List Int).map .int)),(18,.gQ 0 (aS []) 1)]++[]) 21).objs 0) (σ3:=(PP (cI (lV c (some (.ref 20)) [] i [(So "turn",.int turn),(So "soon",.ref 15),(So "last",.int (di (0::[]))),(So "laid",.ref 19),(So "most",.int (c.dress.fmod 3+2*c.lo))] ([(20,.list ((au [] 10 (aS [])).bP.map eQ)),(19,.list (([]:List Int).map .int)),(18,.gQ 0 (aS []) 1)]++[]) 21).objs (au [] 10 (aS [])).bP.length) [] []).del 21) 24 (cl:=[(So "ways",8)]) (by kernel_rfl) (by kernel_rfl)
  (.cell rfl rfl) (cM rfl) (show 23<24 by decide) ?h3 (.loc (m':=AU c [(So "turn",.int turn),(So "soon",.ref 15),(So "last",.int (di (0::[]))),(So "laid",.ref 19),(So "most",.int (c.dress.fmod 3+2*c.lo))]) rfl) rfl (λenv h=>(iO h).trans (by kernel_rfl))) rfl
 case h3=>exact t_ ⟨rfl,rfl,rfl,by kernel_rfl,by kernel_rfl,by kernel_rfl,by kernel_rfl,by kernel_rfl,by kernel_rfl⟩ hh rfl rfl C.pos C.su λzz zz zz=>hSB
end
section
open PyProof
variable{G:Gv}{n m tk i j a kk k2:Nat}{row aN:List Int}{turn:Int}{c:LC}{wa:Option CV}{W:List (Int×Int)}{σ:St}{b:Int}
theorem tL{k: Int}(B:aF G 3)(hk:0<=k/\k<1000)(hx:σ.get a=some (.cX cC j []))(hd:σ.get j=some (.size k))(ht:σ.get i=some (.tab lF yh)):bN G (λvs=>call (.builtin "len") vs) [.ref a] σ (.int k) σ:=by
 have:=qe (st:=[]) B hk (aW _) hx hd ht
 rwa [show k+2*(([]:List Int).length:Int)=k from Int.add_zero k]at this
noncomputable abbrev Ag(c:LC)(aN:List Int):km:=.list [.list (aN.map .int),.int (c.dress.fmod 3+2*c.lo),.int (c.dress.fmod 3)]
theorem tq:Lay (n+2) (Ag c aN):=.list (.cons .ints (.cons .int (.cons .int .nil)))
theorem qX(h:σ.get a=some (.list [.ref j,.int (c.dress.fmod 3+2*c.lo),.int (c.dress.fmod 3)]))(h2:σ.get j=some (.list (aN.map .int))):Rd G σ (.ref a) (Ag c aN):=.list h (.cons (.ints h2) (.cons .int (.cons .int .nil)))
noncomputable abbrev uE(W:List (Int×Int)):Nat->List CV:=eu (wA W)
theorem wK(W:List (Int×Int)):uE W W.length=((W.map (·.1)).map iT).map .str:=by
 show(az W.length).map _=_
 conv=>rhs;rw[←gp W (0,0)]
 rw[bq,bq,bq];rfl
noncomputable abbrev wH(row:List Int):Nat->List CV:=eu λi=>.str (iT (row.getD i 0))
theorem tI(row:List Int):wH row row.length=(row.map iT).map .str:=by
 show(az row.length).map _=_
 conv=>rhs;rw[←gp row 0]
 rw[bq,bq];rfl
theorem AX(h:i<row.length):(row.map CV.int)[i]?=some (.int (row.getD i 0)):=by
 rw[br,aD h,aB,aD h];rfl
theorem uz(h:i<row.length):row.getD i 0∈row:=by
 rw[aB,aD h];exact fm h
theorem x':bH G (ft .Add) (.str (So " ")) (.str (tx [(256+b).toNat])) σ (.str (iT b)) σ:=
 (show(So " ":Str)=tx [32] by kernel_rfl)▸vF (a:=[32]) (b:=[(256+b).toNat]) (show 1+1<=2^20 by decide)
theorem Jt(h:b<=1000):gv (iT b)=true:=by
 show(((iT b).cps.all λx=>decide (x<1114112))=true);have:pM b<1114112:=by unfold pM;lia
 simp[iT,this]
theorem ud(h:∀b∈row,b<=1000):Lay (n+1) (.list ((row.map iT).map .str)):=by
 rw[bq];exact .list (.map _ λb hb=>.str (Jt (h b hb)))
theorem qY{xs: List Str}(h:σ.get a=some (.list (xs.map .str))):Rd G σ (.ref a) (.list (xs.map .str)):=.list h (.map (λzz=>.str) xs)
seal aV cD SS eA bN d0 bH fH du cW eU fV dk gI fg kG SK SF m6 mZ iz sS n9 dy
unseal st in
theorem u2A(B:aF G 6)(hh:G.A.handled=none)(mQ:aN.length=kk+1)(hl:aN.length<=50)(C:oE c.lo turn row aN):SS G 15 (eL tk) (ai fU 2) (lV c (some (.ref 20)) row i [(So "turn",.int turn),(So "soon",.ref 17),(So "last",.int (di (0::aN))),(So "laid",.ref 19),(So "most",.int (c.dress.fmod 3+2*c.lo)),(So "cross",.ref 22)] ([(22,.list [])]++([(20,.list ((au row 10 (aS aN)).bP.map eQ)),(19,.list ((aN:List Int).map .int)),(18,.gQ 0 (aS aN) 1)]++[(17,.list (aN.map .int))])) 24) .next (lV c (some (.ref 20)) row i [(So "turn",.int turn),(So "soon",.ref 17),(So "last",.int (di (0::aN))),(So "laid",.ref 19),(So "most",.int (c.dress.fmod 3+2*c.lo)),(So "cross",.ref 22)] ([(26,.list (row.map .int)),(25,.list [.ref 17,.int (c.dress.fmod 3+2*c.lo),.int (c.dress.fmod 3)]),(24,.list [.ref 19,.int (c.dress.fmod 3+2*c.lo),.int (c.dress.fmod 3)])]++([(22,.list [])]++([(20,.list ((au row 10 (aS aN)).bP.map eQ)),(19,.list ((aN:List Int).map .int)),(18,.gQ 0 (aS aN) 1)]++[(17,.list (aN.map .int))]))) 27):=by
 have hk:0<=c.dress.fmod 3/\c.dress.fmod 3<1000:=⟨bS _ (by decide),fj (c9 _ (by decide)) (by decide)⟩;have e:=vZ mQ C.back
 conv in ai fU 2=>whnf
 obtain⟨sU,A9⟩:=B.sN;exact .jK (b:=false) (.RA (.cmp (.list (.cons (.loc rfl rfl) (.cons (.loc rfl rfl) (.cons (.dP (.glob (ey B)) (.cons (.loc rfl rfl) .nil) (tL (j:=11) (i:=2) (B.le rfl) hk rfl rfl rfl)) .nil))) rfl)
  (.list (.cons (.loc rfl rfl) (.cons (.bin (.bin (.cell rfl rfl) .int (gq (by decide))) (.bin .int (.cell rfl rfl) (lI (gZ (by decide)))) cE) (.cons (.bin (.cell rfl rfl) .int (gq (by decide))) .nil))) rfl) (fb (n:=2) (d:=Ag c aN) tq (qX rfl rfl) (qX rfl rfl) (B.hn (by decide))))
  (.RC (.cmp (.gy A9.1 (.glob (A7 B)) (.cons (.loc rfl rfl) (.cons (.un (.loc rfl rfl) nz) .nil)) (SK.og (g:=λvs=>call (.ref 229) vs) (SK.kx (τ0:=sM aN) (τ1:=ni (-turn) aN) (news:=[(26,.list (row.map .int))]) (n':=27) (c:=.ref 26) (c0:=.ref 7) (ks:=[]) (ks0:=[]) [(17,0),(0,1)] [(26,7)] rfl rfl rfl rfl rfl
   ⟨⟨_,rfl,rfl⟩,⟨_,rfl,av⟩,trivial⟩ ⟨⟨_,_,rfl,e.2.2.1,av⟩,⟨_,_,rfl,e.2.2.2,rfl⟩,trivial⟩ ⟨⟨_,e.2.1,av⟩,trivial⟩ (λh' q=>Ap ((B.le (m:=3) rfl).ext q) hh (bc hl (by decide)) C.back e.1) rfl rfl rfl))) (.loc rfl rfl) (fb (n:=1) (d:=.list (row.map .int)) (.ints (l:=row)) (.ints rfl) (.ints rfl) (B.hn (by decide)))))) .nil
unseal st in
theorem u2B(B:aF G 6)(hh:G.A.handled=none)(C:oE c.lo turn [] []):SS G 15 (eL tk) (ai fU 2) (lV c (some (.ref 20)) [] i [(So "turn",.int turn),(So "soon",.ref 15),(So "last",.int (di (0::[]))),(So "laid",.ref 19),(So "most",.int (c.dress.fmod 3+2*c.lo)),(So "cross",.ref 22)] ([(22,.list [])]++([(20,.list ((au [] 10 (aS [])).bP.map eQ)),(19,.list (([]:List Int).map .int)),(18,.gQ 0 (aS []) 1)]++[])) 24) .next (lV c (some (.ref 20)) [] i [(So "turn",.int turn),(So "soon",.ref 15),(So "last",.int (di (0::[]))),(So "laid",.ref 19),(So "most",.int (c.dress.fmod 3+2*c.lo)),(So "cross",.ref 22)] ([(25,.list [.ref 15,.int (c.dress.fmod 3+2*c.lo),.int (c.dress.fmod 3)]),(24,.list [.ref 19,.int (c.dress.fmod 3+2*c.lo),.int (c.dress.fmod 3)])]++([(22,.list [])]++([(20,.list ((au [] 10 (aS [])).bP.map eQ)),(19,.list (([]:List Int).map .int)),(18,.gQ 0 (aS []) 1)]++[]))) 26):=by
 have hk:0<=c.dress.fmod 3/\c.dress.fmod 3<1000:=⟨bS _ (by decide),fj (c9 _ (by decide)) (by decide)⟩;have e:=vY (turn:=-turn)
 conv in ai fU 2=>whnf
 obtain⟨sU,A9⟩:=B.sN;exact .jK (b:=false) (.RA (.cmp (.list (.cons (.loc rfl rfl) (.cons (.loc rfl rfl) (.cons (.dP (.glob (ey B)) (.cons (.loc rfl rfl) .nil) (tL (j:=11) (i:=2) (B.le rfl) hk rfl rfl rfl)) .nil))) rfl)
  (.list (.cons (.loc rfl rfl) (.cons (.bin (.bin (.cell rfl rfl) .int (gq (by decide))) (.bin .int (.cell rfl rfl) (lI (gZ (by decide)))) cE) (.cons (.bin (.cell rfl rfl) .int (gq (by decide))) .nil))) rfl) (fb (n:=2) (d:=Ag c []) tq (qX rfl rfl) (qX rfl rfl) (B.hn (by decide))))
  (.RC (.cmp (.gy A9.1 (.glob (A7 B)) (.cons (.loc rfl rfl) (.cons (.un (.loc rfl rfl) nz) .nil)) (SK.og (g:=λvs=>call (.ref 229) vs) (SK.kx (τ0:=sM []) (τ1:=ni (-turn) []) (news:=[]) (n':=26) (c:=.ref 15) (c0:=.ref 0) (ks:=[]) (ks0:=[]) [(15,0),(0,1)] [] rfl rfl rfl rfl rfl
   ⟨⟨_,rfl,rfl⟩,⟨_,rfl,rfl⟩,trivial⟩ ⟨⟨_,_,rfl,e.2.1,rfl⟩,⟨_,_,rfl,e.2.2,rfl⟩,trivial⟩ trivial (λh' q=>Ap ((B.le (m:=3) rfl).ext q) hh (by decide) C.back e.1) rfl rfl rfl))) (.loc rfl rfl) (fb (n:=1) (d:=.list ([].map .int)) (.ints (l:=[])) (.ints rfl) (.ints rfl) (B.hn (by decide)))))) .nil
noncomputable abbrev Y5(c:LC)(turn:Int)(row aN:List Int)(j k:Nat):St:=lV c (some (.ref 20)) row j [(So "turn",.int turn),(So "soon",.ref 17),(So "last",.int (di (0::aN))),(So "laid",.ref 19),(So "most",.int (c.dress.fmod 3+2*c.lo)),(So "cross",.ref 22)] ([(27,.i6 20 k),(26,.list (row.map .int)),(25,.list [.ref 17,.int (c.dress.fmod 3+2*c.lo),.int (c.dress.fmod 3)]),(24,.list [.ref 19,.int (c.dress.fmod 3+2*c.lo),.int (c.dress.fmod 3)])]++([(22,.list [])]++([(20,.list ((au row 10 (aS aN)).bP.map eQ)),(19,.list ((aN:List Int).map .int)),(18,.gQ 0 (aS aN) 1)]++[(17,.list (aN.map .int))]))) 28
noncomputable abbrev Y3(c:LC)(turn:Int)(row aN:List Int)(j k:Nat):St:=lV c (some (.ref 20)) row j [(So "turn",.int turn),(So "soon",.ref 17),(So "last",.int (di (0::aN))),(So "laid",.ref 19),(So "most",.int (c.dress.fmod 3+2*c.lo)),(So "cross",.ref 22)] ([(31,.i6 15 k),(30,.list ((row.map iT).map .str)),(28,.list (uE (au row 10 (aS aN)).bP (au row 10 (aS aN)).bP.length)),(26,.list (row.map .int)),(25,.list [.ref 17,.int (c.dress.fmod 3+2*c.lo),.int (c.dress.fmod 3)]),(24,.list [.ref 19,.int (c.dress.fmod 3+2*c.lo),.int (c.dress.fmod 3)])]++([(22,.list [])]++([(20,.list ((au row 10 (aS aN)).bP.map eQ)),(19,.list ((aN:List Int).map .int)),(18,.gQ 0 (aS aN) 1)]++[(17,.list (aN.map .int))]))) 32
unseal st in
theorem u3A(B:aF G 6)(hh:G.A.handled=none)(C:oE c.lo turn row aN)(h0:∀b∈(row:List Int),0<=b/\b<=1000)(ha:asc row=true)(hl:(row:List Int).length<=50):∃σ,eA G 15 (eL tk) [ai fU 3] (lV c (some (.ref 20)) row j [(So "turn",.int turn),(So "soon",.ref 17),(So "last",.int (di (0::aN))),(So "laid",.ref 19),(So "most",.int (c.dress.fmod 3+2*c.lo)),(So "cross",.ref 22)] ([(26,.list (row.map .int)),(25,.list [.ref 17,.int (c.dress.fmod 3+2*c.lo),.int (c.dress.fmod 3)]),(24,.list [.ref 19,.int (c.dress.fmod 3+2*c.lo),.int (c.dress.fmod 3)])]++([(22,.list [])]++([(20,.list ((au row 10 (aS aN)).bP.map eQ)),(19,.list ((aN:List Int).map .int)),(18,.gQ 0 (aS aN) 1)]++[(17,.list (aN.map .int))]))) 27) .next σ/\fz 15 σ (lV c (some (.ref 16)) row j [(So "turn",.int turn),(So "soon",.ref 17)] [(17,.list (aN.map .int))] 18):=by
 have hp:=C.perm;have cx:(au row 10 (aS aN)).bP.length<=50:=by have:=hp.length_eq;rw[aj]at this;exact this▸hl
 conv in ai fU 3=>whnf
 refine⟨_,.cons (.jK (b:=false) (.RA (.cmp (.dP (.glob (oO B)) (.cons (.comp (mm:=[]) (it:=27) (c:=.ref 20) (σ1:=lV c (some (.ref 20)) row j [(So "turn",.int turn),(So "soon",.ref 17),(So "last",.int (di (0::aN))),(So "laid",.ref 19),(So "most",.int (c.dress.fmod 3+2*c.lo)),(So "cross",.ref 22)] ([(26,.list (row.map .int)),(25,.list [.ref 17,.int (c.dress.fmod 3+2*c.lo),.int (c.dress.fmod 3)]),(24,.list [.ref 19,.int (c.dress.fmod 3+2*c.lo),.int (c.dress.fmod 3)])]++([(22,.list [])]++([(20,.list ((au row 10 (aS aN)).bP.map eQ)),(19,.list ((aN:List Int).map .int)),(18,.gQ 0 (aS aN) 1)]++[(17,.list (aN.map .int))]))) 27) (σ2:=Y5 c turn row aN j 0) (σ3:=(PP (Y5 c turn row aN j (au row 10 (aS aN)).bP.length) (uE (au row 10 (aS aN)).bP (au row 10 (aS aN)).bP.length) []).del 27) 30 (cl:=[]) (by kernel_rfl) (by kernel_rfl)
   (.cell rfl rfl) (cM rfl) (show 29<30 by decide) ?h1 rfl) .nil) (oX (xs:=((au row 10 (aS aN)).bP.map (·.1)).map iT) (ys:=row.map iT) (congrArg (λl=>some (AO.list l)) (wK (au row 10 (aS aN)).bP)) (by rw[aj,aj];lia) (pE hp ha λb hb=>(h0 b hb).1)))
  (.comp (mm:=[]) (it:=31) (c:=.ref 15) (σ1:=lV c (some (.ref 20)) row j [(So "turn",.int turn),(So "soon",.ref 17),(So "last",.int (di (0::aN))),(So "laid",.ref 19),(So "most",.int (c.dress.fmod 3+2*c.lo)),(So "cross",.ref 22)] ([(30,.list ((row.map iT).map .str)),(28,.list (uE (au row 10 (aS aN)).bP (au row 10 (aS aN)).bP.length)),(26,.list (row.map .int)),(25,.list [.ref 17,.int (c.dress.fmod 3+2*c.lo),.int (c.dress.fmod 3)]),(24,.list [.ref 19,.int (c.dress.fmod 3+2*c.lo),.int (c.dress.fmod 3)])]++([(22,.list [])]++([(20,.list ((au row 10 (aS aN)).bP.map eQ)),(19,.list ((aN:List Int).map .int)),(18,.gQ 0 (aS aN) 1)]++[(17,.list (aN.map .int))]))) 31) (σ2:=Y3 c turn row aN j 0) (σ3:=(PP (Y3 c turn row aN j (row:List Int).length) (wH row (row:List Int).length) []).del 31) 34 (cl:=[]) (by kernel_rfl) (by kernel_rfl) (.loc rfl rfl) (cM rfl) (show 33<34 by decide) ?h2 rfl)
  (fb (n:=1) (d:=.list ((row.map iT).map .str)) (ud (row:=row) λb hb=>(h0 b hb).2) (qY rfl) (qY (congrArg (λl=>some (AO.list l)) (tI row))) (B.hn (by decide))))
  (.RC (.cmp (.loc rfl rfl) (.list .nil rfl) (fb (n:=1) (.list .nil) (.list rfl .nil) (.list rfl .nil) (B.hn (by decide)))))) .nil) .nil rfl,?h3⟩
 case h1 =>
  exact cW.simple (N:=28) (n:=(au row 10 (aS aN)).bP.length) (Y5 c turn row aN j) (λi=>.tup [wA (au row 10 (aS aN)).bP i,wB (au row 10 (aS aN)).bP i]) (λi=>Yc (au row 10 (aS aN)).bP i) (uE (au row 10 (aS aN)).bP) (λzz=>rfl) rfl (show 27<30 by decide) rfl rfl rfl (mK _ _ _ _ _) (eR rfl) (λi hi=>⟨X.yC rfl rfl (mn hi),.tuple hh (.name (.loc (m':=[]) rfl) (.name (.loc (m':=[(So "ball",wA (au row 10 (aS aN)).bP i)]) rfl) .nil)),.md (.loc rfl rfl) rfl (f5 (by lia)) eS⟩) (D.list hh rfl rfl (by rw[aj]))
 case h2 =>
  exact cW.simple (N:=32) (n:=(row:List Int).length) (Y3 c turn row aN j) (λi=>.int ((row:List Int).getD i 0)) (λi=>[(So "ball",.int ((row:List Int).getD i 0))]) (wH row) (λzz=>rfl) rfl (show 31<34 by decide) rfl rfl rfl (mK _ _ _ _ _) (eR rfl) (λi hi=>⟨X.names rfl rfl (AX hi),.name (.loc (m':=[]) rfl),.md (.bin .str (.dP (.glob (nW B)) (.cons (.bin .int (.loc rfl rfl) cE) .nil) (qo (by have:=h0 _ (uz hi);lia) (by have:=h0 _ (uz hi);lia))) x') rfl (f5 (by lia)) eS⟩) (D.list hh rfl rfl (by rw[aj]))
 case h3=>exact fz.mk [(15,15),(16,20),(17,17)] rfl rfl ⟨⟨_,rfl,av⟩,⟨_,rfl,av⟩,⟨_,rfl,rfl⟩,⟨_,rfl,cz⟩,⟨_,rfl,rfl⟩,⟨_,rfl,rfl⟩,⟨_,rfl,rfl⟩,⟨_,rfl,rfl⟩,⟨_,rfl,rfl⟩,⟨_,rfl,rfl⟩,⟨_,rfl,rfl⟩,⟨_,rfl,_,rfl,rfl,rfl,rfl,rfl,rfl,rfl,trivial⟩,⟨_,rfl,rfl⟩,⟨_,rfl,rfl⟩,⟨_,rfl,rfl⟩,trivial⟩
noncomputable abbrev Y4(c:LC)(turn:Int)(j k:Nat):St:=lV c (some (.ref 20)) [] j [(So "turn",.int turn),(So "soon",.ref 15),(So "last",.int (di (0::[]))),(So "laid",.ref 19),(So "most",.int (c.dress.fmod 3+2*c.lo)),(So "cross",.ref 22)] ([(26,.i6 20 k),(25,.list [.ref 15,.int (c.dress.fmod 3+2*c.lo),.int (c.dress.fmod 3)]),(24,.list [.ref 19,.int (c.dress.fmod 3+2*c.lo),.int (c.dress.fmod 3)])]++([(22,.list [])]++([(20,.list ((au [] 10 (aS [])).bP.map eQ)),(19,.list (([]:List Int).map .int)),(18,.gQ 0 (aS []) 1)]++[]))) 27
noncomputable abbrev Y2(c:LC)(turn:Int)(j k:Nat):St:=lV c (some (.ref 20)) [] j [(So "turn",.int turn),(So "soon",.ref 15),(So "last",.int (di (0::[]))),(So "laid",.ref 19),(So "most",.int (c.dress.fmod 3+2*c.lo)),(So "cross",.ref 22)] ([(30,.i6 15 k),(29,.list (([].map iT).map .str)),(27,.list (uE (au [] 10 (aS [])).bP (au [] 10 (aS [])).bP.length)),(25,.list [.ref 15,.int (c.dress.fmod 3+2*c.lo),.int (c.dress.fmod 3)]),(24,.list [.ref 19,.int (c.dress.fmod 3+2*c.lo),.int (c.dress.fmod 3)])]++([(22,.list [])]++([(20,.list ((au [] 10 (aS [])).bP.map eQ)),(19,.list (([]:List Int).map .int)),(18,.gQ 0 (aS []) 1)]++[]))) 31
unseal st in
theorem u3B(B:aF G 6)(hh:G.A.handled=none)(C:oE c.lo turn [] [])(h0:∀b∈([]:List Int),0<=b/\b<=1000)(ha:asc []=true)(hl:([]:List Int).length<=50):∃σ,eA G 15 (eL tk) [ai fU 3] (lV c (some (.ref 20)) [] j [(So "turn",.int turn),(So "soon",.ref 15),(So "last",.int (di (0::[]))),(So "laid",.ref 19),(So "most",.int (c.dress.fmod 3+2*c.lo)),(So "cross",.ref 22)] ([(25,.list [.ref 15,.int (c.dress.fmod 3+2*c.lo),.int (c.dress.fmod 3)]),(24,.list [.ref 19,.int (c.dress.fmod 3+2*c.lo),.int (c.dress.fmod 3)])]++([(22,.list [])]++([(20,.list ((au [] 10 (aS [])).bP.map eQ)),(19,.list (([]:List Int).map .int)),(18,.gQ 0 (aS []) 1)]++[]))) 26) .next σ/\fz 15 σ (lV c (some (.ref 16)) [] j [(So "turn",.int turn),(So "soon",.ref 15)] [] 18):=by
 have hp:=C.perm;have cx:(au [] 10 (aS [])).bP.length<=50:=by have:=hp.length_eq;rw[aj]at this;exact this▸hl
 conv in ai fU 3=>whnf
 refine⟨_,.cons (.jK (b:=false) (.RA (.cmp (.dP (.glob (oO B)) (.cons (.comp (mm:=[]) (it:=26) (c:=.ref 20) (σ1:=lV c (some (.ref 20)) [] j [(So "turn",.int turn),(So "soon",.ref 15),(So "last",.int (di (0::[]))),(So "laid",.ref 19),(So "most",.int (c.dress.fmod 3+2*c.lo)),(So "cross",.ref 22)] ([(25,.list [.ref 15,.int (c.dress.fmod 3+2*c.lo),.int (c.dress.fmod 3)]),(24,.list [.ref 19,.int (c.dress.fmod 3+2*c.lo),.int (c.dress.fmod 3)])]++([(22,.list [])]++([(20,.list ((au [] 10 (aS [])).bP.map eQ)),(19,.list (([]:List Int).map .int)),(18,.gQ 0 (aS []) 1)]++[]))) 26) (σ2:=Y4 c turn j 0) (σ3:=(PP (Y4 c turn j (au [] 10 (aS [])).bP.length) (uE (au [] 10 (aS [])).bP (au [] 10 (aS [])).bP.length) []).del 26) 29 (cl:=[]) (by kernel_rfl) (by kernel_rfl)
   (.cell rfl rfl) (cM rfl) (show 28<29 by decide) ?h1 rfl) .nil) (oX (xs:=((au [] 10 (aS [])).bP.map (·.1)).map iT) (ys:=[].map iT) (congrArg (λl=>some (AO.list l)) (wK (au [] 10 (aS [])).bP)) (by rw[aj,aj];lia) (pE hp ha λb hb=>(h0 b hb).1)))
  (.comp (mm:=[]) (it:=30) (c:=.ref 15) (σ1:=lV c (some (.ref 20)) [] j [(So "turn",.int turn),(So "soon",.ref 15),(So "last",.int (di (0::[]))),(So "laid",.ref 19),(So "most",.int (c.dress.fmod 3+2*c.lo)),(So "cross",.ref 22)] ([(29,.list (([].map iT).map .str)),(27,.list (uE (au [] 10 (aS [])).bP (au [] 10 (aS [])).bP.length)),(25,.list [.ref 15,.int (c.dress.fmod 3+2*c.lo),.int (c.dress.fmod 3)]),(24,.list [.ref 19,.int (c.dress.fmod 3+2*c.lo),.int (c.dress.fmod 3)])]++([(22,.list [])]++([(20,.list ((au [] 10 (aS [])).bP.map eQ)),(19,.list (([]:List Int).map .int)),(18,.gQ 0 (aS []) 1)]++[]))) 30) (σ2:=Y2 c turn j 0) (σ3:=(PP (Y2 c turn j ([]:List Int).length) (wH [] ([]:List Int).length) []).del 30) 33 (cl:=[]) (by kernel_rfl) (by kernel_rfl) (.loc rfl rfl) (cM rfl) (show 32<33 by decide) ?h2 rfl)
  (fb (n:=1) (d:=.list (([].map iT).map .str)) (ud (row:=[]) λb hb=>(h0 b hb).2) (qY rfl) (qY (congrArg (λl=>some (AO.list l)) (tI []))) (B.hn (by decide))))
  (.RC (.cmp (.loc rfl rfl) (.list .nil rfl) (fb (n:=1) (.list .nil) (.list rfl .nil) (.list rfl .nil) (B.hn (by decide)))))) .nil) .nil rfl,?h3⟩
 case h1 =>
  exact cW.simple (N:=27) (n:=(au [] 10 (aS [])).bP.length) (Y4 c turn j) (λi=>.tup [wA (au [] 10 (aS [])).bP i,wB (au [] 10 (aS [])).bP i]) (λi=>Yc (au [] 10 (aS [])).bP i) (uE (au [] 10 (aS [])).bP) (λzz=>rfl) rfl (show 26<29 by decide) rfl rfl rfl (mK _ _ _ _ _) (eR rfl) (λi hi=>⟨X.yC rfl rfl (mn hi),.tuple hh (.name (.loc (m':=[]) rfl) (.name (.loc (m':=[(So "ball",wA (au [] 10 (aS [])).bP i)]) rfl) .nil)),.md (.loc rfl rfl) rfl (f5 (by lia)) eS⟩) (D.list hh rfl rfl (by rw[aj]))
 case h2 =>
  exact cW.simple (N:=31) (n:=([]:List Int).length) (Y2 c turn j) (λi=>.int (([]:List Int).getD i 0)) (λi=>[(So "ball",.int (([]:List Int).getD i 0))]) (wH []) (λzz=>rfl) rfl (show 30<33 by decide) rfl rfl rfl (mK _ _ _ _ _) (eR rfl) (λi hi=>⟨X.names rfl rfl (AX hi),.name (.loc (m':=[]) rfl),.md (.bin .str (.dP (.glob (nW B)) (.cons (.bin .int (.loc rfl rfl) cE) .nil) (qo (by have:=h0 _ (uz hi);lia) (by have:=h0 _ (uz hi);lia))) x') rfl (f5 (by lia)) eS⟩) (D.list hh rfl rfl (by rw[aj]))
 case h3=>exact fz.mk [(15,15),(16,20)] rfl rfl ⟨⟨_,rfl,av⟩,⟨_,rfl,rfl⟩,⟨_,rfl,cz⟩,⟨_,rfl,rfl⟩,⟨_,rfl,rfl⟩,⟨_,rfl,rfl⟩,⟨_,rfl,rfl⟩,⟨_,rfl,rfl⟩,⟨_,rfl,rfl⟩,⟨_,rfl,rfl⟩,⟨_,rfl,_,rfl,rfl,rfl,rfl,rfl,rfl,rfl,trivial⟩,⟨_,rfl,rfl⟩,⟨_,rfl,rfl⟩,⟨_,rfl,rfl⟩,trivial⟩
end
section
open PyProof
variable{G:Gv}{n m tk i j a kk k2:Nat}{row aN:List Int}{turn:Int}{c:LC}{wa:Option CV}{W:List (Int×Int)}{b t:Int}
theorem A8{α yf: AM}{k: Nat}(c:H8 G [k] α)(h:yf.f j=α.f k):H8 G [j] yf:=by
 refine c_ λj7 ef=>?_;obtain⟨l,h1,env,r,L,e1,e2,e3,e4,h2⟩:=c;refine ef ?_;exact⟨l,h1,env,r,L,e1,e2,e3,h.trans e4,h2⟩
theorem ku.ext{c P: Nat}{fd: cm}{h: Heap}(A:ku G a c P fd)(k:∀b o,G.h₀.get? b=some o->h.get? b=some o):ku (Mine.ext G h) a c P fd:=by
 obtain⟨⟨o,ho,hd⟩,h2,h3⟩:=A;exact⟨⟨o,k _ _ ho,hd⟩,h2.keeps k,h3.keeps k⟩
theorem Ce(h:iJ turn []=some aN):aN=[]:=by
 unfold iJ at h
 split at h<;>exact(a8 h).symm
theorem P6{l: List Int}{k: Int}:insI l k b≠[]:=by
 unfold insI;exact List.append_ne_nil_of_right_ne_nil _ (List.cons_ne_nil _ _)
theorem I'(h:hJ n t row b=some aN):aN≠[]:=by
 unfold hJ at h
 split at h
 ·cases h
  unfold xo
  split<;>exact P6
 ·cases h
theorem Kt{bs: List Int}:∀{row:List Int},row≠[]->bs.foldlM (hJ n t) row=some aN->aN≠[]:=by
 induction bs with
 |nil=>intro row h1 h;exact a8 h▸h1
 |cons b bs ih =>
  intro row h1 h;rw[List.foldlM_cons]at h;obtain⟨r,h2,h3⟩:=Option.bind_eq_some_iff.mp h;exact ih (I' h2) h3
seal aV cD SS eA bN d0 bH fH du cW eU fV dk gI fg kG SK SF m6 mZ iz sS n9 dy
unseal st in
theorem t2A(B:aF G 6)(hh:G.A.handled=none)(mQ:aN.length=kk+1)(X:TurnOk c.pace c.lo turn row aN)(hj:¬turn<4->j≠0):SS G 15 (eL tk) (ai cy 2) (lV c (nM j) row i [(So "turn",.int turn),(So "soon",.ref 17),(So "last",.int (di (0::aN)))] [(17,.list (aN.map .int))] 18) .next (lV c (nM (j+1)) row i [(So "turn",.int turn),(So "soon",.ref 17)] [(17,.list (aN.map .int))] 18):=by
 by_cases ht:turn<4
 ·have C:=X.car ht
  have hM:=AL (M:=900) (λb hb=>(X.TZ b hb).2) (by decide);refine aH (u3A (tk:=tk) (j:=i) B hh C X.gQ X.asc X.len) λσ3 h3 hs=>?_;have body:eA G 15 (eL tk) fU (lV c (nM j) row i [(So "turn",.int turn),(So "soon",.ref 17),(So "last",.int (di (0::aN)))] [(17,.list (aN.map .int))] 18) .next σ3:=by
   rw[show fU=[ai fU 0,ai fU 1,ai fU 2,ai fU 3] by kernel_rfl];exact .cons (u0A B hh (by unfold aS;lia) C) (.cons (u1A B hh C) (.cons (u2A B hh mQ X.PV C) h3 rfl) rfl) rfl
  conv in ai cy 2=>whnf
  exact .mM (.jK (b:=true) (.cmp (.loc rfl rfl) .int (jv.to (decide_eq_true ht))) body) hs
 ·cases j with
  |zero=>exact(hj ht rfl).elim
  |succ j =>
   conv in ai cy 2=>whnf
   exact .mM (.jK (b:=false) (.cmp (.loc rfl rfl) .int (jv.to (decide_eq_false ht))) .nil) (fz.mk [(15,15),(16,16),(17,17)] rfl rfl ⟨⟨_,rfl,av⟩,⟨_,rfl,av⟩,⟨_,rfl,rfl⟩,⟨_,rfl,cz⟩,⟨_,rfl,rfl⟩,⟨_,rfl,rfl⟩,⟨_,rfl,rfl⟩,⟨_,rfl,rfl⟩,⟨_,rfl,rfl⟩,⟨_,rfl,rfl⟩,⟨_,rfl,rfl⟩,⟨_,rfl,_,rfl,rfl,rfl,rfl,rfl,rfl,rfl,trivial⟩,⟨_,rfl,rfl⟩,⟨_,rfl,rfl⟩,⟨_,rfl,rfl⟩,trivial⟩)
unseal st in
theorem t2B(B:aF G 6)(hh:G.A.handled=none)(X:TurnOk c.pace c.lo turn [] [])(hj:¬turn<4->j≠0):SS G 15 (eL tk) (ai cy 2) (lV c (nM j) [] i [(So "turn",.int turn),(So "soon",.ref 15),(So "last",.int (di (0::[])))] [] 18) .next (lV c (nM (j+1)) [] i [(So "turn",.int turn),(So "soon",.ref 15)] [] 18):=by
 by_cases ht:turn<4
 ·have C:=X.car ht
  have hM:=AL (M:=900) (λb hb=>(X.TZ b hb).2) (by decide);refine aH (u3B (tk:=tk) (j:=i) B hh C X.gQ X.asc X.len) λσ3 h3 hs=>?_;have body:eA G 15 (eL tk) fU (lV c (nM j) [] i [(So "turn",.int turn),(So "soon",.ref 15),(So "last",.int (di (0::[])))] [] 18) .next σ3:=by
   rw[show fU=[ai fU 0,ai fU 1,ai fU 2,ai fU 3] by kernel_rfl];exact .cons (u0B B hh (by unfold aS;lia) C) (.cons (u1B B hh C) (.cons (u2B B hh C) h3 rfl) rfl) rfl
  conv in ai cy 2=>whnf
  exact .mM (.jK (b:=true) (.cmp (.loc rfl rfl) .int (jv.to (decide_eq_true ht))) body) hs
 ·cases j with
  |zero=>exact(hj ht rfl).elim
  |succ j =>
   conv in ai cy 2=>whnf
   exact .mM (.jK (b:=false) (.cmp (.loc rfl rfl) .int (jv.to (decide_eq_false ht))) .nil) (fz.mk [(15,15),(16,16)] rfl rfl ⟨⟨_,rfl,av⟩,⟨_,rfl,rfl⟩,⟨_,rfl,cz⟩,⟨_,rfl,rfl⟩,⟨_,rfl,rfl⟩,⟨_,rfl,rfl⟩,⟨_,rfl,rfl⟩,⟨_,rfl,rfl⟩,⟨_,rfl,rfl⟩,⟨_,rfl,rfl⟩,⟨_,rfl,_,rfl,rfl,rfl,rfl,rfl,rfl,rfl,trivial⟩,⟨_,rfl,rfl⟩,⟨_,rfl,rfl⟩,⟨_,rfl,rfl⟩,trivial⟩)
theorem Ql(B:aF G 6)(hh:G.A.handled=none)(R:ez aN):pJ G (H8 G [3]) (λvs ws=>call (.ref 241) vs ([].zip ws)) [.ref 17] [] (lV c (nM (j+1)) row i [(So "turn",.int turn),(So "soon",.ref 17)] [(17,.list (aN.map .int))] 18) (.bool true) (lV c (nM (j+1)) row i [(So "turn",.int turn),(So "soon",.ref 17)] [(17,.list (aN.map .int))] 18):=by
 refine dX (B.ue) λsU A9=>?_;obtain⟨g,sp⟩:=Lk sU;refine pJ.raw (k:=3) rfl rfl λtX hr=>?_;exact pJ.kx (σ:=(lV c (nM (j+1)) row i [(So "turn",.int turn),(So "soon",.ref 17)] [(17,.list (aN.map .int))] 18).set 3 (.frame tX)) (τ0:=hT0 tX aN) (τ1:=I0 g aN tX) (c0:=.bool true) (news:=[]) (n':=18) (l:=[(17,0),(1,1),(3,2)]) (l2:=[]) (cs0:=[.ref 0]) (ks0:=[]) (C0:=H8 G [2]) (λα yf cα Kc=>A8 cα (Kc 2)) rfl rfl rfl rfl rfl ⟨⟨_,rfl,jd hr⟩,⟨_,rfl,rfl⟩,⟨_,rfl,av⟩,trivial⟩ ⟨⟨_,_,rfl,rfl,av⟩,⟨_,_,rfl,rfl,rfl⟩,⟨_,_,rfl,rfl,jd hr⟩,trivial⟩ trivial
  (λh k=>sp _ ((B.le (m:=5) rfl).ext k) hh (A9.ext k).1 (A9.ext k).2.1 (A9.ext k).2.2 _ R _ hr) rfl rfl rfl
unseal st in
theorem t3A(B:aF G 6)(hh:G.A.handled=none)(hR:turn=1+c.pace.fmod 3->ez aN):mZ G [3] 15 (eL tk) (ai cy 3) (lV c (nM (j+1)) row i [(So "turn",.int turn),(So "soon",.ref 17)] [(17,.list (aN.map .int))] 18) .next (lV c (nM (j+1)) row i [(So "turn",.int turn),(So "soon",.ref 17)] [(17,.list (aN.map .int))] 18):=by
 conv in ai cy 3=>whnf
 by_cases ht:turn=1+c.pace.fmod 3
 ·refine dX (B.ue) λsU A9=>?_
  exact .jK (b:=false) (.XA (.cmp (.loc rfl rfl) (.bin .int (.bin (.loc rfl rfl) .int (gq (by decide))) cE) (rT.to (beq_iff_eq.mpr ht))) (.not (t:=true) (.gy A9.1 (.glob (LX B)) (.cons (.loc rfl rfl) .nil) (Ql B hh (hR ht))))) .nil
 ·exact .jK (b:=false) (.of (.CZ (.cmp (.loc rfl rfl) (.bin .int (.bin (.loc rfl rfl) .int (gq (by decide))) cE) (rT.to (beq_eq_false_iff_ne.mpr ht))))) .nil
unseal st in
theorem t4A:SS G 15 (eL tk) (ai cy 4) (lV c (nM (j+1)) row i [(So "turn",.int turn),(So "soon",.ref 17)] [(17,.list (aN.map .int))] 18) .next (lV c (nM (j+1)) aN i [] [] 17):=by
 conv in ai cy 4=>whnf
 exact .mM (.assign (.loc rfl rfl) (.loc (m':=AU c [(So "turn",.int turn),(So "soon",.ref 17)]) rfl)) (fz.mk [(15,17),(16,16)] rfl rfl ⟨⟨_,rfl,av⟩,⟨_,rfl,rfl⟩,⟨_,rfl,cz⟩,⟨_,rfl,rfl⟩,⟨_,rfl,rfl⟩,⟨_,rfl,rfl⟩,⟨_,rfl,rfl⟩,⟨_,rfl,rfl⟩,⟨_,rfl,rfl⟩,⟨_,rfl,rfl⟩,⟨_,rfl,_,rfl,rfl,rfl,rfl,rfl,trivial⟩,⟨_,rfl,rfl⟩,⟨_,rfl,rfl⟩,⟨_,rfl,rfl⟩,trivial⟩)
theorem Tw(B:aF G 6)(hh:G.A.handled=none)(mQ:row.length=k2+1)(qi:aN.length=kk+1)(X:TurnOk c.pace c.lo turn row aN)(hj:¬turn<4->j≠0):iz G [3] 15 (eL tk) cy (lV c (nM j) row i [(So "turn",.int turn)] [] 17) .next (lV c (nM (j+1)) aN i [] [] 17):=by
 rw[show cy=[ai cy 0,ai cy 1,ai cy 2,ai cy 3,ai cy 4] by kernel_rfl];exact .cons (.of (t0A B hh mQ X.len X.mv)) (.cons (.of (t1A B hh X.PV)) (.cons (.of (t2A B hh qi X hj)) (.cons (t3A B hh X.held) (.cons (.of t4A) (.of .nil) rfl rfl) rfl rfl) rfl rfl) rfl rfl) rfl rfl
theorem Qk(B:aF G 6)(hh:G.A.handled=none)(R:ez []):pJ G (H8 G [3]) (λvs ws=>call (.ref 241) vs ([].zip ws)) [.ref 15] [] (lV c (nM (j+1)) [] i [(So "turn",.int turn),(So "soon",.ref 15)] [] 18) (.bool true) (lV c (nM (j+1)) [] i [(So "turn",.int turn),(So "soon",.ref 15)] [] 18):=by
 refine dX (B.ue) λsU A9=>?_;refine dX (Lk sU) λg sp=>?_;refine pJ.raw (k:=3) rfl rfl λtX hr=>?_;exact pJ.kx (σ:=(lV c (nM (j+1)) [] i [(So "turn",.int turn),(So "soon",.ref 15)] [] 18).set 3 (.frame tX)) (τ0:=hT0 tX []) (τ1:=I0 g [] tX) (c0:=.bool true) (news:=[]) (n':=18) (l:=[(15,0),(1,1),(3,2)]) (l2:=[]) (cs0:=[.ref 0]) (ks0:=[]) (C0:=H8 G [2]) (λα yf cα Kc=>A8 cα (Kc 2)) rfl rfl rfl rfl rfl ⟨⟨_,rfl,jd hr⟩,⟨_,rfl,rfl⟩,⟨_,rfl,rfl⟩,trivial⟩ ⟨⟨_,_,rfl,rfl,rfl⟩,⟨_,_,rfl,rfl,rfl⟩,⟨_,_,rfl,rfl,jd hr⟩,trivial⟩ trivial
  (λh k=>sp _ ((B.le (m:=5) rfl).ext k) hh (A9.ext k).1 (A9.ext k).2.1 (A9.ext k).2.2 _ R _ hr) rfl rfl rfl
unseal st in
theorem t3B(B:aF G 6)(hh:G.A.handled=none)(hR:turn=1+c.pace.fmod 3->ez []):mZ G [3] 15 (eL tk) (ai cy 3) (lV c (nM (j+1)) [] i [(So "turn",.int turn),(So "soon",.ref 15)] [] 18) .next (lV c (nM (j+1)) [] i [(So "turn",.int turn),(So "soon",.ref 15)] [] 18):=by
 conv in ai cy 3=>whnf
 by_cases ht:turn=1+c.pace.fmod 3
 ·refine dX (B.ue) λsU A9=>?_
  exact .jK (b:=false) (.XA (.cmp (.loc rfl rfl) (.bin .int (.bin (.loc rfl rfl) .int (gq (by decide))) cE) (rT.to (beq_iff_eq.mpr ht))) (.not (t:=true) (.gy A9.1 (.glob (LX B)) (.cons (.loc rfl rfl) .nil) (Qk B hh (hR ht))))) .nil
 ·exact .jK (b:=false) (.of (.CZ (.cmp (.loc rfl rfl) (.bin .int (.bin (.loc rfl rfl) .int (gq (by decide))) cE) (rT.to (beq_eq_false_iff_ne.mpr ht))))) .nil
unseal st in
theorem t4B:SS G 15 (eL tk) (ai cy 4) (lV c (nM (j+1)) [] i [(So "turn",.int turn),(So "soon",.ref 15)] [] 18) .next (lV c (nM (j+1)) [] i [] [] 17):=by
 conv in ai cy 4=>whnf
 exact .mM (.assign (.loc rfl rfl) (.loc (m':=AU c [(So "turn",.int turn),(So "soon",.ref 15)]) rfl)) (fz.mk [(15,15),(16,16)] rfl rfl ⟨⟨_,rfl,av⟩,⟨_,rfl,rfl⟩,⟨_,rfl,cz⟩,⟨_,rfl,rfl⟩,⟨_,rfl,rfl⟩,⟨_,rfl,rfl⟩,⟨_,rfl,rfl⟩,⟨_,rfl,rfl⟩,⟨_,rfl,rfl⟩,⟨_,rfl,rfl⟩,⟨_,rfl,_,rfl,rfl,rfl,rfl,rfl,trivial⟩,⟨_,rfl,rfl⟩,⟨_,rfl,rfl⟩,⟨_,rfl,rfl⟩,trivial⟩)
theorem Tv(B:aF G 6)(hh:G.A.handled=none)(X:TurnOk c.pace c.lo turn [] [])(hj:¬turn<4->j≠0):iz G [3] 15 (eL tk) cy (lV c (nM j) [] i [(So "turn",.int turn)] [] 17) .next (lV c (nM (j+1)) [] i [] [] 17):=by
 rw[show cy=[ai cy 0,ai cy 1,ai cy 2,ai cy 3,ai cy 4] by kernel_rfl];exact .cons (.of (t0B B hh X.mv)) (.cons (.of (t1B B hh X.PV)) (.cons (.of (t2B B hh X hj)) (.cons (t3B B hh X.held) (.cons (.of t4B) (.of .nil) rfl rfl) rfl rfl) rfl rfl) rfl rfl) rfl rfl
theorem Tu(B:aF G 6)(hh:G.A.handled=none)(X:TurnOk c.pace c.lo turn row aN)(hj:¬turn<4->j≠0):iz G [3] 15 (eL tk) cy (lV c (nM j) row i [(So "turn",.int turn)] [] 17) .next (lV c (nM (j+1)) aN i [] [] 17):=by
 cases row with
 |nil =>
  obtain rfl:=Ce X.mv;exact Tv B hh X hj
 |cons b row =>
  have hs:aN≠[]:=Kt (List.cons_ne_nil _ _) X.mv;cases aN with
  |nil=>exact(hs rfl).elim
  |cons d aN=>exact Tw B hh rfl rfl X hj
end
section
open PyProof
variable{G:Gv}{n m tk i j a r:Nat}{row aN script:List Int}{turn k:Int}{c:LC}{wa:Option CV}{line:List Nat}{dress pace first second lo:Int}{ws:List (Int×Int)}{rows:Nat->List Int}
noncomputable abbrev Lg(rows:Nat->List Int)(c:LC)(i:Nat):St:=lV c (nM i) (rows i) i [] [] 17
seal aV cD SS eA bN d0 bH fH du cW eU fV dk gI fg kG SK SF m6 mZ iz sS n9 dy
unseal st in
theorem ZU(B:aF G 6)(hh:G.A.handled=none)(T:∀i:Nat,i<10->TurnOk c.pace c.lo (1+(i:Int)) (rows i) (rows (i+1))):
  mZ G [3] 9 (eL tk) (ai (fB (st 21)) 12) (lQ c.dress c.first c.second (some (.int c.lo)) none c.pace (c.dress.fmod 3) (rows 0) c.ws [] [] 13) .next (lZ c.ws (rows 10) [] [] 13):=by
 have body:∀i:Nat,i<10->iz G [3] 15 (eL tk) cy (lV c (nM i) (rows i) (i+1) [(So "turn",.int (1+(i:Int)))] [] 17) .next (Lg rows c (i+1)):=λi hi =>
  Tu B hh (T i hi) λh e=>h (by subst e;decide)
 conv in ai (fB (st 21)) 12=>whnf
 refine .mM (mZ.for (m':=15) (it:=14) 10 (Lg rows c) rfl rfl (by decide) (by decide) (.gi (.glob (dC B)) (.cons .int (.cons .int .nil)) rM) (.mM (m:=15) (iP (n:=10) rfl (by kernel_rfl) (by kernel_rfl)) (fz.mkX [(15,9)] rfl rfl rfl rfl ?h1) rfl rfl) (λi hi=>⟨_,⟨_,_,_,X.jI rfl hi,.name (.loc (m':=AU c []) rfl),body i hi⟩,.refl⟩) (D.jI hh rfl)) ?h2
 case h1=>exact⟨⟨_,rfl,av⟩,⟨_,rfl,rfl⟩,⟨_,rfl,cz⟩,⟨_,rfl,rfl⟩,⟨_,rfl,rfl⟩,⟨_,rfl,rfl⟩,⟨_,rfl,rfl⟩,⟨_,rfl,rfl⟩,⟨_,rfl,rfl⟩,⟨_,rfl,rfl⟩,⟨_,rfl,_,rfl,rfl,rfl,rfl,rfl,trivial⟩,⟨_,rfl,rfl⟩,⟨_,rfl,rfl⟩,⟨_,rfl,rfl⟩,trivial⟩
 case h2=>exact fz.mk [(12,12),(9,15)] rfl rfl ⟨⟨_,rfl,cz⟩,⟨_,rfl,av⟩,⟨_,rfl,_,rfl,rfl,rfl,trivial⟩,⟨_,rfl,rfl⟩,⟨_,rfl,rfl⟩,⟨_,rfl,rfl⟩,trivial⟩
structure pK(line:List Nat)(first second:Int)(ws:List (Int×Int))(rows:Nat->List Int):Prop where
 S1:oF (nu line)=some ws
 jw:jw (nu line)<=1000
 wl:ws.length<=60
 ws1:∀p∈ws.map (sY first second),0<=p.1/\p.1<=100/\0<=p.2/\p.2<=10000
 s1:(au (nu line) first 15).stack=[]
 s2:(au (nu line) second 15).stack=[]
 s3:(au (au (nu line) first 15).laid second 20).stack=[]
 s4:(au (au (nu line) second 15).laid first 20).stack=[]
 l3:(au (au (nu line) first 15).laid second 20).laid=rows 0
 l4:(au (au (nu line) second 15).laid first 20).laid=rows 0
 n1:(au (nu line) first 15).laid.length<=1000
 n2:(au (nu line) second 15).laid.length<=1000
 m1:((au (nu line) first 15).mx:Int)=min first (di (0::ws.map (·.1)))
 m2:((au (nu line) second 15).mx:Int)=min second (di (0::ws.map (·.1)))
 turns:∀(pace:Int)(i:Nat),i<10->TurnOk pace (di (0::ws.map (·.1))) (1+(i:Int)) (rows i) (rows (i+1))
 ve:(gG (ws.map (sY first second)) (ws.map (sY first second)).length).1=rows 10
def nZ(line:List Nat)(dress pace:Int):Prop:=
 ∃fold:Nat->List Nat,(∀c∈j_ dress pace line,oP (c:Nat)=false->qu c (tx (fold c)))/\(((j_ dress pace line).filter λ(c:Nat)=>!oP c).map fold).flatten=line
theorem HR(n:Nat):∀c∈gz n,32<=c/\c<=200:=by
 intro c hc;unfold gz at hc;obtain⟨k,_,rfl⟩:=List.mem_map.mp hc
 split<;>decide
theorem vU(dress pace:Int)(l:List Nat):∀(n place:Nat)(acc:List Nat),(jO dress pace l n place acc).length<=acc.length+2*n:=by
 intro n
 induction n with
 |zero=>intro place acc;exact aG _
 |succ n ih =>
  intro place acc;unfold jO
  split
  ·refine ak (ih _ _) ?_
   have:=tA dress pace l place;rw[aC];lia
  ·exact bj _ _
noncomputable abbrev TS(ws:List (Int×Int))(row:List Int):St:=(Cq ws row (gG ws ws.length) [] [] ws.length 15).del 14
theorem HN(B:aF G 6)(hh:G.A.handled=none)(hr:∃vs n,G.h₀.get? r=some (kE vs n)/\IntsAre vs script)(hl:script.length<=1000)
  (e0:gz ((d6 script).getD 0 0).toNat=line) (e1:(d6 script).getD 1 0=dress) (e2:(d6 script).getD 2 0=pace)
  (TY:nZ line dress pace) (F:pK line (1+dress.fmod 4) (1+pace.fmod 4) ws rows):
  iz G [3] 9 (eL tk) (fB (st 21)) (lS none none none none none [(So "script",.val (.ref r))] [] 9) (.ret (.bool true)) (TS (ws.map (sY (1+dress.fmod 4) (1+pace.fmod 4))) (rows 10)):=by
 refine aH (TY) λfold hf A5=>?_;have hll:line.length=10:=by rw[←e0];kernel_rfl
 have hc:∀c∈line,32<=c/\c<=200:=by rw[←e0];exact HR _
 have htl:(j_ dress pace line).length<=1000:=ak (vU dress pace line line.length 0 []) (by rw[hll];decide);have hl1:line.length<=1000:=by rw[hll];decide
 have hk:0<=dress.fmod 3/\dress.fmod 3<1000:=⟨bS _ (by decide),fj (c9 _ (by decide)) (by decide)⟩;have XT:=F.wl;have hw2:(ws.map (sY (1+dress.fmod 4) (1+pace.fmod 4))).length<=60:=by rw[aj];exact XT
 rw[show fB (st 21)=[ai (fB (st 21)) 0,ai (fB (st 21)) 1,ai (fB (st 21)) 2,ai (fB (st 21)) 3,ai (fB (st 21)) 4,ai (fB (st 21)) 5,ai (fB (st 21)) 6,ai (fB (st 21)) 7,ai (fB (st 21)) 8,ai (fB (st 21)) 9,ai (fB (st 21)) 10,ai (fB (st 21)) 11,ai (fB (st 21)) 12,ai (fB (st 21)) 13,ai (fB (st 21)) 14,ai (fB (st 21)) 15] by kernel_rfl];refine .cons (.of (lw0 B hh hr hl e0 e1 e2)) (.cons (.of (lw1 B hh hl1 hc rfl)) (.cons (.of (lw2 B hh htl)) (.cons (.of (lw3 B hh htl hl1 hf A5)) (.cons (.of (lw4 B hh hl1)) (.cons (.of (lw5 B hh F.jw F.S1)) (.cons (.of (lw6 B hh (ak XT (by decide)))) ?_ rfl rfl) rfl rfl) rfl rfl) rfl rfl) rfl rfl) rfl rfl) rfl rfl;refine .cons (.of (lw7 B hh hk F.s1)) (.cons (.of (lw8 B hh hk F.s2)) (.cons (.of (lw9 B hh hk F.s3)) ?_ rfl rfl) rfl rfl) rfl rfl;rw[F.l3];refine .cons (.of (ZW B hh hk F.s4 F.l4 (by rw[F.m1]) (by rw[F.m2]))) (.cons (.of (ZV B hh (ak XT (by decide)))) ?_ rfl rfl) rfl rfl;exact .cons (ZU (c:=⟨dress,1+dress.fmod 4,1+pace.fmod 4,di (0::ws.map (·.1)),pace,ws.map (sY (1+dress.fmod 4) (1+pace.fmod 4))⟩) B hh (F.turns pace)) (.of (.cons (ZT hh) (.cons (ZS B hh hw2 F.ws1) (ZR B F.ve) rfl) rfl)) rfl rfl
theorem TH(B:aF G 7)(hh:G.A.handled=none)(hr:∃vs n,G.h₀.get? r=some (kE vs n)/\IntsAre vs script)(hl:script.length<=1000)
  (TY:nZ (gz ((d6 script).getD 0 0).toNat) ((d6 script).getD 1 0) ((d6 script).getD 2 0)) (F:pK (gz ((d6 script).getD 0 0).toNat) (1+((d6 script).getD 1 0).fmod 4) (1+((d6 script).getD 2 0).fmod 4) ws rows):
  pJ G (H8 G []) (λvs ws=>call (.ref 246) vs ([].zip ws)) [.val (.ref r)] [] XQ (.bool true) (TS (ws.map (sY (1+((d6 script).getD 1 0).fmod 4) (1+((d6 script).getD 2 0).fmod 4))) (rows 10)):=by
 refine aH (B.H2) λtk D C=>?_;exact pJ.Hq (names:=[]) (m:=9) (f:=.ret (.bool true)) (σ1:=lS none none none none none [(So "script",.val (.ref r))] [] 9) (rb:=[(So "script",.val (.ref r))]) B.dH D B.dG C (Ug tk) (zw λα s u g q=>⟨_,Xi u,rfl,.aT q cf⟩) (by kernel_rfl) rfl (by kernel_rfl) λenv=>HN B.deep hh hr hl rfl rfl rfl TY F
end
section
open PyProof
variable{G:Gv}
def ye:Prop:=∀script:List Int,∃ws rows,nZ (gz ((d6 script).getD 0 0).toNat) ((d6 script).getD 1 0) ((d6 script).getD 2 0) /\
 pK (gz ((d6 script).getD 0 0).toNat) (1+((d6 script).getD 1 0).fmod 4) (1+((d6 script).getD 2 0).fmod 4) ws rows
theorem NF(P:ae)(f:Nat->Obj)(kt tk:Nat):(fw P f kt tk).get? 224=some ⟨.none,none,.fields #[],#[]⟩:=by kernel_rfl
theorem TB(P:ae)(f:Nat->Obj)(kt tk:Nat):(fw P f kt tk).get? lF=some ⟨.none,none,.fields #[],#[]⟩:=by kernel_rfl
theorem NC(P:ae)(f:Nat->Obj)(kt tk:Nat):(fw P f kt tk).get? 238=some ⟨.none,none,.fields #[],#[]⟩:=by kernel_rfl
theorem ND(P:ae)(f:Nat->Obj)(kt tk:Nat):(fw P f kt tk).get? 228=some (Fl P kt tk):=by kernel_rfl
theorem NG(P:ae)(f:Nat->Obj)(kt tk:Nat):(fw P f kt tk).get? 103=some (tJ P):=by kernel_rfl
theorem NB(P:ae)(f:Nat->Obj)(kt tk:Nat):(fw P f kt tk).get? 240=some (Fg P kt tk):=by kernel_rfl
noncomputable def fL:Nat->Option Nat
 |0=>some 224
 |1=>some 238
 |2=>some lF
 |_=>none
def OL(a:Nat):Prop:=a=224∨a=238∨a=lF
noncomputable abbrev aL:AM:=⟨fL,OL,λzz=>False⟩
theorem OI.empty{α: AM}{h: Heap}{a: Nat}{q:Nat->Nat->Str}(e:h.get? a=some ⟨.none,none,.fields #[],#[]⟩):OI G α h a (.tab a q):=
 ⟨rfl,#[],e,by simp[TriplesOk],λpos cv h=>by simp[h_]at h⟩
theorem nT{k: Nat}{ao: AO}(h:XQ.get k=some ao):(k=0/\ao=.tab 224 qM)∨(k=1/\ao=.tab 238 qH)∨(k=2/\ao=.tab lF yh):=by
 rcases k with _|_|_|k
 ·cases h;exact .inl ⟨rfl,rfl⟩
 ·cases h;exact .inr (.inl ⟨rfl,rfl⟩)
 ·cases h;exact .inr (.inr ⟨rfl,rfl⟩)
 ·cases h
theorem Ee{G: Gv}{s: aq}(h1:s.heap.get? 224=some ⟨.none,none,.fields #[],#[]⟩)(h2:s.heap.get? 238=some ⟨.none,none,.fields #[],#[]⟩)(h3:s.heap.get? lF=some ⟨.none,none,.fields #[],#[]⟩)
  (hb:G.h₀=oN s.heap OL) (ho:s.os=G.os) (hg:AllBare s.gens):GS G aL XQ s:=by
 refine⟨λk ao e=>?_,λk ao a e ha=>?_,λb o e=>fe.mp (hb▸e),λj k o1 o2 a e1 e2 f1 f2=>?_,λk hk=>?_,λa h=>?_,λa h=>h.elim,ho,hg⟩
 ·rcases nT e with⟨rfl,rfl⟩|⟨rfl,rfl⟩|⟨rfl,rfl⟩
  ·exact⟨224,rfl,.empty h1⟩
  ·exact⟨238,rfl,.empty h2⟩
  ·exact⟨lF,rfl,.empty h3⟩
 ·rcases nT e with⟨rfl,rfl⟩|⟨rfl,rfl⟩|⟨rfl,rfl⟩
  ·cases ha;exact .inl rfl
  ·cases ha;exact .inr (.inl rfl)
  ·cases ha;exact .inr (.inr rfl)
 ·rcases nT e1 with⟨rfl,rfl⟩|⟨rfl,rfl⟩|⟨rfl,rfl⟩<;>rcases nT e2 with⟨rfl,rfl⟩|⟨rfl,rfl⟩|⟨rfl,rfl⟩<;>first|rfl|(cases f1;cases f2)
 ·rcases k with _|_|_|k
  ·exact absurd hk (by decide)
  ·exact absurd hk (by decide)
  ·exact absurd hk (by decide)
  ·rfl
 ·rcases h with rfl|rfl|rfl
  ·exact⟨_,h1⟩
  ·exact⟨_,h2⟩
  ·exact⟨_,h3⟩
theorem Ck(AF:ye):sT:=by
 intro w f kt tk es ep he h0 s ns vs cx hi LR VB;refine kJ (AF ns) λws rows TY F=>?_;have th:∀{b:Nat}{ob:Obj},(fw w.params f kt tk).get? b=some ob->s.heap.get? b=some ob:=λe=>by rw[LR];exact aw _ e
 let G:Gv:=⟨pw,w,callerA,oN s.heap OL,s.os⟩
 have off:∀{b:Nat},mq.contains b=false->¬OL b:=λhb h=>by rcases h with rfl|rfl|rfl<;>exact absurd hb (by decide)
 have B:aF G 7:=⟨(by decide:callerA.depth+7<b9),rfl,rfl,(by decide:callerA.units+10*7<9000),f,kt,tk,es,ep,he,h0,λb o hb e=>fe.mpr ⟨off hb,th e⟩⟩;have TF:=th (NF w.params f kt tk);have t99:=th (TB w.params f kt tk);have TC:=th (NC w.params f kt tk);have gs:GS G aL XQ s:=Ee TF TC t99 rfl rfl (by rw[VB];intro g hg;simp at hg);have mQ:G.h₀.get? ne=some (kE vs 0):=by
  refine fe.mpr ⟨off (by decide),?_⟩;rw[LR];have:=aM (fw w.params f kt tk) (o:={cls:=.type "list",data:=.seq vs.toArray}) rfl;rw[xt]at this;exact this
 have sp:=TH (G:=G) (r:=ne) (script:=ns) B rfl ⟨vs,0,mQ,hi⟩ (ak cx (by decide)) TY F;refine wQ (sp aL s [.ref ne] [] _ ⟨[],rfl,rfl⟩ gs ⟨_,_,rfl,rfl,rfl⟩ rfl) ?_;rintro v s' ⟨β,le,g',rfl⟩;have Qr:∀{k b c:Nat}{q:Nat->Nat->Str}{oc:Obj}{cs:Array af}{ob:Obj}{σ:St},GS G β σ s'->σ.get k=some (.tab b q)->aL.f k=some b->s.heap.get? b=some ⟨.none,none,.fields #[],#[]⟩->s.heap.get? c=some oc->oc.cls=.type "code"->oc.data=.fields cs->cs[11]?=some (.ref b)->s.heap.get? b=some ob->asItWas s.heap s'.heap b ob:=by
  intro k b c q oc cs ob σ g hk hf e ec h1 h2 h3 eb;rw[e]at eb;cases eb;refine c_ λDd up1=>?_;obtain⟨a,ha,_,ps,e',_⟩:=g.own _ _ hk;cases(le.le k trivial b hf).symm.trans ha;refine up1 ?_;exact .inr (.inl ⟨⟨c,oc,cs,ec,h1,h2,h3⟩,rfl,#[],ps,rfl,by simpa using e'⟩)
 have old:∀b ob,s.heap.get? b=some ob->asItWas s.heap s'.heap b ob:=by
  intro b ob eb;by_cases hm:OL b
  ·rcases hm with rfl|rfl|rfl
   ·exact Qr (k:=0) (c:=228) (q:=qM) g' rfl rfl TF (th (ND w.params f kt tk)) rfl rfl rfl eb
   ·exact Qr (k:=1) (c:=240) (q:=qH) g' rfl rfl TC (th (NB w.params f kt tk)) rfl rfl rfl eb
   ·exact Qr (k:=2) (c:=103) (q:=yh) g' rfl rfl t99 (th (NG w.params f kt tk)) rfl rfl rfl eb
  ·exact .inl (g'.base b ob (fe.mpr ⟨hm,eb⟩)).2
 refine⟨rfl,⟨old,λb ob eb=>?_⟩,g'.os,g'.bare⟩;rcases old b ob eb with x|⟨_,_,vs,more,_,x⟩|⟨_,_,⟨o',es,n,x,_⟩,_⟩
 ·exact⟨_,x⟩
 ·exact⟨_,x⟩
 ·exact⟨_,x⟩
end
end Mine
section
namespace Mine.P
variable{M b c hi lo mid n r s turn y:Int}{a d i j k:Nat}
theorem abf(h:(hi-lo).toNat<=0):hi<=lo:=by lia
theorem Xz(h:hi-lo<=n+1)(h1:lo<=mid):hi-(mid+1)<=n:=by lia
theorem Xy(h:hi-lo<=n+1)(h2:mid<hi):mid-lo<=n:=by lia
theorem Xu{n: Nat}(h:(hi-lo).toNat<=n+1)(h1:lo<=mid)(h2:mid<hi):(hi-(mid+1)).toNat<=n/\(mid-lo).toNat<=n:=
 have h:hi-lo<=(n:Int)+1:=Int.toNat_le.mp h
 ⟨Int.toNat_le.mpr (Xz h h1),Int.toNat_le.mpr (Xy h h2)⟩
theorem QN(lt:Int->Bool)(m:Int)(n:Nat):∀(lo hi:Int),lo<=m->m<=hi->(hi-lo).toNat<=n->(∀k,lo<=k->k<m->lt k=false)->(∀k,m<=k->k<hi->lt k=true)->jh lt n lo hi=m:=by
 induction n with
 |zero=>exact λlo hi h1 h2 hn zz zz=>Int.le_antisymm h1 (aQ h2 (abf hn))
 |succ n ih =>
  intro lo hi h1 h2 hn ha hb;show(if lo<hi then(if lt ((lo+hi).fdiv 2)then jh lt n lo ((lo+hi).fdiv 2)else jh lt n ((lo+hi).fdiv 2+1) hi)else lo)=m;by_cases c:lo<hi
  ·have mb:=jZ c
   have hz:=Xu hn mb.1 mb.2;rw[if_pos c];by_cases hm:(lo+hi).fdiv 2<m
   ·rw[ha _ mb.1 hm,if_neg aJ]
    exact ih _ hi (Int.add_one_le_of_lt hm) h2 hz.1 (λk h3 h4=>ha k (aQ mb.1 (fW (Int.lt_of_add_one_le h3))) h4) hb
   ·have hm:=Int.not_lt.mp hm
    rw[hb _ hm mb.2,if_pos rfl];exact ih lo _ h1 hm hz.2 ha λk h3 h4=>hb k h3 (fj h4 mb.2)
  ·rw[if_neg c]
   exact Int.le_antisymm h1 (aQ h2 (Int.not_lt.mp c))
theorem j4(X Y:List Int)(k:Nat):(X++Y).getD k 0=if k<X.length then X.getD k 0 else Y.getD (k-X.length) 0:=by
 simp only[aB,List.getElem?_append]
 split<;>rfl
theorem getD_mem'{l: List Int}(h:k<l.length):l.getD k 0∈l:=by simp[h]
theorem vB(lt:Int->Bool)(m N:Nat)(hm:m<=N)(ha:∀j:Nat,j<m->lt j=false)(hb:∀j:Nat,m<=j->j<N->lt j=true):jh lt ((N:Int)-0).toNat 0 N=m:=
 QN lt m _ 0 N (aP m) (Int.ofNat_le.mpr hm) (aG _)
  (λk h1 h2=>by obtain⟨j,rfl⟩:=cu h1;exact ha j (Int.ofNat_lt.mp h2))
  (λk h1 h2=>by obtain⟨j,rfl⟩:=cu (aQ (aP m) h1);exact hb j (Int.ofNat_le.mp h1) (Int.ofNat_lt.mp h2))
theorem sJ(q:Int->Bool)(X Y:List Int)(hX:∀x∈X,q x=false)(hY:∀y∈Y,q y=true):jh (λk=>q ((X++Y).getD k.toNat 0)) (((X++Y).length:Int)-0).toNat 0 (X++Y).length=X.length:=by
 refine vB _ _ _ (by rw[aC];exact bj _ _) (λj hj=>?_) λj h1 h2=>?_
 ·show q ((X++Y).getD j 0)=false
  rw[j4,if_pos hj];exact hX _ (getD_mem' hj)
 ·show q ((X++Y).getD j 0)=true
  rw[j4,if_neg (Nat.not_lt.mpr h1)];rw[aC]at h2;exact hY _ (getD_mem' (mj h1 h2))
abbrev vK(l:List Int):Prop:=l.Pairwise (· < ·)
theorem pI:∀{l:List Int},vK l->∀(i d:Nat),i+d<l.length->l.getD i 0+d<=l.getD (i+d) 0:=by
 intro l h i d
 induction d with
 |zero=>intro _;simp
 |succ d ih =>
  intro hl;have h1:=ih (by lia);have h2:l.getD (i+d) 0<l.getD (i+(d+1)) 0:=by
   have:=List.pairwise_iff_getElem.mp h (i+d) (i+(d+1)) (by lia) hl (by lia);rw[aB,aB,aD (by lia),aD hl];exact this
  lia
noncomputable def push(b:Int):List Int->List Int
 |[]=>[b+1]
 |c::r=>if c=b+1 then c::push c r else(b+1)::c::r
theorem wj(b:Int):∀l:List Int,(push b l).length=l.length+1
 |[]=>rfl
 |c::r=>by unfold push;split<;>simp[wj c r]
theorem wk:∀(C:List Int)(b:Int),vK (b::C)->vK (b::push b C)
 |[],b,_=>by unfold push;simp;lia
 |c::r,b,h=>by
  have h1:=List.pairwise_cons.mp h;have hbc:b<c:=h1.1 c (.head _);unfold push
  split
  ·have ih:=wk r c h1.2
   refine List.pairwise_cons.mpr ⟨λx hx=>?_,ih⟩;rcases List.mem_cons.mp hx with rfl|hx
   ·exact hbc
   ·exact fj hbc ((List.pairwise_cons.mp ih).1 x hx)
  ·refine List.pairwise_cons.mpr ⟨λx hx=>?_,List.pairwise_cons.mpr ⟨λx hx=>?_,h1.2⟩⟩
   ·rcases List.mem_cons.mp hx with rfl|hx
    ·lia
    ·exact h1.1 x hx
   ·rcases List.mem_cons.mp hx with rfl|hx
    ·lia
    ·have:=(List.pairwise_cons.mp h1.2).1 x hx
     lia
theorem kM(b:Int)(k:Nat):(az (k+1)).map (λ(i:Nat)=>b+(i:Int))=b::(az k).map (λ(i:Nat)=>b+1+(i:Int)):=by
 rw[List.range_succ_eq_map,ba,bq]
 congr 1
 ·simp
 ·refine dN λi zz=>?_
  simp only[Function.comp];lia
theorem pT:∀(C:List Int)(b:Int),vK (b::C)->∃(k:Nat)(D:List Int),C=(az k).map (λ(i:Nat)=>b+1+(i:Int))++D/\(∀x∈D,b+1+k<x)/\push b C=(az k).map (λ(i:Nat)=>b+1+(i:Int))++(b+1+(k:Int))::D
 |[],b,_=>⟨0,[],by simp,by simp,by simp[push]⟩
 |c::r,b,h=>by
  have h1:=List.pairwise_cons.mp h;have hbc:b<c:=h1.1 c (.head _);by_cases e:c=b+1
  ·refine fu (pT r c h1.2) λk D e1 e2 e3=>?_
   refine qw (k+1) D ⟨?_,?_,?_⟩
   ·rw[kM,←e,fo,←e1]
   ·intro x hx;have:=e2 x hx;push_cast;lia
   ·unfold push
    rw[if_pos e,kM,←e,fo,e3]
    congr 3
    push_cast;lia
  ·refine qw 0 (c::r) ⟨by simp,?_,?_⟩
   ·intro x hx
    rcases List.mem_cons.mp hx with rfl|hx
    ·simp;lia
    ·have:=(List.pairwise_cons.mp h1.2).1 x hx
     simp;lia
   ·unfold push;rw[if_neg e];simp
theorem nP(n:Nat)(h:j<n):(bh n).getD j 0=j:=by
 unfold bh;rw[aB,br,gh h];show(0:Int)+j*1=j;rw[Int.mul_one,Int.zero_add]
theorem tS(turn:Int)(X Y:List Int)(box:Int)(hX:∀x∈X,x<box)(hY:∀y∈Y,box<y):xo turn (X++Y) box=X++box::Y:=by
 have e:∀k:Int,k=X.length->insI (X++Y) k box=X++box::Y:=by
  intro k hk;unfold insI;rw[hk];simp
 unfold xo
 split
 ·refine e _ (sJ (λx=>!decide (x<box)) X Y (λx hx=>?_) λy hy=>?_)
  ·simp[hX x hx]
  ·have:=hY y hy
   simp;lia
 ·refine e _ (sJ (λx=>decide (box<x)) X Y (λx hx=>?_) λy hy=>?_)
  ·have:=hX x hx
   simp;lia
  ·simp[hY y hy]
theorem qC(A C:List Int)(b:Int)(hA:∀x∈A,x<b)(hC:∀y∈C,b<y):e_ (A++b::C) b=A.length:=by
 unfold e_;refine sJ (λx=>!decide (x<b)) A (b::C) (λx hx=>?_) λy hy=>?_
 ·simp[hA x hx]
 ·rcases List.mem_cons.mp hy with rfl|hy
  ·simp
  ·have:=hC y hy
   simp;lia
theorem Rb(h:j+d=a+k)(g:r+d<=b+k):¬b-a<r-j:=by lia
theorem K0(h:a+(k+1)+d=j)(g:s+d<=r)(q:b+1+k<s):b-a<r-j:=by lia
theorem yI(ht:turn>0){A C: List Int}(h:vK (A++b::C)):hJ (A++b::C).length turn (A++b::C) b=some (A++push b C):=by
 obtain⟨hA,X9,hAC⟩:=List.pairwise_append.mp h;have hAb:∀x∈A,x<b:=λx hx=>hAC x hx b (.head _);have hC:=(List.pairwise_cons.mp X9).1;obtain⟨k,D,e1,e2,e3⟩:=pT C b X9;have CJ:A++b::C=A++((az (k+1)).map (λ(i:Nat)=>b+(i:Int))++D):=by rw[kM,fo,←e1]
 have cx:(A++b::C).length=A.length+(k+1)+D.length:=by rw[CJ,aC,aC,aj,bU];exact(kz _ _ _).symm
 have th:(A++b::C).getD (A.length+k) 0=b+k:=by
  rw[CJ,j4,if_neg (Nat.not_lt.mpr (bj _ _)),m5,j4,if_pos (by rw[aj,bU];exact bg k)];rw[aB,br,gh (bg k)];rfl
 have aaF:0<D.length->b+1+k<(A++b::C).getD (A.length+(k+1)) 0:=λhD=>by
  rw[CJ,j4,if_neg (Nat.not_lt.mpr (bj _ _)),m5,j4,aj,bU,if_neg (ew _),Nat.sub_self];exact e2 _ (getD_mem' hD)
 have td:e_ (A++b::C) b=A.length:=qC A C b hAb hC;have lk:A.length+k<A.length+(k+1)+D.length:=aA (bg (A.length+k)) (bj _ _);have zr:hU (A++b::C).length turn (A++b::C) (b-A.length)=(A.length+k:Nat):=by
  unfold hU;rw[if_pos ht,gO];rw[vB _ (A.length+(k+1)) _ (cx▸bj _ _) (λj h1=>?_) (λj h1 h2=>?_)]
  ·show((A.length+k:Nat):Int)+1-1=_
   exact Int.add_sub_cancel _ _
  ·have h1:j<=A.length+k:=Nat.le_of_lt_succ h1
   have hj:j<(A++b::C).length:=cx▸bc h1 lk;show decide (b-A.length<keyOf _ ((bh _).getD j 0))=false;rw[nP _ hj];obtain⟨d,hd⟩:=Nat.le.dest h1;have g:=pI h j d (by rw[hd,cx];exact lk);rw[hd,th]at g;exact decide_eq_false (Rb hd g)
  ·show decide (b-A.length<keyOf _ ((bh _).getD j 0))=true
   rw[nP _ h2];obtain⟨d,hd⟩:=Nat.le.dest h1;have g:=pI h (A.length+(k+1)) d (hd▸h2);rw[hd]at g;exact decide_eq_true (K0 hd g (aaF (Nat.pos_of_lt_add_right (bc h1 (cx▸h2)))))
 unfold hJ;rw[td,zr,if_pos ⟨rfl,aP _,Int.ofNat_lt.mpr (cx▸lk)⟩,if_pos ht];rw[show((A.length+k:Nat):Int).toNat=A.length+k from rfl,th];rw[show(A.length:Int).toNat=A.length from rfl,show((A.length:Int)+1).toNat=A.length+1 from rfl];rw[List.take_left,show(A++b::C).drop (A.length+1)=C by rw[←ib,List.drop_left];rfl];rw[e3,e1,←a7,←a7,Int.add_right_comm b (k:Int) 1];refine congrArg some (tS turn _ D _ (λx hx=>?_) e2);rcases List.mem_append.mp hx with hx|hx
 ·exact jl (hAb x hx) (aQ (Int.le_add_one (bD b)) (Int.le_add_of_nonneg_right (aP k)))
 ·obtain⟨i,hi,rfl⟩:=List.mem_map.mp hx
  exact Int.add_lt_add_left (Int.ofNat_lt.mpr (List.mem_range.mp hi)) _
theorem Xx(h:j+d+1=a)(g:r+d<=s)(q:s<b-1-k):r-j<b-(a+k:Nat):=by lia
theorem Xw(h:a+d=j)(g:b-k+d<=r):¬r-j<b-(a+k:Nat):=by lia
theorem abg(h:i<k):b-k<=b-1-i/\b-1-i<b:=by lia
theorem Q9:M-(c+1+i)=M-c-1-i:=by lia
theorem Rg:M-(c+1+k)=M-c-1-k:=by lia
theorem Rf(h:c+1+k<y):M-y<M-c-1-k:=by lia
theorem Xv(h:b-k<=r):b-1-k<r:=by lia
theorem Ra(h:b<y):b-1-k<y:=by lia
theorem Q_{x: Int}(h:x<b-1-k):x<b:=by lia
theorem abh:b-k-1=b-1-k:=by lia
theorem Rc:b-1-(k:Nat)=b-(k+1:Nat):=by lia
theorem BF{M: Int}(ht:¬turn>0){P Q: List Int}(h:vK (P++c::Q)):
  hJ (P++c::Q).length turn (((P++c::Q).map λx=>M-x).reverse) (M-c)=some (((P++push c Q).map λx=>M-x).reverse):=by
 obtain⟨hP,hcQ,hPQ⟩:=List.pairwise_append.mp h;have hPc:∀x∈P,x<c:=λx hx=>hPQ x hx c (.head _);obtain⟨k,D,e1,e2,e3⟩:=pT Q c hcQ;have s_:((az k).map (λ(i:Nat)=>c+1+(i:Int))).map (λx=>M-x)=(az k).map (λ(i:Nat)=>(M-c)-1-(i:Int)):=by
  rw[bq];exact dN λi zz=>Q9
 have Cz:vK (((P++c::Q).map λx=>M-x).reverse):=by
  show List.Pairwise _ _;rw[List.pairwise_reverse,List.pairwise_map];exact h.imp λ{x y} Kd=>Int.sub_lt_sub_left Kd M
 have zy:∀x∈(D.map λx=>M-x).reverse,x<M-c-1-k:=λx hx=>by
  obtain⟨y,hy,rfl⟩:=List.mem_map.mp (List.mem_reverse.mp hx);exact Rf (e2 y hy)
 have Hb:∀x∈(P.map λx=>M-x).reverse,M-c<x:=λx hx=>by
  obtain⟨y,hy,rfl⟩:=List.mem_map.mp (List.mem_reverse.mp hx);exact Int.sub_lt_sub_left (hPc y hy) M
 have Ha:∀x∈((az k).map (λ(i:Nat)=>(M-c)-1-(i:Int))).reverse,M-c-k<=x/\x<M-c:=λx hx=>by
  obtain⟨i,hi,rfl⟩:=List.mem_map.mp (List.mem_reverse.mp hx);exact abg (List.mem_range.mp hi)
 have hR1:((az k).map (λ(i:Nat)=>(M-c)-1-(i:Int))).reverse.getD 0 (M-c)=M-c-k:=by
  cases k with
  |zero=>exact(Int.sub_zero _).symm
  |succ k=>rw[dm,aY,iD];exact Rc
 have CJ:((P++c::Q).map λx=>M-x).reverse=((D.map λx=>M-x).reverse++((az k).map (λ(i:Nat)=>(M-c)-1-(i:Int))).reverse)++(M-c)::(P.map λx=>M-x).reverse:=by
  rw[e1,aY,ba,aY,s_,iD,gU,iD,a7,List.singleton_append]
 have We:((P++push c Q).map λx=>M-x).reverse=(D.map λx=>M-x).reverse++(M-c-1-k)::(((az k).map (λ(i:Nat)=>(M-c)-1-(i:Int))).reverse++(P.map λx=>M-x).reverse):=by
  rw[e3,aY,aY,ba,s_,iD,iD,gU,Rg,a7,a7,List.singleton_append]
 have cx:(P++c::Q).length=(((P++c::Q).map λx=>M-x).reverse).length:=by rw[iE,aj]
 have hRl:(((az k).map (λ(i:Nat)=>(M-c)-1-(i:Int))).reverse).length=k:=by rw[iE,aj,bU]
 rw[We,cx];rw[CJ]at Cz ⊢;generalize (D.map λx=>M-x).reverse=A1 at *;generalize (P.map λx=>M-x).reverse=C1 at *;generalize ((az k).map (λ(i:Nat)=>(M-c)-1-(i:Int))).reverse=R1 at *;generalize M-c=b at *;clear e1 e2 e3 s_ We cx CJ hPQ hP hPc hcQ h;have hAR:∀x∈A1++R1,x<b:=λx hx=>(List.mem_append.mp hx).elim (λhx=>Q_ (zy x hx)) λhx=>(Ha x hx).2;have hn:(A1++R1).length=A1.length+k:=by rw[aC,hRl]
 have hrl:((A1++R1)++b::C1).length=A1.length+k+(C1.length+1):=by rw[aC,hn];rfl
 have la:A1.length<((A1++R1)++b::C1).length:=hrl▸bc (bj _ _) (Nat.lt_add_of_pos_right (Nat.succ_pos _));have V_:((A1++R1)++b::C1).getD A1.length 0=b-k:=by
  rw[a7,j4,if_neg (ew _),Nat.sub_self,←hR1];cases R1<;>rfl
 have td:e_ ((A1++R1)++b::C1) b=(A1.length+k:Nat):=by rw[←hn];exact qC _ _ _ hAR Hb
 have zr:hU ((A1++R1)++b::C1).length turn ((A1++R1)++b::C1) (b-(A1.length+k:Nat))=A1.length:=by
  unfold hU;rw[if_neg ht,gO];rw[vB _ A1.length _ (bY la) (λj h1=>?_) (λj h1 h2=>?_)]
  ·show(!decide (keyOf _ ((bh _).getD j 0)<b-_))=false
   rw[nP _ (iA h1 la)];obtain⟨d,hd⟩:=Nat.le.dest (Nat.succ_le_of_lt h1);have hd:j+d+1=A1.length:=(bG j d 1).trans hd;have g:=pI Cz j d (iA (hd▸bg _) la);have g2:((A1++R1)++b::C1).getD (j+d) 0<b-1-k:=by
    rw[a7,j4,if_pos (hd▸bg _)];exact zy _ (getD_mem' (hd▸bg _))
   exact(congrArg not (decide_eq_true (Xx hd g g2)))
  ·show(!decide (keyOf _ ((bh _).getD j 0)<b-_))=true
   rw[nP _ h2];obtain⟨d,hd⟩:=Nat.le.dest h1;have g:=pI Cz A1.length d (hd▸h2);rw[hd,V_]at g;exact(congrArg not (decide_eq_false (Xw hd g)))
 unfold hJ;rw[td,zr,if_pos ⟨rfl,aP _,Int.ofNat_lt.mpr la⟩,if_neg ht];rw[show(A1.length:Int).toNat=A1.length from rfl,V_];rw[show((A1.length+k:Nat):Int).toNat=(A1++R1).length from hn.symm,show(((A1.length+k:Nat):Int)+1).toNat=(A1++R1).length+1 from congrArg (·+1) hn.symm];rw[List.take_left,show((A1++R1)++b::C1).drop ((A1++R1).length+1)=C1 by rw[←ib,List.drop_left];rfl];rw[a7,abh];refine congrArg some (tS turn A1 _ _ zy λy hy=>?_);exact(List.mem_append.mp hy).elim (λhy=>Xv (Ha y hy).1) λhy=>Ra (Hb y hy)
end Mine.P
end
section
namespace Mine.P
variable{turn:Int}
noncomputable def Hv:Nat->Int->List Int
 |0,_=>[]
 |c+1,pos=>pos::Hv c (pos+1)
noncomputable def stepT(x:Int)(t:Bool)(f:Nat->List Int):Nat->Int->List Int
 |0,_=>if t=true then f 1 else x::f 0
 |c+1,pos=>if pos<x then pos::stepT x t f c (pos+1)else if t=true then f (c+2)else x::f (c+1)
noncomputable def L8:List (Int×Bool)->Nat->Int->List Int
 |[]=>Hv
 |p::L=>stepT p.1 p.2 λc=>L8 L c (p.1+1)
noncomputable def fT(c:Nat)(pos:Int)(L:List (Int×Bool)):List Int:=L8 L c pos
theorem KL(pos:Int):fT 0 pos []=[]:=rfl
theorem aaW(c:Nat)(pos:Int):fT (c+1) pos []=pos::fT c (pos+1) []:=rfl
theorem L_(pos x:Int)(t:Bool)(L):fT 0 pos ((x,t)::L)=if t=true then fT 1 (x+1) L else x::fT 0 (x+1) L:=rfl
theorem RZ(c:Nat)(pos x:Int)(t:Bool)(L):fT (c+1) pos ((x,t)::L)=if pos<x then pos::fT c (pos+1) ((x,t)::L)else if t=true then fT (c+2) (x+1) L else x::fT (c+1) (x+1) L:=rfl
noncomputable def lj(b:Int):List (Int×Bool)->List (Int×Bool)
 |[]=>[(b+1,false)]
 |(c,t)::r=>if c=b+1 then(c,t)::lj c r else(b+1,false)::(c,t)::r
noncomputable def iN:List (Int×Bool)->List Int
 |[]=>[]
 |(x,true)::r=>x::iN r
 |(_,false)::r=>iN r
theorem pP:∀(L:List (Int×Bool)) (b:Int),(lj b L).map (·.1)=push b (L.map (·.1))
 |[],b=>rfl
 |(c,t)::r,b=>by
  unfold lj push;simp only[ba]
  split
  ·simp only[ba,pP r c]
  ·rfl
theorem nh:∀(L:List (Int×Bool)) (b:Int),iN (lj b L)=iN L
 |[],b=>rfl
 |(c,t)::r,b=>by
  unfold lj
  split
  ·cases t
   ·exact nh r c
   ·simp only[iN,nh r c]
  ·rfl
theorem pN:∀(P Q:List (Int×Bool)),iN (P++Q)=iN P++iN Q
 |[],Q=>rfl
 |(x,true)::P,Q=>by simp only[fo,iN,pN P Q]
 |(x,false)::P,Q=>by simp only[fo,iN,pN P Q]
theorem HJ(p q:Int):∀L:List (Int×Bool),fT 0 p L=fT 0 q L
 |[]=>by rw[KL,KL]
 |(x,t)::L=>by rw[L_,L_]
theorem nV(p:Int):∀(P L:List (Int×Bool)),iN P=[]->fT 0 p (P++L)=P.map (·.1)++fT 0 p L
 |[],L,_=>rfl
 |(x,true)::P,L,h=>by simp[iN]at h
 |(x,false)::P,L,h=>by
  rw[fo,L_,if_neg (by simp),HJ (x+1) p,nV p P L h];rfl
theorem HK:∀(Q:List (Int×Bool)) (b:Int) (c:Nat),vK (b::Q.map (·.1))->fT (c+1) (b+1) Q=fT c (b+1) (lj b Q)
 |[],b,c,_=>by
  rw[aaW];unfold lj;cases c with
  |zero=>rw[L_,if_neg (by simp),KL]
  |succ c=>rw[RZ,if_neg (by lia),if_neg (by simp)]
 |(x,t)::r,b,c,h=>by
  have h1:=List.pairwise_cons.mp h;have hbx:b<x:=h1.1 x (.head _);have ih:=λc=>HK r x c h1.2;unfold lj;by_cases e:x=b+1
  ·rw[if_pos e]
   have L1:fT (c+1) (b+1) ((x,t)::r)=if t=true then fT (c+2) (x+1) r else x::fT (c+1) (x+1) r:=by rw[RZ,if_neg (by lia)]
   have R1:fT c (b+1) ((x,t)::lj x r)=if t=true then fT (c+1) (x+1) (lj x r)else x::fT c (x+1) (lj x r):=by
    cases c with
    |zero=>rw[L_]
    |succ c=>rw[RZ,if_neg (by lia)]
   rw[L1,R1];cases t
   ·rw[if_neg (by simp),if_neg (by simp),ih c]
   ·rw[if_pos rfl,if_pos rfl,ih (c+1)]
  ·rw[if_neg e]
   have L1:fT (c+1) (b+1) ((x,t)::r)=(b+1)::fT c (b+1+1) ((x,t)::r):=by rw[RZ,if_pos (by lia)]
   rw[L1];cases c with
   |zero=>rw[L_ (x:=b+1),if_neg (by simp)]
   |succ c=>rw[RZ (x:=b+1),if_neg (by lia),if_neg (by simp)]
theorem qy:∀(L:List (Int×Bool)) (b:Int) (bs:List Int),iN L=b::bs->∃P Q,L=P++(b,true)::Q/\iN P=[]/\iN Q=bs
 |[],b,bs,h=>by simp[iN]at h
 |(x,true)::L,b,bs,h=>by
  simp only[iN,List.cons.injEq]at h;obtain⟨rfl,rfl⟩:=h;exact qw [] L ⟨rfl,rfl,rfl⟩
 |(x,false)::L,b,bs,h=>by
  refine fu (qy L b bs h) λP Q Dy h1 h2=>?_;obtain rfl:=Dy;exact qw ((x,false)::P) Q ⟨rfl,h1,h2⟩
theorem uC{A C: List Int}{b: Int}(h:vK (A++b::C)):vK (A++push b C):=by
 obtain⟨hA,X9,hAC⟩:=List.pairwise_append.mp h;have h2:=List.pairwise_cons.mp (wk C b X9);refine List.pairwise_append.mpr ⟨hA,h2.2,λa ha x hx=>?_⟩;exact fj (hAC a ha b (.head _)) (h2.1 x hx)
theorem tY{n: Nat}(f:List Int->List Int)(step:List Int->Int->Option (List Int))(g:Int->Int)
  (hs:∀A b C,vK (A++b::C)->(A++b::C).length=n->step (f (A++b::C)) (g b)=some (f (A++push b C))):
  ∀(bs:List Int) (L:List (Int×Bool)),iN L=bs->vK (L.map (·.1))->L.length=n->(bs.map g).foldlM step (f (L.map (·.1)))=some (f (fT 0 0 L)):=by
 intro bs
 induction bs with
 |nil =>
  intro L h _ _;have:=nV 0 L [] h;rw[bV,KL,bV]at this;rw[this];rfl
 |cons b bs ih =>
  intro L h ha hn;refine fu (qy L b bs h) λP Q MX h1 h2=>?_;obtain rfl:=MX;rw[aY,ba]at ha ⊢;have Qe:(P.map (·.1)++b::Q.map (·.1)).length=n:=by rw[←hn];simp
  rw[ba,List.foldlM_cons,hs _ _ _ ha Qe];show(bs.map g).foldlM step (f (P.map (·.1)++push b (Q.map (·.1))))=_;have e:P.map (·.1)++push b (Q.map (·.1))=(P++lj b Q).map (·.1):=by rw[aY,pP]
  have Cz:=uC ha;rw[e]at Cz ⊢;have hl:(P++lj b Q).length=n:=by
   have:=congrArg List.length (pP Q b);rw[wj]at this;simp only[aj]at this;rw[←hn];simp[this]
  rw[ih (P++lj b Q) (by rw[pN,h1,nh,h2];rfl) Cz hl]
  congr 2
  rw[nV 0 P _ h1,nV 0 P _ h1,L_,if_pos rfl,HJ 0 (b+1),HK Q b 0 (List.pairwise_append.mp ha).2.1]
theorem pO:∀l:List Int,iN (l.map λx=>(x,true))=l
 |[]=>rfl
 |x::l=>by simp only[ba,iN,pO l]
theorem q_(l:List Int):(l.map λx=>(x,true)).map (·.1)=l:=by rw[bq];exact List.map_id' l
theorem wZ(ht:turn>0){row: List Int}(h:vK row):iJ turn row=some (fT 0 0 (row.map λx=>(x,true))):=by
 unfold iJ;rw[if_pos ht];have:=tY (n:=row.length) id (hJ row.length turn) id (λA b C ha hn=>by have:=yI ht ha;rw[hn]at this;exact this) row (row.map λx=>(x,true)) (pO row) (by rw[q_];exact h) (by simp);rw[q_,List.map_id]at this;exact this
theorem yW{M: Int}(ht:¬turn>0){l: List Int}(h:vK l):iJ turn ((l.map λx=>M-x).reverse)=some (((fT 0 0 (l.map λx=>(x,true))).map λx=>M-x).reverse):=by
 unfold iJ;rw[if_neg ht,List.reverse_reverse];have:=tY (n:=l.length) (λr=>(r.map λx=>M-x).reverse) (hJ l.length turn) (λx=>M-x) (λA b C ha hn=>by have:=BF (M:=M) ht ha;rw[hn]at this;exact this) l (l.map λx=>(x,true)) (pO l) (by rw[q_];exact h) (by simp);rw[q_]at this;rw[iE,aj];exact this
end Mine.P
end
section
namespace Mine.P
variable{N p:Nat}{l:List Nat}
noncomputable def cY(room:Nat)(f:Nat):Nat->Nat->List Nat->List Nat:=
 Nat.rec (λzz zz zz=>[]) (λzz ih c pos row=>List.rec (Nat.rec [] (λc' zz=>pos::ih c' (cQ pos) []) c)
  (λb r zz=>Nat.rec (bif a9 0 room then ih 1 (cQ b) r else b::ih 0 (cQ b) r)
   (λc' zz=>bif a9 pos b then pos::ih c' (cQ pos) (b::r)else bif a9 (cQ c') room then ih (cQ (cQ c')) (cQ b) r else b::ih (cQ c') (cQ b) r) c) row) f
noncomputable def nS(room:Nat)(f:Nat):Nat->Nat->List Nat->Nat:=
 Nat.rec (λc zz zz=>c) (λzz ih c pos row=>List.rec c
  (λb r zz=>Nat.rec (bif a9 0 room then ih 1 (cQ b) r else ih 0 (cQ b) r)
   (λc' zz=>bif a9 pos b then Nat.max (cQ c') (ih c' (cQ pos) (b::r))else bif a9 (cQ c') room then ih (cQ (cQ c')) (cQ b) r else ih (cQ c') (cQ b) r) c) row) f
section
variable(room f c pos b:Nat)(r:List Nat)
theorem HL:cY room (f+1) 0 pos (b::r)=if 0<room then cY room f 1 (b+1) r else b::cY room f 0 (b+1) r:=by
 show(bif a9 0 room then cY room f 1 (b+1) r else b::cY room f 0 (b+1) r)=_;by_cases h:0<room
 ·rw[if_pos h,show a9 0 room=true from Nat.blt_eq.mpr h];rfl
 ·rw[if_neg h,show a9 0 room=false from by rw[gX];exact λe=>h (Nat.blt_eq.mp e)];rfl
theorem CT:cY room (f+1) (c+1) pos (b::r)=if pos<b then pos::cY room f c (pos+1) (b::r)else if c+1<room then cY room f (c+2) (b+1) r else b::cY room f (c+1) (b+1) r:=by
 show(bif a9 pos b then pos::cY room f c (pos+1) (b::r)else bif a9 (c+1) room then cY room f (c+2) (b+1) r else b::cY room f (c+1) (b+1) r)=_;by_cases h:pos<b
 ·rw[if_pos h,show a9 pos b=true from Nat.blt_eq.mpr h];rfl
 ·rw[if_neg h,show a9 pos b=false from by rw[gX];exact λe=>h (Nat.blt_eq.mp e)]
  by_cases h2:c+1<room
  ·rw[if_pos h2,show a9 (c+1) room=true from Nat.blt_eq.mpr h2];rfl
  ·rw[if_neg h2,show a9 (c+1) room=false from by rw[gX];exact λe=>h2 (Nat.blt_eq.mp e)];rfl
theorem ZM:nS room (f+1) 0 pos (b::r)=if 0<room then nS room f 1 (b+1) r else nS room f 0 (b+1) r:=by
 show(bif a9 0 room then nS room f 1 (b+1) r else nS room f 0 (b+1) r)=_;by_cases h:0<room
 ·rw[if_pos h,show a9 0 room=true from Nat.blt_eq.mpr h];rfl
 ·rw[if_neg h,show a9 0 room=false from by rw[gX];exact λe=>h (Nat.blt_eq.mp e)];rfl
theorem PT:nS room (f+1) (c+1) pos (b::r)=if pos<b then max (c+1) (nS room f c (pos+1) (b::r))else if c+1<room then nS room f (c+2) (b+1) r else nS room f (c+1) (b+1) r:=by
 show(bif a9 pos b then max (c+1) (nS room f c (pos+1) (b::r))else bif a9 (c+1) room then nS room f (c+2) (b+1) r else nS room f (c+1) (b+1) r)=_;by_cases h:pos<b
 ·rw[if_pos h,show a9 pos b=true from Nat.blt_eq.mpr h];rfl
 ·rw[if_neg h,show a9 pos b=false from by rw[gX];exact λe=>h (Nat.blt_eq.mp e)]
  by_cases h2:c+1<room
  ·rw[if_pos h2,show a9 (c+1) room=true from Nat.blt_eq.mpr h2];rfl
  ·rw[if_neg h2,show a9 (c+1) room=false from by rw[gX];exact λe=>h2 (Nat.blt_eq.mp e)];rfl
end
noncomputable abbrev up(l:List Nat):List Int:=l.map λ(x:Nat)=>(x:Int)
theorem HG:∀(f c pos:Nat)(row:List Nat),c+2*row.length<=f->c+row.length<=10->fT c pos ((up row).map λx=>(x,true))=up (cY 10 f c pos row):=by
 intro f
 induction f with
 |zero =>
  intro c pos row hf _;cases row with
  |nil=>cases Nat.le_zero.mp hf;rfl
  |cons b r=>exact absurd hf (il _)
 |succ f ih =>
  intro c pos row hf h2;cases row with
  |nil =>
   cases c with
   |zero=>rfl
   |succ c=>exact congrArg (List.cons _) (ih c (pos+1) [] (gF hf) (cw h2))
  |cons b r =>
   have hf:=gF hf;cases c with
   |zero =>
    rw[HL,if_pos (by decide)];exact(L_ ..).trans ((if_pos rfl).trans (ih 1 (b+1) r (ak (bK (bG 0 1 _)) hf) (ak (bK (bG 0 1 _)) h2)))
   |succ c =>
    have e1:=bG (c+1) 1 (2*r.length);rw[CT];refine(RZ ..).trans ?_;by_cases hp:pos<b
    ·rw[if_pos hp,if_pos (Int.ofNat_lt.mpr hp)]
     exact congrArg (List.cons _) (ih c (pos+1) (b::r) (ak (bK (congrArg cQ (bG c 1 (2*r.length)).symm)) hf) (ak (Nat.add_le_add_right (ip c) _) h2))
    ·have h3:c+2+r.length<=10:=ak (bK (bG (c+1) 1 _)) h2
     rw[if_neg hp,if_neg (λh=>hp (Int.ofNat_lt.mp h)),if_pos rfl,if_pos (show c+1<10 from ak (bj _ _) h3)];exact ih (c+2) (b+1) r (ak (bK e1) hf) h3
theorem Ii{α:Type}{c: Prop}[Decidable c]{x y:α}(P:α->Prop)(h1:c->P x)(h2:¬c->P y):P (if c then x else y):=by
 by_cases h:c
 ·rw[if_pos h];exact h1 h
 ·rw[if_neg h];exact h2 h
theorem xR(room p q:Nat)(f:Nat)(r:List Nat):cY room f 0 p r=cY room f 0 q r:=by cases f<;>cases r<;>rfl
theorem JP(room p q:Nat)(f:Nat)(r:List Nat):nS room f 0 p r=nS room f 0 q r:=by cases f<;>cases r<;>rfl
theorem PO(room:Nat):∀(f c pos:Nat)(r:List Nat),c<=nS room f c pos r:=by
 intro f
 induction f with
 |zero=>exact λzz zz zz=>aG _
 |succ f ih =>
  intro c pos r;cases r with
  |nil=>exact aG _
  |cons b r =>
   cases c with
   |zero=>exact aW _
   |succ c =>
    rw[PT];exact Ii (c+1<=·) (λzz=>Nat.le_max_left _ _) λzz=>Ii (c+1<=·) (λzz=>cw (ih (c+2) (b+1) r)) λzz=>ih (c+1) (b+1) r
theorem A6(row:List Int)(room:Int)(n:Nat):au row room (n+1)=bR row room (au row room n) (n:Int):=by
 unfold au;rw[dm,gV];simp
theorem vD(row:List Nat)(i:Nat):(up row).any (·==(i:Int))=decide (i∈row):=by
 rw[List.any_map,Bool.eq_iff_iff];simp only[List.any_eq_true,decide_eq_true_eq,Function.comp]
 constructor
 ·intro SQ
  refine aH (SQ) λx hx e=>?_;have:x=i:=by have:=beq_iff_eq.mp e;lia
  exact this▸hx
 ·intro h;exact⟨i,h,by simp⟩
def As(p:Nat)(l:List Nat):Prop:=(∀x∈l,p<=x)/\l.Pairwise (· < ·)
theorem As.nil(p:Nat):As p []:=⟨λzz h=>absurd h List.not_mem_nil,.nil⟩
theorem As.cons{b: Nat}(h:p<=b)(a:As (b+1) l):As p (b::l):=
 ⟨List.forall_mem_cons.mpr ⟨h,λx hx=>ak h (cw (a.1 x hx))⟩,.cons a.1 a.2⟩
theorem As.mono{q: Nat}(h:p<=q)(a:As q l):As p l:=⟨λx hx=>ak h (a.1 x hx),a.2⟩
theorem As.hd{b: Nat}(a:As p (b::l)):p<=b:=a.1 b (.head _)
theorem As.tl{b: Nat}(a:As p (b::l)):As (b+1) l:=
 have h:=List.pairwise_cons.mp a.2
 ⟨h.1,h.2⟩
theorem As.is{b: Nat}(a:As p (b::l))(h:p∈b::l):b=p:=by
 cases h with
 |head=>rfl
 |tail _ h=>exact absurd (a.tl.1 p h) (Nat.not_lt.mpr a.hd)
theorem As.up(a:As p l)(h:p ∉ l):As (p+1) l:=
 ⟨λx hx=>Nat.lt_of_le_of_ne (a.1 x hx) λe=>h (e▸hx),a.2⟩
section
variable{room f c i:Nat}{r:List Nat}
theorem vw:cY room (f+1) c i (i::r)=if c<room then cY room f (c+1) (i+1) r else i::cY room f c (i+1) r:=by
 cases c with
 |zero=>exact HL ..
 |succ c=>exact(CT ..).trans (if_neg (ew _))
theorem AQ:nS room (f+1) c i (i::r)=if c<room then nS room f (c+1) (i+1) r else nS room f c (i+1) r:=by
 cases c with
 |zero=>exact ZM ..
 |succ c=>exact(PT ..).trans (if_neg (ew _))
theorem Bk(a:As (i+1) r):cY room (f+1) (c+1) i r=i::cY room f c (i+1) r:=by
 cases r with
 |nil=>rfl
 |cons b r=>exact(CT ..).trans (if_pos a.hd)
theorem JW(a:As (i+1) r):nS room (f+1) (c+1) i r=max (c+1) (nS room f c (i+1) r):=by
 cases r with
 |nil=>cases f<;>exact(Nat.max_eq_left (ip c)).symm
 |cons b r=>exact(PT ..).trans (if_pos a.hd)
def Fi(room f c i:Nat)(r:List Nat)(S F:qv):Prop:=F.laid=S.laid++up (cY room f c i r)/\F.stack=[]/\F.mx=max S.mx (nS room f c i r)
variable{S S' F:qv}
theorem Fi.take1(h:Fi room f (c+1) (i+1) r S' F)(hr:c<room)(h1:S'.laid=S.laid)(h2:S'.mx=max S.mx (c+1)):Fi room (f+1) c i (i::r) S F:=by
 unfold Fi;rw[vw,AQ,if_pos hr,if_pos hr,←h1];refine⟨h.1,h.2.1,?_⟩;rw[h.2.2,h2,Nat.max_assoc,Nat.max_eq_right (PO ..)]
theorem Ac(l:List Int)(x:Nat)(k:List Nat):l++up (x::k)=(l++[(x:Int)])++up k:=(a7 l [(x:Int)] (up k)).symm
theorem Fi.take2(h:Fi room f c (i+1) r S' F)(hr:¬c<room)(h1:S'.laid=S.laid++[(i:Int)])(h2:S'.mx=S.mx):Fi room (f+1) c i (i::r) S F:=by
 unfold Fi;rw[vw,AQ,if_neg hr,if_neg hr,Ac,←h1,←h2];exact h
theorem Fi.pass(a:As (i+1) r)(hm:c+1<=S.mx)(h:Fi room f c (i+1) r S' F)(h1:S'.laid=S.laid++[(i:Int)])(h2:S'.mx=S.mx):Fi room (f+1) (c+1) i r S F:=by
 unfold Fi;rw[Bk a,JW a,Ac,←h1,←Nat.max_assoc,Nat.max_eq_left hm,←h2];exact h
theorem Fi.idle(h:Fi room f 0 (i+1) r S F):Fi room f 0 i r S F:=by
 unfold Fi;rw[xR room i (i+1),JP room i (i+1)];exact h
theorem Fi.none(hs:S.stack=[]):Fi room f 0 i [] S S:=by
 cases f<;>exact⟨(bV _).symm,hs,(Nat.max_eq_left (aW _)).symm⟩
variable{row:List Nat}(hc:S.stack.length=c)
include hc
theorem cs1(hb:i∈row)(hr:c<room):(bR (up row) room S i).laid=S.laid/\(bR (up row) room S i).stack.length=c+1/\(bR (up row) room S i).mx=max S.mx (c+1):=by
 unfold bR;rw[vD,if_pos (decide_eq_true hb),if_pos (Int.ofNat_lt.mpr (hc▸hr)),hc];exact⟨rfl,by rw[aC,hc];rfl,rfl⟩
theorem cs2(hb:i∈row)(hr:¬c<room):(bR (up row) room S i).laid=S.laid++[(i:Int)]/\(bR (up row) room S i).stack.length=c/\(bR (up row) room S i).mx=S.mx:=by
 unfold bR;rw[vD,if_pos (decide_eq_true hb),if_neg (λh=>hr (hc▸Int.ofNat_lt.mp h))];exact⟨rfl,hc,rfl⟩
omit hc in
theorem cs3(hb:i ∉ row)(hs:S.stack=[]):bR (up row) room S i=S:=by
 unfold bR;rw[vD,if_neg (λh=>hb (of_decide_eq_true h)),hs];rfl
omit hc in
theorem cs4(hc:S.stack.length=c+1)(hb:i ∉ row):(bR (up row) room S i).laid=S.laid++[(i:Int)]/\(bR (up row) room S i).stack.length=c/\(bR (up row) room S i).mx=S.mx:=by
 unfold bR;rw[vD,if_neg (λh=>hb (of_decide_eq_true h))];cases e:S.stack.getLast? with
 |none=>rw[List.getLast?_eq_none_iff.mp e]at hc;cases hc
 |some t=>exact⟨rfl,by rw[List.length_dropLast,hc];rfl,rfl⟩
end
theorem zR{room: Nat}{row: List Nat}{F: qv}(hF:au (up row) room N=F)(g_:∀x∈row,x<N)(d:Nat):∀(i f c:Nat)(bM:List Nat)(S:qv),au (up row) room i=S->S.stack.length=c->i+d=N->As i bM->(∀x,i<=x->(x∈row ↔ x∈bM)) ->
  c+2*bM.length<=f->c<=S.mx->(∀x∈cY room f c i bM,x<N)->Fi room f c i bM S F:=by
 induction d with
 |zero =>
  intro i f c bM S e hc hi a m hf hm ho;cases(hi:i=N);cases bM with
  |cons b r=>exact absurd (g_ b ((m b a.hd).mpr (.head _))) (Nat.not_lt.mpr a.hd)
  |nil =>
   cases c with
   |succ c =>
    cases f with
    |zero=>exact absurd hf (il _)
    |succ f=>exact absurd (ho i (.head _)) (ew _)
   |zero=>exact(e.symm.trans hF)▸Fi.none (List.length_eq_zero_iff.mp hc)
 |succ d ih =>
  intro i f c bM S e hc hi a m hf hm ho;have st:au (up row) room (i+1)=bR (up row) room S i:=e▸A6 ..;have hi:i+1+d=N:=(bG i 1 d).trans hi;by_cases hb:i∈row
  ·have h1:=(m i (aG _)).mp hb
   cases bM with
   |nil=>cases h1
   |cons b r =>
    cases a.is h1;have m':∀x,i+1<=x->(x∈row ↔ x∈r):=λx hx=>(m x (cw hx)).trans ⟨λh=>(List.mem_cons.mp h).resolve_left (λe=>ew i (e▸hx)),.tail _⟩;cases f with
    |zero=>exact absurd hf (il _)
    |succ f =>
     have hf:=gF hf;rw[vw]at ho;by_cases hr:c<room
     ·rw[if_pos hr]at ho
      have s:=cs1 hc hb hr;exact(ih (i+1) f (c+1) r _ st s.2.1 hi a.tl m' (ak (bK (bG c 1 _)) hf) (s.2.2▸Nat.le_max_right _ _) ho).take1 hr s.1 s.2.2
     ·rw[if_neg hr]at ho
      have s:=cs2 hc hb hr;exact(ih (i+1) f c r _ st s.2.1 hi a.tl m' (cw hf) (s.2.2▸hm) λx hx=>ho x (.tail _ hx)).take2 hr s.1 s.2.2
  ·have a':=a.up λh=>hb ((m i (aG _)).mpr h)
   have m':∀x,i+1<=x->(x∈row ↔ x∈bM):=λx hx=>m x (cw hx);cases c with
   |zero =>
    have hs:=List.length_eq_zero_iff.mp hc;rw[xR room i (i+1)]at ho;exact(ih (i+1) f 0 bM S (st.trans (cs3 hb hs)) hc hi a' m' hf hm ho).idle
   |succ c =>
    cases f with
    |zero=>exact absurd (ak (bj _ _) hf) (il _)
    |succ f =>
     rw[Bk a']at ho;have s:=cs4 (room:=room) hc hb;exact(ih (i+1) f c bM _ st s.2.1 hi a' m' (gF (ak (bK (bG c _ 1)) hf)) (s.2.2▸cw hm) λx hx=>ho x (.tail _ hx)).pass a' hm s.1 s.2.2
theorem nG{room f: Nat}{row: List Nat}(ha:row.Pairwise (· < ·))(g_:∀x∈row,x<N)(hf:2*row.length<=f)(ho:∀x∈cY room f 0 0 row,x<N):
  (au (up row) room N).laid=up (cY room f 0 0 row)/\(au (up row) room N).stack=[]/\(au (up row) room N).mx=nS room f 0 0 row:=by
 have h:=zR (room:=room) rfl g_ N 0 f 0 row ⟨[],0,[],[]⟩ rfl rfl (fh _) ⟨λx zz=>aW x,ha⟩ (λx zz=>Iff.rfl) ((fh _).symm▸hf) (aG _) ho;exact⟨h.1,h.2.1,h.2.2.trans (Nat.max_eq_right (aW _))⟩
end Mine.P
end
section
namespace Mine.P
variable{row:List Int}{room:Int}
structure zW(row:List Int)(S:qv)(n:Int)(done bM:List Int):Prop where
 split:row=done++bM
 low:∀x∈done,x<n
 high:∀x∈bM,n<=x
 perm:(S.bP.map (·.1)++S.stack).Perm done
 Je:S.stack.Pairwise (· < ·)
 sin:∀x∈S.stack,0<=x/\x<n
 Nk:∀p∈S.bP,0<=p.1/\p.1<p.2/\p.2<n
 apart:∀p∈S.bP,∀s∈S.stack,s<p.1∨p.2<s
 su:∀p∈S.bP,∀q∈S.bP,¬(p.1<q.1/\q.1<p.2/\p.2<q.2)
theorem Bw{S: qv}{i: Nat}{done bM: List Int}(ha:vK row)(h0:∀x∈row,0<=x)(ph:(row.length:Int)<=room)(W:zW row S i done bM):
  ∃Wi qB,zW row (bR row room S i) ((i+1:Nat):Int) Wi qB:=by
 have aaA:row.any (·==(i:Int))=decide ((i:Int)∈row):=by
  rw[Bool.eq_iff_iff];simp
 have hap:=List.pairwise_append.mp (W.split▸ha);unfold bR;rw[aaA];by_cases hb:(i:Int)∈row
 ·rw[decide_eq_true hb,if_pos rfl]
  obtain⟨r,rfl⟩:∃r,bM=(i:Int)::r:=by
   rw[W.split]at hb;rcases List.mem_append.mp hb with h|h
   ·have:=W.low _ h;lia
   ·cases bM with
    |nil=>cases h
    |cons b r =>
     have h2:=W.high b (.head _);rcases List.mem_cons.mp h with h|h
     ·exact⟨r,by rw[h]⟩
     ·have:=(List.pairwise_cons.mp hap.2.1).1 _ h;lia
  have cx:S.stack.length+1<=row.length:=by
   have h1:=W.perm.length_eq;have h2:=congrArg List.length W.split;simp only[aC,cq,aj]at h1 h2;lia
  rw[if_pos (by lia)];refine⟨done++[(i:Int)],r,?_,?_,?_,?_,?_,?_,?_,?_,?_⟩
  ·rw[W.split];simp
  ·intro x hx
   rcases List.mem_append.mp hx with hx|hx
   ·have:=W.low x hx;push_cast;lia
   ·obtain rfl:=List.mem_singleton.mp hx;push_cast;lia
  ·intro x hx
   have:=(List.pairwise_cons.mp hap.2.1).1 x hx
   push_cast;lia
  ·show(S.bP.map (·.1)++(S.stack++[(i:Int)])).Perm _
   rw[←a7];exact W.perm.append_right _
  ·show(S.stack++[(i:Int)]).Pairwise _
   refine List.pairwise_append.mpr ⟨W.Je,by simp,λx hx y hy=>?_⟩;obtain rfl:=List.mem_singleton.mp hy;exact(W.sin x hx).2
  ·intro x hx
   rcases List.mem_append.mp hx with hx|hx
   ·have:=W.sin x hx;push_cast;lia
   ·obtain rfl:=List.mem_singleton.mp hx;push_cast;lia
  ·intro p hp;have:=W.Nk p hp;push_cast;lia
  ·intro p hp s hs
   rcases List.mem_append.mp hs with hs|hs
   ·exact W.apart p hp s hs
   ·obtain rfl:=List.mem_singleton.mp hs
    exact .inr (W.Nk p hp).2.2
  ·exact W.su
 ·rw[decide_eq_false hb,if_neg (by simp)]
  have LQ:∀x∈bM,((i+1:Nat):Int)<=x:=by
   intro x hx;have h1:=W.high x hx;have h2:x≠i:=λe=>hb (by rw[W.split];exact List.mem_append_right _ (e▸hx))
   push_cast;lia
  have Vq:∀x∈done,x<((i+1:Nat):Int):=λx hx=>by have:=W.low x hx;push_cast;lia
  cases hg:S.stack.getLast? with
  |none =>
   exact qw done bM ⟨W.split,Vq,LQ,W.perm,W.Je,λx hx=>by have:=W.sin x hx;push_cast;lia,λp hp=>by have:=W.Nk p hp;push_cast;lia,W.apart,W.su⟩
  |some c =>
   refine c_ λDd up1=>?_;obtain⟨ys,RM⟩:=List.getLast?_eq_some_iff.mp hg;refine up1 ?_;have hd:S.stack.dropLast=ys:=by rw[RM];simp
   have sd:∀x∈ys,x∈S.stack:=λx hx=>by rw[RM];exact List.mem_append_left _ hx
   have hc:c∈S.stack:=by rw[RM];simp
   have hyc:∀x∈ys,x<c:=λx hx=>(List.pairwise_append.mp (RM▸W.Je)).2.2 x hx c (.head _);dsimp only;rw[hd];refine qw done bM ⟨W.split,Vq,LQ,?_,?_,?_,?_,?_,?_⟩
   ·show((S.bP++[(c,(i:Int))]).map (·.1)++ys).Perm done
    refine List.Perm.trans ?_ W.perm;rw[RM,aY,a7];refine List.Perm.append_left _ ?_;exact List.perm_append_comm
   ·exact(List.pairwise_append.mp (RM▸W.Je)).1
   ·intro x hx;have:=W.sin x (sd x hx);push_cast;lia
   ·intro p hp
    rcases List.mem_append.mp hp with hp|hp
    ·have:=W.Nk p hp;push_cast;lia
    ·obtain rfl:=List.mem_singleton.mp hp
     have:=W.sin c hc;refine⟨this.1,this.2,?_⟩;show(i:Int)<((i+1:Nat):Int);lia
   ·intro p hp s hs
    rcases List.mem_append.mp hp with hp|hp
    ·exact W.apart p hp s (sd s hs)
    ·obtain rfl:=List.mem_singleton.mp hp
     exact .inl (hyc s hs)
   ·intro p hp q hq
    rcases List.mem_append.mp hp with hp|hp
    ·rcases List.mem_append.mp hq with hq|hq
     ·exact W.su p hp q hq
     ·obtain rfl:=List.mem_singleton.mp hq
      have:=W.apart p hp c hc;dsimp only;lia
    ·obtain rfl:=List.mem_singleton.mp hp
     rcases List.mem_append.mp hq with hq|hq
     ·have:=W.Nk q hq
      dsimp only;lia
     ·obtain rfl:=List.mem_singleton.mp hq
      dsimp only;lia
theorem mn(ha:vK row)(h0:∀x∈row,0<=x)(ph:(row.length:Int)<=room):∀n:Nat,∃done bM,zW row (au row room n) n done bM
 |0=>⟨[],row,by simp,by simp,λx hx=>by have:=h0 x hx;simpa using this,by simp[au],by simp[au],by simp[au],by simp[au],by simp[au],by simp[au]⟩
 |n+1=>by
  refine Du (mn ha h0 ph n) λdone bM W=>?_;rw[A6];exact Bw ha h0 ph W
theorem DP{n: Nat}(ha:vK row)(h0:∀x∈row,0<=x)(ph:(row.length:Int)<=room)(hn:∀x∈row,x<n)(hs:(au row room n).stack=[]):
  ((au row room n).bP.map (·.1)).Perm row/\(∀p∈(au row room n).bP,0<=p.1/\0<=p.2)/\∀p∈(au row room n).bP,∀q∈(au row room n).bP,¬(p.1<q.1/\q.1<p.2/\p.2<q.2):=by
 refine Du (mn ha h0 ph n) λdone bM W=>?_;have hr:bM=[]:=by
  cases bM with
  |nil=>rfl
  |cons b r =>
   have h1:=W.high b (.head _);have h2:=hn b (by rw[W.split];simp);lia
 have hp:=W.perm;rw[hs,bV]at hp;have e:=W.split;rw[hr,bV]at e;rw[←e]at hp;exact⟨hp,λp hp=>⟨(W.Nk p hp).1,by have:=W.Nk p hp;lia⟩,W.su⟩
end Mine.P
end
section
namespace Mine.P
variable{place:Nat}{l:List Nat}{kind:Int}
noncomputable def QB:List Nat:=[102,70,119813,119865,119917,120021,120177,120229,120281,120333,120385,120437]
noncomputable def xD(c:Nat):List Nat:=if c=64256 then [102,102]else if c=64257 then [102,105]else if c=64259 then [102,102,105]else if c∈QB then [102]else [105]
noncomputable def RE(c:Nat)(y:List Nat):Bool:=!oP c&&xD c==y&&((mh.lookup (c:Int)==some (tx y)) || ((mh.lookup (c:Int)==none)&&(Txt.lower (tx [c])==tx y)))
theorem ok1:((az 16).all λk=>[102,105].all λl=>RE (oA (k:Nat) l).toNat [l])=true:=by kernel_rfl
theorem ZA:RE 64256 [102,102]=true/\RE 64257 [102,105]=true/\RE 64259 [102,102,105]=true:=⟨by kernel_rfl,by kernel_rfl,by kernel_rfl⟩
theorem ok3:((az 27).all λj=>oP ((ng.getD j 0).toNat:Nat))=true:=by kernel_rfl
structure Yj(c:Nat)(y:List Nat):Prop where
 b1:oP (c:Nat)=false
 fold:xD c=y
 ok:qu c (tx y)
theorem uI{c: Nat}{y: List Nat}(hl:y.length<=10)(h:RE c y=true):Yj c y:=by
 unfold RE at h;simp only[aK,Bool.or_eq_true,jD,beq_iff_eq]at h;refine⟨h.1.1,h.1.2,?_⟩;rcases h.2 with h|h
 ·exact .inl h
 ·refine .inr ⟨h.1,h.2,?_⟩
  rw[dT];simp[jW,bC];lia
theorem B9{l: Nat}(h0:0<=kind)(h1:kind<16)(hl:l=102∨l=105):Yj (oA kind l).toNat [l]:=by
 refine uI (by simp) ?_;have h:=List.all_eq_true.mp ok1 kind.toNat (List.mem_range.mpr (by lia));have h2:=List.all_eq_true.mp h l (by simp;lia);rw[show((kind.toNat:Nat):Int)=kind by lia]at h2;exact h2
theorem yA{a b: List Nat}(h:tx a=tx b):a=b:=by
 have:=congrArg (λs:Str=>s.cps.toList) h;simpa using this
theorem IM{x: List Nat}{v: Int}(h:qx (tx x)=some v):Yj v.toNat x:=by
 have e1:Rr=tx [102,102]:=by kernel_rfl
 have e2:Rq=tx [102,105]:=by kernel_rfl
 have e3:Bx=tx [102,102,105]:=by kernel_rfl
 unfold qx at h;rw[e1,e2,e3]at h
 split at h
 ·rename_i e;cases h;rw[yA e];exact uI (by simp) ZA.1
 ·split at h
  ·rename_i e;cases h;rw[yA e];exact uI (by simp) ZA.2.1
  ·split at h
   ·rename_i e;cases h;rw[yA e];exact uI (by simp) ZA.2.2
   ·cases h
def zX(l:List Nat)(place:Nat)(cs:Int×Int):Prop:=Yj cs.1.toNat ((l.drop place).take cs.2.toNat)/\1<=cs.2.toNat
theorem AP{qS: Nat}{cs: Int×Int}(hm:1<=qS)(h:zX l place cs):zX l place (j1 kind l place qS cs):=by
 unfold j1
 split
 ·split
  ·rename_i v hv
   exact⟨by simpa using IM hv,by simpa using hm⟩
  ·exact h
 ·exact h
theorem Kz(dress pace:Int)(hp:place<l.length)(hl:∀c∈l,c=102∨c=105):zX l place (iQ dress pace l place):=by
 unfold iQ;refine AP (by decide) (AP (by decide) ⟨?_,by simp⟩);have hk:=xm dress pace place;have hg:l.getD place 0∈l:=by simp[hp]
 have:=B9 hk.1 hk.2 (hl _ hg);have e:(l.drop place).take ((1:Int).toNat)=[l.getD place 0]:=by
  rw[show(1:Int).toNat=1 from rfl];rw[List.take_one,List.head?_drop];simp[hp]
 dsimp only;rw[e];exact this
structure Good(l bM:List Nat)(place:Nat):Prop where
 ok:∀c∈bM,oP (c:Nat)=false->qu c (tx (xD c))
 back:((bM.filter λ(c:Nat)=>!oP c).map xD).flatten=l.drop place
theorem rA(dress pace:Int)(hl:∀c∈l,c=102∨c=105):∀(n place:Nat)(acc:List Nat),l.length-place<=n->∃bM,jO dress pace l n place acc=acc++bM/\Good l bM place
 |0,place,acc,h=>⟨[],by unfold jO;simp,by simp,by simp;lia⟩
 |n+1,place,acc,h=>by
  unfold jO;by_cases hp:place<l.length
  ·rw[if_pos hp]
   refine gM (Kz dress pace hp hl) λok h1=>?_;refine aH (rA dress pace hl n (place+(iQ dress pace l place).2.toNat) (acc++ke dress pace l place) (by lia)) λbM e g=>?_;refine⟨ke dress pace l place++bM,by rw[e,a7],?_,?_⟩
   ·intro c hc hb
    rcases List.mem_append.mp hc with hc|hc
    ·unfold ke at hc
     rcases List.mem_append.mp hc with hc|hc
     ·split at hc
      ·obtain rfl:=List.mem_singleton.mp hc
       have hr:(((nB dress pace place).fdiv 3).fmod 27).toNat<27:=by
        have a:=bS ((nB dress pace place).fdiv 3) (b:=27) (by decide);have b:=c9 ((nB dress pace place).fdiv 3) (b:=27) (by decide);lia
       have:=List.all_eq_true.mp ok3 _ (List.mem_range.mpr hr);rw[this]at hb;cases hb
      ·cases hc
     ·obtain rfl:=List.mem_singleton.mp hc
      rw[ok.fold];exact ok.ok
    ·exact g.ok c hc hb
   ·have hf:(ke dress pace l place).filter (λ(c:Nat)=>!oP c)=[(iQ dress pace l place).1.toNat]:=by
     unfold ke;rw[lC];have h2:[(iQ dress pace l place).1.toNat].filter (λ(c:Nat)=>!oP c)=[(iQ dress pace l place).1.toNat]:=by rw[mV (by rw[ok.b1];rfl)];rfl
     rw[h2]
     split
     ·have hr:(((nB dress pace place).fdiv 3).fmod 27).toNat<27:=by
       have a:=bS ((nB dress pace place).fdiv 3) (b:=27) (by decide);have b:=c9 ((nB dress pace place).fdiv 3) (b:=27) (by decide);lia
      have:=List.all_eq_true.mp ok3 _ (List.mem_range.mpr hr);rw[mW (by simpa using this)];rfl
     ·rfl
    rw[lC,hf,aY,List.flatten_append,g.back];simp only[ba,List.map_nil,gW,List.flatten_nil,bV];rw[ok.fold,←ib,fE]
  ·rw[if_neg hp]
   exact⟨[],by simp,by simp,by simp;lia⟩
theorem yz(n:Nat)(dress pace:Int):nZ (gz n) dress pace:=by
 have hl:∀c∈gz n,c=102∨c=105:=by
  intro c hc;unfold gz at hc;refine aH (List.mem_map.mp hc) λk zz iu=>?_;obtain rfl:=iu
  split<;>simp
 refine aH (rA dress pace hl (gz n).length 0 [] (by lia)) λbM e g=>?_;have e2:j_ dress pace (gz n)=bM:=by unfold j_;rw[e];rfl
 refine⟨xD,?_,?_⟩
 ·rw[e2];exact g.ok
 ·rw[e2,g.back];rfl
end Mine.P
end
namespace Mine.P
theorem KJ(room:Nat):∀(f c pos:Nat)(row:List Nat),As pos row->As pos (cY room f c pos row):=by
 intro f
 induction f with
 |zero=>exact λzz pos zz zz=>As.nil pos
 |succ f ih =>
  intro c pos row a;cases row with
  |nil =>
   cases c with
   |zero=>exact a
   |succ c=>exact(ih c (pos+1) [] (.nil _)).cons (aG _)
  |cons b r =>
   have hb:=a.hd;have ar:=a.tl;cases c with
   |zero =>
    rw[HL];exact Ii (As pos) (λzz=>(ih 1 (b+1) r ar).mono (Nat.le_succ_of_le hb)) λzz=>(ih 0 (b+1) r ar).cons hb
   |succ c =>
    rw[CT];exact Ii (As pos) (λh=>(ih c (pos+1) (b::r) (ar.cons h)).cons (aG _)) λzz =>
     Ii (As pos) (λzz=>(ih (c+2) (b+1) r ar).mono (Nat.le_succ_of_le hb)) λzz=>(ih (c+1) (b+1) r ar).cons hb
theorem nJ(room f c pos:Nat)(row:List Nat)(h1:row.Pairwise (· < ·))(h2:∀x∈row,pos<=x):(∀y∈cY room f c pos row,pos<=y)/\(cY room f c pos row).Pairwise (· < ·):=
 KJ room f c pos row ⟨h2,h1⟩
theorem nI(room:Nat):∀(f c pos:Nat)(row:List Nat),(cY room f c pos row).length<=c+row.length:=by
 intro f
 induction f with
 |zero=>exact λzz zz zz=>aW _
 |succ f ih =>
  intro c pos row;cases row with
  |nil =>
   cases c with
   |zero=>exact aG _
   |succ c=>exact d8 (ih c (pos+1) [])
  |cons b r =>
   cases c with
   |zero =>
    rw[HL];exact Ii (λl:List Nat=>l.length<=0+(r.length+1)) (λzz=>ak (ih 1 (b+1) r) (bK ((Nat.add_comm 1 _).trans (fh _).symm))) λzz=>d8 (ih 0 (b+1) r)
   |succ c =>
    rw[CT];exact Ii (λl:List Nat=>l.length<=c+1+(r.length+1)) (λzz=>ak (d8 (ih c (pos+1) (b::r))) (bK (bG c _ 1))) λzz =>
     Ii (λl:List Nat=>l.length<=c+1+(r.length+1)) (λzz=>ak (ih (c+2) (b+1) r) (bK (bG (c+1) 1 _))) λzz=>d8 (ih (c+1) (b+1) r)
theorem Bj(room:Nat)(h0:0<room):∀(f c pos:Nat)(row:List Nat),row.Pairwise (· < ·)->(∀x∈row,pos<=x)->c+2*row.length<=f->(∀x∈row,∃y∈cY room f c pos row,x<y)/\(1<=c->∃y∈cY room f c pos row,pos<=y):=by
 have key:∀(f c pos:Nat)(row:List Nat),As pos row->c+2*row.length<=f->(∀x∈row,∃y∈cY room f c pos row,x<y)/\(1<=c->∃y∈cY room f c pos row,pos<=y):=by
  intro f
  induction f with
  |zero =>
   intro c pos row _ hf;cases row with
   |nil=>exact⟨λzz h=>absurd h List.not_mem_nil,λh=>absurd (ak h hf) (by decide)⟩
   |cons b r=>exact absurd hf (il _)
  |succ f ih =>
   intro c pos row a hf;cases row with
   |nil =>
    refine⟨λzz h=>absurd h List.not_mem_nil,λh=>?_⟩;cases c with
    |zero=>exact absurd h (by decide)
    |succ c=>exact⟨pos,.head _,aG _⟩
   |cons b r =>
    have hb:=a.hd;have ar:=a.tl;have hf:=gF hf;cases c with
    |zero =>
     rw[HL,if_pos h0];have i:=ih 1 (b+1) r ar (ak (bK (bG 0 1 _)) hf);exact⟨List.forall_mem_cons.mpr ⟨i.2 (aG _),i.1⟩,λh=>absurd h (by decide)⟩
    |succ c =>
     have e:=bG c 1 (2*r.length);have e1:=bG (c+1) 1 (2*r.length);rw[CT];refine Ii (λl:List Nat=>(∀x∈b::r,∃y∈l,x<y)/\(1<=c+1->∃y∈l,pos<=y)) (λh=>?_) λzz=>Ii (λl:List Nat=>(∀x∈b::r,∃y∈l,x<y)/\(1<=c+1->∃y∈l,pos<=y)) (λzz=>?_) λzz=>?_
     ·exact⟨λx hx=>Exists.elim ((ih c (pos+1) (b::r) (ar.cons h) (ak (bK (congrArg cQ e.symm)) hf)).1 x hx) λy hy=>⟨y,.tail _ hy.1,hy.2⟩,λzz=>⟨pos,.head _,aG _⟩⟩
     ·have i:=ih (c+2) (b+1) r ar (ak (bK e1) hf)
      exact Exists.elim (i.2 (d8 (aW _))) λy hy=>⟨List.forall_mem_cons.mpr ⟨⟨y,hy⟩,i.1⟩,λzz=>⟨y,hy.1,ak hb (cw hy.2)⟩⟩
     ·have i:=ih (c+1) (b+1) r ar (cw hf)
      exact Exists.elim (i.2 (d8 (aW _))) λy hy=>⟨List.forall_mem_cons.mpr ⟨⟨y,.tail _ hy.1,hy.2⟩,λx hx=>Exists.elim (i.1 x hx) λz hz=>⟨z,.tail _ hz.1,hz.2⟩⟩,λzz=>⟨y,.tail _ hy.1,ak hb (cw hy.2)⟩⟩
 exact λf c pos row h1 h2 h3=>key f c pos row ⟨h2,h1⟩ h3
noncomputable def QC(a:List Nat):List Nat->Bool:=
 List.rec (λb=>List.rec true (λzz zz zz=>false) b) (λx zz ih b=>List.rec false (λy s zz=>bif aU x y then ih s else false) b) a
theorem u_:∀a b:List Nat,QC a b=true->a=b
 |[],[],_=>rfl
 |[],_::_,h=>by cases h
 |_::_,[],h=>by cases h
 |x::r,y::s,h=>by
  have h:(bif aU x y then QC r s else false)=true:=h;cases e:aU x y with
  |false=>rw[e]at h;cases h
  |true =>
   rw[e]at h;rw[aO e,u_ r s h]
noncomputable def kD(l:List Nat):List Nat:=l.foldl (λacc x=>(1000-x)::acc) []
theorem uM(l:List Nat):kD l=(l.map λx=>1000-x).reverse:=by
 have:∀(l acc:List Nat),l.foldl (λacc x=>(1000-x)::acc) acc=(l.map λx=>1000-x).reverse++acc:=by
  intro l
  induction l with
  |nil=>intro acc;rfl
  |cons x l ih=>intro acc;simp[ih]
 unfold kD;rw[this];simp
noncomputable abbrev tN(row:List Nat):List Nat:=cY 10 20 0 0 row
noncomputable def HC(lg:Nat)(n:Nat):Nat->List Nat->List Nat->Bool:=
 Nat.rec (λzz row ve=>QC row ve) (λzz ih t row ve =>
  bif a9 t 3 then(bif aU (nS 10 20 0 0 row) lg then(bif QC (tN (kD (tN row))) (kD row)then ih (cQ t) (tN row) ve else false)else false)else ih (cQ t) (tN row) ve) n
noncomputable def fv(row:List Nat):Nat->List Nat
 |0=>row
 |n+1=>tN (fv row n)
theorem mH(row:List Nat):∀n,fv row (n+1)=fv (tN row) n
 |0=>rfl
 |n+1=>by
  show tN (fv row (n+1))=tN (fv (tN row) n);rw[mH row n]
theorem Bi(lg:Nat):∀(n t:Nat)(row ve:List Nat),HC lg n t row ve=true->(∀i,i<n->t+i<3->nS 10 20 0 0 (fv row i)=lg/\tN (kD (fv row (i+1)))=kD (fv row i))/\fv row n=ve
 |0,t,row,ve,h=>⟨λi hi=>absurd hi (by lia),u_ _ _ h⟩
 |n+1,t,row,ve,h=>by
  have h:(bif a9 t 3 then(bif aU (nS 10 20 0 0 row) lg then(bif QC (tN (kD (tN row))) (kD row)then HC lg n (t+1) (tN row) ve else false)else false)else HC lg n (t+1) (tN row) ve)=true:=h;have key:HC lg n (t+1) (tN row) ve=true/\(t<3->nS 10 20 0 0 row=lg/\tN (kD (tN row))=kD row):=by
   cases e:a9 t 3 with
   |false =>
    rw[e]at h;exact⟨h,λht=>by rw[Nat.blt_eq.mpr ht]at e;cases e⟩
   |true =>
    rw[e]at h;cases e1:aU (nS 10 20 0 0 row) lg with
    |false=>rw[e1]at h;cases h
    |true =>
     rw[e1]at h;cases e2:QC (tN (kD (tN row))) (kD row)with
     |false=>rw[e2]at h;cases h
     |true =>
      rw[e2]at h;exact⟨h,λzz=>⟨aO e1,u_ _ _ e2⟩⟩
  obtain⟨ih1,ih2⟩:=Bi lg n (t+1) (tN row) ve key.1;refine⟨λi hi ht=>?_,by rw[mH];exact ih2⟩;cases i with
  |zero=>exact key.2 ht
  |succ i =>
   rw[mH,mH];exact ih1 i (by lia) (by lia)
noncomputable def qk(a b:Nat):List (Nat×Nat)->Nat->List Nat
 |[],_=>[]
 |(s,p)::r,ah=>(az s).map (λj=>(p+min a s+min b s)+10*s+2*ah+j)++qk a b r (ah+s)
noncomputable abbrev Ti(w:List (Nat×Nat)):List (Int×Int):=w.map λp=>((p.1:Int),(p.2:Int))
theorem sF(a s:Nat):((min a s:Nat):Int)=min (a:Int) s:=by
 rw[Nat.min_def,Int.min_def];by_cases h:a<=s
 ·rw[if_pos h,if_pos (Int.ofNat_le.mpr h)]
 ·rw[if_neg h,if_neg λq=>h (Int.ofNat_le.mp q)]
theorem xK(a b:Nat):∀(w:List (Nat×Nat)) (xs:List Int) (ah:Nat),(((Ti w).map (sY a b)).foldl jU (xs,(ah:Int))).1=xs++up (qk a b w ah)
 |[],xs,ah=>(bV xs).symm
 |(s,p)::w,xs,ah=>by
  simp only[Ti,ba,List.foldl_cons];have e:jU (xs,(ah:Int)) (sY a b ((s:Int),(p:Int)))=(xs++up ((az s).map (λj=>(p+min a s+min b s)+10*s+2*ah+j)),((ah+s:Nat):Int)):=by
   unfold jU sY;simp only[eK]
   congr 1
   congr 1
   unfold up;rw[bq];refine dN λj zz=>?_;show((p:Int)+min (a:Int) s+min (b:Int) s+10*s+2*ah)+j=((p+min a s+min b s+10*s+2*ah+j:Nat):Int);rw[i8,i8,i8,i8,i8,sF,sF];rfl
  rw[e,xK a b w _ (ah+s)];show _=xs++up ((az s).map (λj=>(p+min a s+min b s)+10*s+2*ah+j)++qk a b w (ah+s));simp[up]
theorem QE(a b:Nat)(w:List (Nat×Nat)):(gG ((Ti w).map (sY a b)) ((Ti w).map (sY a b)).length).1=up (qk a b w 0):=by
 unfold gG;rw[List.take_length];have:=xK a b w [] 0;simpa using this
end Mine.P
section
namespace Mine.P
variable{l r0:List Nat}
noncomputable def U1(k:Nat)(l:List Nat):Bool:=l.all λx=>a9 x k
theorem uN{k: Nat}(h:U1 k l=true):∀x∈l,x<k:=λx hx=>Nat.blt_eq.mp (List.all_eq_true.mp h x hx)
noncomputable def ET(row:List Nat)(w:List (Nat×Nat))(lg a b:Nat):Bool:=
 U1 15 (cY a 20 0 0 row)&&(U1 15 (cY b 20 0 0 row)&&(U1 20 (cY b 20 0 0 (cY a 20 0 0 row))&&(QC (cY b 20 0 0 (cY a 20 0 0 row)) (cY a 20 0 0 (cY b 20 0 0 row)) &&
  (aU (nS a 20 0 0 row) (min a lg)&&(aU (nS b 20 0 0 row) (min b lg)&&(U1 900 (qk a b w 0)&&HC lg 10 0 (cY b 20 0 0 (cY a 20 0 0 row)) (qk a b w 0)))))))
structure C5(row:List Nat)(w:List (Nat×Nat))(lg a b:Nat):Prop where
 o1:∀x∈cY a 20 0 0 row,x<15
 o2:∀x∈cY b 20 0 0 row,x<15
 r0:∀x∈cY b 20 0 0 (cY a 20 0 0 row),x<20
 e:cY b 20 0 0 (cY a 20 0 0 row)=cY a 20 0 0 (cY b 20 0 0 row)
 m1:nS a 20 0 0 row=min a lg
 m2:nS b 20 0 0 row=min b lg
 d9:∀x∈qk a b w 0,x<900
 t:∀i,i<3->nS 10 20 0 0 (fv (cY b 20 0 0 (cY a 20 0 0 row)) i)=lg/\tN (kD (fv (cY b 20 0 0 (cY a 20 0 0 row)) (i+1)))=kD (fv (cY b 20 0 0 (cY a 20 0 0 row)) i)
 ve:fv (cY b 20 0 0 (cY a 20 0 0 row)) 10=qk a b w 0
theorem wz{row: List Nat}{w: List (Nat×Nat)}{lg a b: Nat}(h:ET row w lg a b=true):C5 row w lg a b:=by
 unfold ET at h;simp only[aK]at h;refine K_ (h) λh1 h2 h3 h4 h5 h6 h7 h8=>?_;refine gM (Bi _ _ _ _ _ h8) λt1 t2=>?_;exact⟨uN h1,uN h2,uN h3,u_ _ _ h4,aO h5,aO h6,uN h7,λi hi=>t1 i (by lia) (by lia),t2⟩
theorem sq(a b:Nat):∀(w:List (Nat×Nat)) (ah:Nat),qk a b w ah=qk b a w ah
 |[],_=>rfl
 |(s,p)::w,ah=>by
  show(az s).map (λj=>(p+min a s+min b s)+10*s+2*ah+j)++qk a b w (ah+s)=(az s).map (λj=>(p+min b s+min a s)+10*s+2*ah+j)++qk b a w (ah+s);rw[sq a b w,show p+min a s+min b s=p+min b s+min a s by lia]
theorem C5.swap{row: List Nat}{w: List (Nat×Nat)}{lg a b: Nat}(P:C5 row w lg a b):C5 row w lg b a:=by
 refine⟨P.o2,P.o1,?_,P.e.symm,P.m2,P.m1,?_,?_,?_⟩
 ·rw[←P.e];exact P.r0
 ·rw[←sq a b];exact P.d9
 ·rw[←P.e];exact P.t
 ·rw[←P.e,←sq a b];exact P.ve
theorem sO(h:l.Pairwise (· < ·)):vK (up l):=by
 show List.Pairwise _ _;rw[List.pairwise_map];exact h.imp λ{a b} Il=>by lia
theorem x_:∀l:List Int,vK l->asc l=true
 |[],_=>rfl
 |[a],_=>rfl
 |a::b::r,h=>by
  have h1:=List.pairwise_cons.mp h;show(decide (a<b)&&asc (b::r))=true;rw[decide_eq_true (h1.1 b (.head _)),x_ (b::r) h1.2];rfl
theorem Ew(ha:l.Pairwise (· < ·))(hl:l.length<=50)(h9:∀x∈l,x<900):ez (up l):=by
 have hA:=sO ha;refine⟨by simp;lia,λi hi=>?_,λi hi=>?_⟩
 ·have:=pI hA i 1 (by simpa using hi);lia
 ·have hm:(up l).getD i 0∈up l:=getD_mem' hi
  refine aH (List.mem_map.mp hm) λx hx e=>?_;rw[←e];have:=h9 x hx;lia
theorem AS{aN: List Nat}:∀x∈aN,x<aS (up aN):=by
 intro x hx;have h:=(foldl_max (0::up aN) 0).2.1 (x:Int) (.tail _ (List.mem_map.mpr ⟨x,hx,rfl⟩));have h2:(x:Int)<=di (0::up aN):=h;unfold aS;lia
theorem QK{row: List Nat}{lg: Nat}{turn: Int}(ht:turn>0)(ha:row.Pairwise (· < ·))(hl:row.length<=10)(h9:∀x∈tN row,x<900)(hm:nS 10 20 0 0 row=lg)(hb:tN (kD (tN row))=kD row):oE lg turn (up row) (up (tN row)):=by
 have hs:=nJ 10 20 0 0 row ha (λx zz=>aW x);have hu:=(Bj 10 (by decide) 20 0 0 row ha (λx zz=>aW x) (by lia)).1;have g_:∀x∈row,x<aS (up (tN row)):=λx hx=>by
  refine aH (hu x hx) λy hy Kd=>?_;have h2:y<aS (up (tN row)):=AS y hy;lia
 have W:=nG (room:=10) (N:=aS (up (tN row))) (f:=20) ha g_ (by lia) AS;have E:=DP (row:=up row) (room:=((10:Nat):Int)) (n:=aS (up (tN row))) (sO ha) (λx hx=>by obtain⟨y,_,rfl⟩:=List.mem_map.mp hx;lia) (by simp;lia) (λx hx=>by obtain⟨y,hy,rfl⟩:=List.mem_map.mp hx;have:=g_ y hy;lia) W.2.1;refine⟨W.2.1,W.1,?_,?_,E.2.2,E.2.1,E.1⟩
 ·have:=W.2.2
  rw[hm]at this;exact congrArg kr this
 ·
  have h9r:∀x∈row,x<900:=λx hx=>by obtain⟨y,hy,Kd⟩:=hu x hx;have:=h9 y hy;lia
  have mir:∀l:List Nat,(∀x∈l,x<900)->((up (kD l)).map λx=>1000-x).reverse=up l:=by
   intro l hl9;rw[uM];unfold up;rw[bq,List.map_reverse,List.reverse_reverse,bq];refine dN λx hx=>?_;have:=hl9 x hx;simp only[Function.comp];lia
  have hma:(kD (tN row)).Pairwise (· < ·):=by
   rw[uM,List.pairwise_reverse,List.pairwise_map];exact hs.2.imp_of_mem λ{x y} hx hy Kd=>by
    have:=h9 y hy;lia
  have hml:(kD (tN row)).length<=10:=by
   rw[uM];simp;have h2:(tN row).length<=0+row.length:=nI 10 20 0 0 row;lia
  have key:=yW (turn:=-turn) (M:=1000) (by lia) (sO hma);rw[mir _ h9]at key;have ct:=HG 20 0 0 (kD (tN row)) (by lia) (by lia);rw[show((0:Nat):Int)=0 from rfl]at ct;rw[ct,show cY 10 20 0 0 (kD (tN row))=kD row from hb,mir row h9r]at key;exact key
theorem mG(ha:r0.Pairwise (· < ·))(hl:r0.length<=10):∀i,(fv r0 i).Pairwise (· < ·)/\(fv r0 i).length<=10
 |0=>⟨ha,hl⟩
 |i+1=>by
  have ih:=mG ha hl i;have h1:=nJ 10 20 0 0 (fv r0 i) ih.1 (λx zz=>aW x);have h2:=nI 10 20 0 0 (fv r0 i);exact⟨h1.2,by show(cY 10 20 0 0 (fv r0 i)).length<=10;lia⟩
theorem r7(ha:r0.Pairwise (· < ·))(hl:r0.length<=10)(h9:∀x∈fv r0 10,x<900):∀d i,i+d=10->∀x∈fv r0 i,x<900
 |0,i,h=>by
  have e:i=10:=by lia
  rw[e];exact h9
 |d+1,i,h=>λx hx=>by
  have f:=mG ha hl i;refine aH ((Bj 10 (by decide) 20 0 0 (fv r0 i) f.1 (λx zz=>aW x) (by lia)).1 x hx) λy hy Kd=>?_;have:=r7 ha hl h9 d (i+1) (by lia) y hy;lia
theorem IY{lg: Nat}(ha:r0.Pairwise (· < ·))(hl:r0.length<=10)(h9:∀x∈fv r0 10,x<900)
  (t:∀i,i<3->nS 10 20 0 0 (fv r0 i)=lg/\tN (kD (fv r0 (i+1)))=kD (fv r0 i)) (pace:Int) (i:Nat) (hi:i<10):TurnOk pace lg (1+(i:Int)) (up (fv r0 i)) (up (fv r0 (i+1))):=by
 have f:=mG ha hl i;have f1:=mG ha hl (i+1);have l:=r7 ha hl h9 (10-i) i (by lia);have l1:=r7 ha hl h9 (10-(i+1)) (i+1) (by lia);refine⟨?_,by simp;lia,by simp;lia,?_,?_,x_ _ (sO f.1),λh4=>?_,λzz=>Ew f1.1 (by lia) l1⟩
 ·have:=wZ (turn:=1+(i:Int)) (by lia) (sO f.1)
  rw[this];have ct:=HG 20 0 0 (fv r0 i) (by lia) (by lia);rw[show((0:Nat):Int)=0 from rfl]at ct;rw[ct];rfl
 ·intro b hb
  refine aH (List.mem_map.mp hb) λx hx rt=>?_;obtain rfl:=rt;have:=l x hx;lia
 ·intro b hb
  refine aH (List.mem_map.mp hb) λx hx MO=>?_;obtain rfl:=MO;have:=l1 x hx;lia
 ·have ti:=t i (by lia)
  exact QK (by lia) f.1 f.2 l1 ti.1 ti.2
noncomputable def oG(n:Nat):List Nat:=(az 10).filter λk=>n/2^k % 2==1
theorem BU(n:Nat):nu (gz n)=up (oG n):=by
 unfold nu oG up;have hl:(gz n).length=10:=by simp[gz]
 rw[hl];have:∀l:List Nat,(∀x∈l,x<10)->l.filterMap (λi=>if(gz n).getD i 0=102 then some ((i:Nat):Int)else none)=(l.filter λk=>n/2^k % 2==1).map λ(x:Nat)=>(x:Int):=by
  intro l
  induction l with
  |nil=>intro _;rfl
  |cons x l ih =>
   intro h;have hx:=h x (.head _);have ih:=ih λy hy=>h y (.tail _ hy);have hg:(gz n).getD x 0=if n/2^x % 2=1 then 102 else 105:=by unfold gz;simp[hx]
   by_cases hb:n/2^x % 2=1
   ·rw[fY (by rw[hg,if_pos hb];rfl),mV (by simp[hb]),ba,ih]
   ·rw[fZ (by rw[hg,if_neg hb];rfl),mW (by simp[hb]),ih]
 exact this _ λx hx=>List.mem_range.mp hx
theorem Ey(n:Nat):(oG n).Pairwise (· < ·):=List.Pairwise.filter _ List.pairwise_lt_range
theorem Ex(n:Nat):(oG n).length<=10:=by
 have:=List.length_filter_le (λk=>n/2^k % 2==1) (az 10);rw[bU]at this;exact this
theorem Jh(n:Nat):∀x∈oG n,x<10:=λx hx=>List.mem_range.mp (List.mem_filter.mp hx).1
noncomputable def Zf:List (Nat×Nat):=[(1,1),(1,2),(1,3),(1,4),(2,2),(2,3),(2,4),(3,3),(3,4),(4,4)]
noncomputable def xM(ws:List (Int×Int)):List (Nat×Nat):=ws.map λp=>(p.1.toNat,p.2.toNat)
noncomputable def EE(n:Nat)(ws:List (Int×Int)):Bool:=
 (ws.all λp=>decide (0<=p.1)&&(decide (p.1<=90)&&(decide (0<=p.2)&&decide (p.2<=9000))))&&(dv ws.length 60&&Zf.all λp=>ET (oG n) (xM ws) (di (0::ws.map (·.1))).toNat p.1 p.2)
noncomputable def qp(n:Nat):Bool:=dv (jw (up (oG n))) 1000&&(match oF (up (oG n))with
 |none=>false
 |some ws=>EE n ws)
theorem Js{a b: Nat}(ha:a<=4)(hb:b<=4){p: Int×Int}(h:0<=p.1/\p.1<=90/\0<=p.2/\p.2<=9000):0<=(sY a b p).1/\(sY a b p).1<=100/\0<=(sY a b p).2/\(sY a b p).2<=10000:=
 have m (c:Nat):0<=min (c:Int) p.1:=Int.le_min.mpr ⟨aP c,h.1⟩;have k (c:Nat):min (c:Int) p.1<=90:=aQ (Int.min_le_right ..) h.2.1
 ⟨h.1,aQ h.2.1 (by decide),Int.add_nonneg (Int.add_nonneg h.2.2.1 (m a)) (m b),aQ (Int.add_le_add (Int.add_le_add h.2.2.2 (k a)) (k b)) (by decide)⟩
section
variable{row:List Nat}{w:List (Nat×Nat)}{lg a b:Nat}
theorem VV(P:C5 row w lg a b)(A0:row.Pairwise (· < ·))(L0:row.length<=10)(R0:∀x∈row,x<15):(au (up row) a 15).stack=[]/\(au (au (up row) a 15).laid b 20).stack=[]/\(au (au (up row) a 15).laid b 20).laid=up (cY b 20 0 0 (cY a 20 0 0 row))/\(au (up row) a 15).laid.length<=1000/\((au (up row) a 15).mx:Int)=min (a:Int) lg:=by
 have L1:(cY a 20 0 0 row).length<=10:=ak (nI a 20 0 0 row) ((fh _).symm▸L0);have W:=nG (room:=a) (N:=15) (f:=20) A0 R0 (Nat.mul_le_mul_left 2 L0) P.o1;have V:=nG (room:=b) (N:=20) (f:=20) (nJ a 20 0 0 row A0 (λx zz=>aW x)).2 (λx hx=>ak (P.o1 x hx) (by decide)) (Nat.mul_le_mul_left 2 L1) P.r0;rw[W.1,W.2.1,W.2.2,P.m1];exact⟨rfl,V.2.1,V.1,ak (bK (aj _)) (ak L1 (by decide)),sF a lg⟩
theorem EP:∀a b:Fin 5,1<=a.val->1<=b.val->(a.val,b.val)∈Zf∨(b.val,a.val)∈Zf:=by decide
end
theorem BS{n: Nat}(h:qp n=true){a b: Nat}(ha:1<=a/\a<=4)(hb:1<=b/\b<=4):∃ws rows,pK (gz n) (a:Int) (b:Int) ws rows:=by
 unfold qp at h;rw[aK]at h;have hbx:=h.1;have h:=h.2;cases hw:oF (up (oG n))with
 |none=>rw[hw]at h;cases h
 |some ws =>
  rw[hw]at h;have h:EE n ws=true:=h;unfold EE at h;rw[aK,aK]at h;have P_:∀p∈ws,0<=p.1/\p.1<=90/\0<=p.2/\p.2<=9000:=λp hp=>by
   have:=List.all_eq_true.mp h.1 p hp;simpa using this
  have RO:Ti (xM ws)=ws:=(bq ..).trans ((dN λp hp=>Prod.ext (eV (P_ p hp).1) (eV (P_ p hp).2.2.1)).trans (List.map_id ws));have hlg:(((di (0::ws.map (·.1))).toNat:Nat):Int)=di (0::ws.map (·.1)):=eV (AN (ws.map (·.1)));have P:C5 (oG n) (xM ws) (di (0::ws.map (·.1))).toNat a b:=(EP ⟨a,Nat.lt_succ_of_le ha.2⟩ ⟨b,Nat.lt_succ_of_le hb.2⟩ ha.1 hb.1).elim (λhp=>wz (List.all_eq_true.mp h.2.2 _ hp)) λhp=>(wz (List.all_eq_true.mp h.2.2 _ hp)).swap;have A0:=Ey n;have L0:=Ex n;have R0:∀x∈oG n,x<15:=λx hx=>ak (Jh n x hx) (by decide);have H:=VV P A0 L0 R0;have K:=VV P.swap A0 L0 R0;have A1:=(nJ a 20 0 0 (oG n) A0 (λx zz=>aW x)).2;have A3:=(nJ b 20 0 0 _ A1 (λx zz=>aW x)).2;have L3:(cY b 20 0 0 (cY a 20 0 0 (oG n))).length<=10:=ak (nI b 20 0 0 _) (ak (bK (fh _)) (ak (nI a 20 0 0 _) (ak (bK (fh _)) L0)));have T9:∀x∈fv (cY b 20 0 0 (cY a 20 0 0 (oG n))) 10,x<900:=by rw[P.ve];exact P.d9
  rw[hlg]at H K;rw[←P.e]at K;have R:=BU n;have D:(gG (ws.map (sY a b)) (ws.map (sY a b)).length).1=up (qk a b (xM ws) 0):=by
   have:=QE a b (xM ws);rw[RO]at this;exact this
  exact⟨ws,λi=>up (fv (cY b 20 0 0 (cY a 20 0 0 (oG n))) i),R▸hw,R▸a_ hbx,a_ h.2.1,List.forall_mem_map.mpr λq hq=>Js ha.2 hb.2 (P_ q hq),R▸H.1,R▸K.1,R▸H.2.1,R▸K.2.1,R▸H.2.2.1,R▸K.2.2.1,R▸H.2.2.2.1,R▸K.2.2.2.1,R▸H.2.2.2.2,R▸K.2.2.2.2,λpace i hi=>hlg▸IY A3 L3 T9 P.t pace i hi,D.trans (congrArg up P.ve.symm)⟩
theorem HS(n:Nat):gz n=gz (n % 1024):=by
 unfold gz;refine dN λk hk=>?_;have hk:=List.mem_range.mp hk;have h1:=Nat.testBit_mod_two_pow n 10 k;rw[decide_eq_true hk,Bool.true_and]at h1;have e:∀m,(m/2^k % 2=1) ↔ m.testBit k=true:=λm=>by rw[Nat.testBit_eq_decide_div_mod_eq];simp
 by_cases hb:n.testBit k=true
 ·rw[if_pos ((e n).mpr hb),if_pos ((e _).mpr (by rw[show(1024:Nat)=2^10 from rfl,h1];exact hb))]
 ·rw[if_neg λh=>hb ((e n).mp h),if_neg λh=>hb (by rw[←h1];exact(e _).mp h)]
end Mine.P
end
namespace Mine.P
def m7(b:Nat):Prop:=∀n,n<b->qp n=true
theorem m7.on{b:Nat}(H:m7 b)(h:((az 32).all λj=>qp (b+j))=true):m7 (b+32):=λn hn =>
 (iB n b).elim (H n) λh1=>by
  have:=List.all_eq_true.mp h (n-b) (List.mem_range.mpr (mj h1 hn))
  rwa [Nat.add_sub_cancel' h1]at this
theorem aaV:m7 0:=λn h=>absurd h (Nat.not_lt_zero n)
theorem chk1:m7 32:=aaV.on (by kernel_rfl)
theorem aaU:m7 64:=chk1.on (by kernel_rfl)
theorem aaT:m7 96:=aaU.on (by kernel_rfl)
theorem aaS:m7 128:=aaT.on (by kernel_rfl)
theorem aaR:m7 160:=aaS.on (by kernel_rfl)
theorem aaQ:m7 192:=aaR.on (by kernel_rfl)
theorem aaP:m7 224:=aaQ.on (by kernel_rfl)
theorem aaO:m7 256:=aaP.on (by kernel_rfl)
theorem aaN:m7 288:=aaO.on (by kernel_rfl)
theorem WX:m7 320:=aaN.on (by kernel_rfl)
theorem WW:m7 352:=WX.on (by kernel_rfl)
theorem WV:m7 384:=WW.on (by kernel_rfl)
theorem WU:m7 416:=WV.on (by kernel_rfl)
theorem WT:m7 448:=WU.on (by kernel_rfl)
theorem WS:m7 480:=WT.on (by kernel_rfl)
theorem WR:m7 512:=WS.on (by kernel_rfl)
theorem WQ:m7 544:=WR.on (by kernel_rfl)
theorem WO:m7 576:=WQ.on (by kernel_rfl)
theorem WN:m7 608:=WO.on (by kernel_rfl)
theorem WL:m7 640:=WN.on (by kernel_rfl)
theorem WK:m7 672:=WL.on (by kernel_rfl)
theorem WJ:m7 704:=WK.on (by kernel_rfl)
theorem WI:m7 736:=WJ.on (by kernel_rfl)
theorem WH:m7 768:=WI.on (by kernel_rfl)
theorem WG:m7 800:=WH.on (by kernel_rfl)
theorem WE:m7 832:=WG.on (by kernel_rfl)
theorem WD:m7 864:=WE.on (by kernel_rfl)
theorem WC:m7 896:=WD.on (by kernel_rfl)
theorem WB:m7 928:=WC.on (by kernel_rfl)
theorem WA:m7 960:=WB.on (by kernel_rfl)
theorem Wz:m7 992:=WA.on (by kernel_rfl)
theorem Wy:m7 1024:=Wz.on (by kernel_rfl)
theorem KG(n:Nat)(h:n<1024):qp n=true:=Wy n h
end Mine.P
namespace Mine.P
theorem C3(h:∀n,n<1024->qp n=true):ye:=by
 intro script;have f:∀d:Int,∃a:Nat,1+d.fmod 4=(a:Int)/\1<=a/\a<=4:=λd=>by
  have h1:=bS d (b:=4) (by decide);have h2:=c9 d (b:=4) (by decide);exact⟨(1+d.fmod 4).toNat,by lia,by lia,by lia⟩
 obtain⟨a,ea,ha⟩:=f ((d6 script).getD 1 0);obtain⟨b,eb,hb⟩:=f ((d6 script).getD 2 0);have hn:(((d6 script).getD 0 0).toNat) % 1024<1024:=Nat.mod_lt _ (by decide);obtain⟨ws,rows,F⟩:=BS (h _ hn) ha hb;refine⟨ws,rows,yz _ _ _,?_⟩;rw[HS,ea,eb];exact F
theorem law_holds:PySem.Challenge.rw_wc0021_03.Holds:=GZ (Ck (C3 KG))
end Mine.P
theorem PySem.Challenge.cw_wc0021_03_holds : PySem.Challenge.rw_wc0021_03.Holds :=
 Mine.P.law_holds
