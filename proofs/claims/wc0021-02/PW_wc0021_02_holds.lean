import PyProof.Rows.All
import Wide.All
import OpenK.AllK
import Wide.FinOn
import Open.Tops
import PyProof.ListIndex
import PyProof.Draws
import PyProof.EnumMake
import PyProof.P3Eq
import PyProof.NeData
import PyProof.ExcFactsAll.ValueError
import PyProof.ExcStrAll.ValueError
import PyProof.GenCompT
import PyProof.InstStoreFacts
import PyProof.IsiH_list
import PyProof.ListRange
import PyProof.NsDelKeeps
import PyProof.Rows.Tup
import PyProof.Rows.TupSub
import PyProof.Rows.GenFrame
import PyProof.ZipIter
import PyProof.WalksPairs
import PyProof.Rows.DictMethods
import PyProof.Rows.CatchStr
import PyProof.Rows.Chain
import PyProof.Rows.ListMul
import PyProof.Rows.ListMulCarried
import PyProof.Rows.RuleIs
import PyProof.Rows.TupMore
import PyProof.Rows.SumGenD
import PyProof.SumAny
import PyProof.Rows.SeqItemCall
import PyProof.Rows.SortStr
import KE.KFromBytes
import KE.KSortTup
import KE.KSuper
import KE.KBoundM
import KE.KSortKey
import KE.KStar
import KE.KSuperObj
import PyProof.JoinWalk
import PyProof.Rows.Range3
import PyProof.Rows.StrInSeq3
import PyProof.Rows.StrJoin2
import Lean
import PySem.Challenge.RW_wc0021_02
set_option genCtorIdx false
set_option compiler.extract_closed false
set_option Elab.async false
set_option linter.all false
set_option maxRecDepth 100000
set_option genInjectivity false
set_option genSizeOf false
set_option bootstrap.genMatcherCode false
open PySem renaming wpAny_bind→ae, Params→ag, Value→aq, wpAny_pure→av, Shared→aA, wpAny→aH, wpAny_holding→aQ, model→ba, strIterType→bj, recursionLimit→bA, sizeLine→bC, DictEntry→bI, compareOp→bS, BindsTo→bW, Around→bZ, wpAny_of_eq→cH, FuncData→cO, World→cW, Program→cY, OsState→dc, wpAny_standAt→de, Builtin→dg, mainGlobals→dk, Comprehension→dq, wpAny_mono→dz, isInstance→dA, wpAny_loadName_local→dQ, wpAny_field→dR, wpAny_call_entry→dT, runN→dU, wpAny_newObj_type→d7, rawInt→ey, starEach→eA, binaryOp→eB, pyIter→fc, sizeLine_eq→fz, wpAny_rule→fU, wpAny_loadPart→fV, checkBoundCall→fX, standAt→f6, letOwnedTupleGo→gr, foldedSetIterable→gv, Model→gw, wpAny_call→gA, wpAny_Name→gB, wpAny_isInstance→gR, wpAny_execs_cons→gT, wpAny_callSpecial?_slot→gU, table→g_, typeIs_str→hU, holding→h_, wpAny_attempt→ij, codeAmong→iq, wpAny_seqItems→iV, pyNext→iW, strKind→i3, getMethod→jh, Scope→jk, execs→jI, assign→jL, wpAny_specialOf→jN, getAttrByItsOwn→jP, wpAny_setField_rec→j3, backTo→j8, IsPair→km, mainNs→kV, isSubtype_type→kW, denote→kY, seqIndex?→lE, plainId_quiet→lR, subscripted→lV, sliceBounds→lW, callSpecialIfBoundUnlessNone?→lY, builtinKind→lZ, codeAny_builtin→mJ, slot_listiter_next→nq, ks_wpAt_execs_cons→nA
open Nat renaming le_trans→au, lt_of_lt_of_le→aM, le_refl→aW, lt_of_le_of_lt→aY, eq_of_beq_eq_true→a9, le_add_right→bg, lt_succ_self→bq, beq→br, le_of_ble_eq_true→bw, zero_le→bJ, ne_of_lt→bL, le_of_lt→bX, blt→cf, le_succ→cm, add_le_add_left→cq, beq_refl→cD, add_le_add_right→cE, add_le_add→cF, le_of_not_lt→dm, ble→dM, lt_succ_of_lt→d0, le_of_succ_le→d2, le_of_eq→d3, lt_irrefl→eE, le_add_left→f7, add_assoc→gq, lt_add_of_pos_right→gD, zero_add→gW, mod_lt→jv, succ_pos→j_, lt_trans→ka, lt_or_ge→kh, lt_of_succ_lt_succ→ki, add_sub_cancel_left→nV
open List renaming replicate→aw, length_append→aB, length_map→aG, getElem?_eq_getElem→aP, getD_eq_getElem?_getD→aU, lookup_cons→a7, size_toArray→a_, range→bc, append_assoc→bh, map_append→bG, getElem?_toArray→bH, cons_ne_nil→bP, append_nil→bV, length_replicate→cg, map_cons→cn, length_reverse→cJ, length_cons→cL, getElem?_map→cM, take_of_length_le→dj, forIn_cons→dC, reverse_cons→dX, length_range→dY, getElem?_eq_none→d9, getElem_mem→ew, map_map→f9, flatten_cons→f_, length_drop→gz, drop→gY, all_cons→gZ, take_append_drop→hG, length_take→iC, getElem_map→iD, filter_cons→iE, getElem?_eq_none_iff→iO, toList_toArray→iQ, replicate_succ→iR, getElem?_range→iT, filterMap_cons_some→jd, filterMap_cons_none→je, length_nil→jj, getElem_range→jl, lookup→jx, eraseIdx_append_of_length_le→jH, push_toArray→jW, drop_zero→jX, length_singleton→kQ, length_filter_le→kR, cons_append→kS, filter_append→mv, getElem?_append_left→mQ, drop_eq_getElem_cons→mR
open PySem.Heap renaming get?_push_of_some→aC, get?_push_size→aJ, lt_size→bx, get?_update_self→d_, size_push→fx, SameBut→gQ, ExtBut→jA
open PySem.Str renaming ofString→aF, empty→dy
open Int renaming natCast_nonneg→aI, toNat_natCast→bU, le_trans→bY, le_refl→b_, le_of_lt→d4, eq_ofNat_of_zero_le→eQ, zero_mul→fm, fmod_nonneg_of_pos→gX, mul_comm→iP, lt_of_lt_of_le→jz, zero_add→kq, mul_pos→lu, toNat_of_nonneg→lT, sub_eq_add_neg→mN, fmod_lt_of_pos→mP
open Bool renaming false_ne_true→aN, and_eq_true→aV, false_eq_true→dG
open Option renaming none→bz
open PySem.F renaming plainAttrs_list→bE, plainAttrs_str→cA, slot_str_join→fu, slot_list_insert→fY, plain_extend_loop→ir, slot_list_append→iN, slot_list_count→jc, slot_zip_next→jV, slot_list_extend→mM, type_list_count→m_
open PySem.Builtin.Str renaming strSliceIndices→bK, tooLong→eG, occurrences→iF
open Pure renaming pure→bO
open Option.some renaming inj→bR
open PySem.Value renaming ref→b9, type→cx, isInt→fb, none→ji
open PySem.W renaming kp_binds→cB, looks_findIn→dv, findIn→d8, Looks→eF, topFrame→ib, emptyDict→ip, CodeHd→iA, SharedT→iB, looks_mroIn→iY, typeIn→jm
open PySem.Builtin.List renaming listFitsIndex→cG
open PySem.Obj renaming mapSeq→cV, putName→lh
open PySem.Builtin.Range renaming rangeSize→cX, small→dF
open Array renaming length_toList→du, getElem?_eq_getElem→iG, getElem?_toList→kB, getD_eq_getD_getElem?→lQ
open PySem.Calls renaming spliced_cons→dE, callWith_builtin→dW, spliced_nil→eN, loadGlobal_global→gx, loadGlobal_builtin→i4, callWith_function→nI
open PySem.Builtin.SmallTypes renaming ownedTupleIsFree→eu, nextOf→jZ, ownedTupleHandOut→mw
open PySem.Manifest renaming signature?→eM
open PySem.Txt renaming slice→fv
open PyProof.Rows renaming MethodCall_→fw, isTrue_or→gh, listUpdate_at→il, isTrue_and→lS
open ForInStep renaming yield→fy
open PySem.Heap.SameBut renaming update→fR
open PySem.Around renaming under_plainId→fT
open Lean renaming Syntax→gb
open PySem.PyData renaming keyHash→gu, strOk→gE, eqv→gF, canLayAll0→jG
open PySem.Heap.Ns renaming of_isNs→gJ
open Prod.mk renaming injEq→gP
open PySem.Sem renaming wp_mono→jE
open List.cons renaming inj→jY
open PySem.Bind renaming checkArgs→j1
open PySem.W.WShape renaming hasItems→k6
open PySem PySem.W PyProof.Rows
open Option renaming some → aa
open Bool renaming true → af
open True renaming intro → aE
namespace Mine.Internal
def OH(l:List gb):gb:=.node .none `Lean.Parser.Tactic.tacticSeq #[.node .none `Lean.Parser.Tactic.tacticSeq1Indented #[.node .none Lean.nullKind l.toArray]]
def Kg(k:Lean.Name)(x:String)(l:List gb):gb:=.node .none k (.atom .none x::l).toArray
def UA:gb:=Kg `Lean.Parser.Tactic.tacticRfl "rfl" []
def iU:gb:=OH [UA]
def uw:gb:=OH [Kg `tacticKernel_rfl "kernel_rfl" []]
def Uz(x:gb):gb:=OH [Kg `Lean.Parser.Tactic.intros "intros" [.node .none Lean.nullKind #[]],.atom .none ";",x]
def j2:gb:=Uz UA
def Kh:gb:=Uz (Kg `Lean.Parser.Tactic.withUnfoldingAll "with_unfolding_all" [iU])
theorem U.{u}{α:Sort u}{a:α}:a=a:=rfl
theorem ay{p:Prop}(h:p:=by decide):p:=h
theorem ak{p:Prop}(h:autoParam p uw):p:=h
section
set_option linter.all false
theorem uy{i j:Int}(h0:0<=i)(h:i<=j):i.toNat+(j-i).toNat=j.toNat:=by
 rw[←Int.toNat_add h0 (Int.sub_nonneg.mpr h)];congr 1;exact(Int.add_comm _ _).trans (Int.sub_add_cancel j i)
theorem dH{P:Prop}(h:∀X:Prop,(P->X)->X):P:=h P id
variable{X:Prop}{A:Sort _}{B:Sort _}{C:Sort _}{D:Sort _}{E:Sort _}{F:Sort _}{G:Sort _}{H:Sort _}{I:Sort _}{J:Sort _}{P p q r:Prop}
theorem lA(h:p/\q)(k:p->q->X):X:=by obtain⟨m,n⟩:=h;exact k m n
theorem Fu(h:p/\q/\r)(k:p->q->r->X):X:=by obtain⟨m,n,o⟩:=h;exact k m n o
theorem Ni(h:p/\q/\r/\P)(k:p->q->r->P->X):X:=by obtain⟨m,n,o,s⟩:=h;exact k m n o s
theorem iH{p:A->Prop}(h:∃a,p a)(k:∀a,p a->X):X:=by obtain⟨a,m⟩:=h;exact k a m
theorem aR{p q:A->Prop}(h:∃a,p a/\q a)(k:∀a,p a->q a->X):X:=by obtain⟨a,m,n⟩:=h;exact k a m n
theorem nJ{p q r:A->Prop}(h:∃a,p a/\q a/\r a)(k:∀a,p a->q a->r a->X):X:=by obtain⟨a,m,n,o⟩:=h;exact k a m n o
theorem Fs{p q r P:A->Prop}(h:∃a,p a/\q a/\r a/\P a)(k:∀a,p a->q a->r a->P a->X):X:=by obtain⟨a,m,n,o,s⟩:=h;exact k a m n o s
theorem US{p:A->B->Prop}(h:∃a b,p a b)(k:∀a b,p a b->X):X:=by obtain⟨a,b,m⟩:=h;exact k a b m
theorem mU{p q:A->B->Prop}(h:∃a b,p a b/\q a b)(k:∀a b,p a b->q a b->X):X:=by obtain⟨a,b,m,n⟩:=h;exact k a b m n
theorem f5{p q r:A->B->Prop}(h:∃a b,p a b/\q a b/\r a b)(k:∀a b,p a b->q a b->r a b->X):X:=by obtain⟨a,b,m,n,o⟩:=h;exact k a b m n o
theorem uU{p q r P:A->B->Prop}(h:∃a b,p a b/\q a b/\r a b/\P a b)(k:∀a b,p a b->q a b->r a b->P a b->X):X:=by obtain⟨a,b,m,n,o,s⟩:=h;exact k a b m n o s
theorem Fq{p q r P Q R:A->B->Prop}(h:∃a b,p a b/\q a b/\r a b/\P a b/\Q a b/\R a b)(k:∀a b,p a b->q a b->r a b->P a b->Q a b->R a b->X):X:=by obtain⟨a,b,m,n,o,s,t,u⟩:=h;exact k a b m n o s t u
theorem UR{p:A->B->C->Prop}(h:∃a b c,p a b c)(k:∀a b c,p a b c->X):X:=by obtain⟨a,b,c,m⟩:=h;exact k a b c m
theorem B4{p q:A->B->C->Prop}(h:∃a b c,p a b c/\q a b c)(k:∀a b c,p a b c->q a b c->X):X:=by obtain⟨a,b,c,m,n⟩:=h;exact k a b c m n
theorem Fp{p q r P:A->B->C->Prop}(h:∃a b c,p a b c/\q a b c/\r a b c/\P a b c)(k:∀a b c,p a b c->q a b c->r a b c->P a b c->X):X:=by obtain⟨a,b,c,m,n,o,s⟩:=h;exact k a b c m n o s
theorem B3{p q r P Q:A->B->C->Prop}(h:∃a b c,p a b c/\q a b c/\r a b c/\P a b c/\Q a b c)(k:∀a b c,p a b c->q a b c->r a b c->P a b c->Q a b c->X):X:=by obtain⟨a,b,c,m,n,o,s,t⟩:=h;exact k a b c m n o s t
theorem UQ{p q r P Q R:A->B->C->Prop}(h:∃a b c,p a b c/\q a b c/\r a b c/\P a b c/\Q a b c/\R a b c)(k:∀a b c,p a b c->q a b c->r a b c->P a b c->Q a b c->R a b c->X):X:=by obtain⟨a,b,c,m,n,o,s,t,u⟩:=h;exact k a b c m n o s t u
theorem Fm{p q r:A->B->C->D->Prop}(h:∃a b c d,p a b c d/\q a b c d/\r a b c d)(k:∀a b c d,p a b c d->q a b c d->r a b c d->X):X:=by obtain⟨a,b,c,d,m,n,o⟩:=h;exact k a b c d m n o
theorem UP{p q r P:A->B->C->D->Prop}(h:∃a b c d,p a b c d/\q a b c d/\r a b c d/\P a b c d)(k:∀a b c d,p a b c d->q a b c d->r a b c d->P a b c d->X):X:=by obtain⟨a,b,c,d,m,n,o,s⟩:=h;exact k a b c d m n o s
theorem UO{p q r P Q:A->B->C->D->Prop}(h:∃a b c d,p a b c d/\q a b c d/\r a b c d/\P a b c d/\Q a b c d)(k:∀a b c d,p a b c d->q a b c d->r a b c d->P a b c d->Q a b c d->X):X:=by obtain⟨a,b,c,d,m,n,o,s,t⟩:=h;exact k a b c d m n o s t
theorem B1{p q r:A->B->C->D->E->Prop}(h:∃a b c d e,p a b c d e/\q a b c d e/\r a b c d e)(k:∀a b c d e,p a b c d e->q a b c d e->r a b c d e->X):X:=by obtain⟨a,b,c,d,e,m,n,o⟩:=h;exact k a b c d e m n o
theorem UN{p q r P Q:A->B->C->D->E->Prop}(h:∃a b c d e,p a b c d e/\q a b c d e/\r a b c d e/\P a b c d e/\Q a b c d e)(k:∀a b c d e,p a b c d e->q a b c d e->r a b c d e->P a b c d e->Q a b c d e->X):X:=by obtain⟨a,b,c,d,e,m,n,o,s,t⟩:=h;exact k a b c d e m n o s t
theorem UM{p q r P Q R:A->B->C->D->E->F->G->H->Prop}(h:∃a b c d e f g i,p a b c d e f g i/\q a b c d e f g i/\r a b c d e f g i/\P a b c d e f g i/\Q a b c d e f g i/\R a b c d e f g i)(k:∀a b c d e f g i,p a b c d e f g i->q a b c d e f g i->r a b c d e f g i->P a b c d e f g i->Q a b c d e f g i->R a b c d e f g i->X):X:=by obtain⟨a,b,c,d,e,f,g,i,m,n,o,s,t,u⟩:=h;exact k a b c d e f g i m n o s t u
theorem Ft{p q r P Q:A->B->C->D->E->F->G->H->I->J->Prop}(h:∃a b c d e f g i j l,p a b c d e f g i j l/\q a b c d e f g i j l/\r a b c d e f g i j l/\P a b c d e f g i j l/\Q a b c d e f g i j l)(k:∀a b c d e f g i j l,p a b c d e f g i j l->q a b c d e f g i j l->r a b c d e f g i j l->P a b c d e f g i j l->Q a b c d e f g i j l->X):X:=by obtain⟨a,b,c,d,e,f,g,i,j,l,m,n,o,s,t⟩:=h;exact k a b c d e f g i j l m n o s t
theorem Aa{p:A->B->Prop}(a:A)(b:B)(h:p a b):∃a b,p a b:=⟨a,b,h⟩
theorem xi3{p:A->B->C->Prop}(a:A)(b:B)(c:C)(h:p a b c):∃a b c,p a b c:=⟨a,b,c,h⟩
theorem xi4{p:A->B->C->D->Prop}(a:A)(b:B)(c:C)(d:D)(h:p a b c d):∃a b c d,p a b c d:=⟨a,b,c,d,h⟩
theorem xi5{p:A->B->C->D->E->Prop}(a:A)(b:B)(c:C)(d:D)(e:E)(h:p a b c d e):∃a b c d e,p a b c d e:=⟨a,b,c,d,e,h⟩
theorem xi8{p:A->B->C->D->E->F->G->H->Prop}(a:A)(b:B)(c:C)(d:D)(e:E)(f:F)(g:G)(i:H)(h:p a b c d e f g i):∃a b c d e f g i,p a b c d e f g i:=⟨a,b,c,d,e,f,g,i,h⟩
theorem aae{p:A->B->C->D->E->F->G->H->I->J->Prop}(a:A)(b:B)(c:C)(d:D)(e:E)(f:F)(g:G)(i:H)(j:I)(l:J)(h:p a b c d e f g i j l):∃a b c d e f g i j l,p a b c d e f g i j l:=⟨a,b,c,d,e,f,g,i,j,l,h⟩
end
section
variable{i j:Nat}{o:Obj}{b:Heap}{done:List (Int×Str)}{l:List Obj}
noncomputable abbrev dO(es:Array bI)(ep:Nat):Obj:={cls:=.type "dict",data:=.dict es ep}
noncomputable def HB(b:Heap)(l:List Obj):Heap:=⟨b.objs++l.toArray,b.life⟩
theorem Dn(b:Heap)(l:List Obj):(HB b l).objs.size=b.objs.size+l.length:=by simp[HB]
theorem T5(b:Heap):HB b []=b:=by simp[HB]
theorem Dp(b:Heap)(l:List Obj)(o:Obj):(HB b l).push o=HB b (l++[o]):=by
 simp[HB,Heap.push]
theorem pT(hj:l[j]?=aa o)(hf:o.isFreed=false):(HB b l).get? (b.objs.size+j)=aa o:=by
 have e:(HB b l).objs[b.objs.size+j]?=aa o:=by
  show(b.objs++l.toArray)[b.objs.size+j]?=aa o;rw[Array.getElem?_append_right (by lia)];simpa using hj
 unfold Heap.get?;rw[e];obtain⟨c,d,dt,sl⟩:=o;cases dt<;>first|rfl|cases hf
theorem T2(f:Obj->Obj):(HB b l).update (b.objs.size+j) f=HB b (l.modify j f):=by
 simp only[HB,Heap.update,Heap.mk.injEq,and_true];apply Array.ext_getElem?;intro i;rw[Array.getElem?_modify];by_cases h:i<b.objs.size
 ·have:¬(b.objs.size+j=i):=by lia
  simp[h,this,Array.getElem?_append]
 ·simp only[Array.getElem?_append,h,if_false,bH,List.getElem?_modify]
  by_cases e:b.objs.size+j=i
  ·subst e
   simp
  ·have:¬(j=i-b.objs.size):=by lia
   simp[e,this]
inductive EA:List bI->List (Int×Str)->Prop
 |nil:EA [] []
 |cons {e es q qs}:(∃t u,e=⟨hashInt q.1,.int q.1 t,.str q.2 u⟩)->EA es qs->EA (e::es) (q::qs)
theorem EA.append{es qs sy qs'}(a:EA es qs)(h:EA sy qs'):EA (es++sy) (qs++qs'):=by
 induction a with
 |nil=>exact h
 |cons a _ ih=>exact .cons a ih
theorem EA.length{es qs}(a:EA es qs):es.length=qs.length:=by
 induction a with
 |nil=>rfl
 |cons _ _ ih=>exact congrArg Nat.succ ih
theorem EA.mem{es: List bI}{qs: List (Int×Str)}{e: bI}(a:EA es qs)(h:e∈es):∃q∈qs,∃t u,e=⟨hashInt q.1,.int q.1 t,.str q.2 u⟩:=by
 induction a with
 |nil=>exact absurd h List.not_mem_nil
 |cons a _ ih =>
  rcases List.mem_cons.mp h with rfl|h
  ·exact⟨_,.head _,a⟩
  ·refine aR (ih h) λq hq r=>?_
   exact⟨q,.tail _ hq,r⟩
theorem EA.keys{es: Array bI}{qs}(h:EA es.toList qs):IntKeys es:=by
 intro e he;obtain⟨q,_,t,u,rfl⟩:=h.mem (Array.mem_toList_iff.mpr he);exact Aa _ _ ⟨U,U⟩
theorem EA.get{es: List bI}{qs: List (Int×Str)}{e: bI}(a:EA es qs)(h:es[i]?=aa e):∃q,qs[i]?=aa q/\∃t u,e=⟨hashInt q.1,.int q.1 t,.str q.2 u⟩:=by
 induction a generalizing i with
 |nil=>cases h
 |cons a _ ih =>
  cases i with
  |zero=>cases h;exact⟨_,U,a⟩
  |succ i=>exact ih h
section
variable{prog:cY}{w:cW}{A:bZ}{E:aq->aA->Prop}{s:aA}
theorem find_none{d: Addr}{es: Array bI}{ep: Nat}{qs: List (Int×Str)}{k: Int}{t:Tok}{Q:Option Nat->aA->Prop}
  (ho:s.heap.get? d=aa (dO es ep)) (h:EA es.toList qs) (hk:∀q∈qs,q.1≠k) (hQ:Q none s):
  aH (ba prog w) A (dictFind d (.int k t) (hashInt k)) Q E s:=by
 refine wpAny_dictFind_int ho U h.keys ?_;have:es.findIdx? (λe=>fb k e.key)=none:=by
  rw[Array.findIdx?_eq_none_iff];intro e he;obtain⟨q,hq,t,u,rfl⟩:=h.mem (Array.mem_toList_iff.mpr he);show(q.1==k)=false;exact beq_eq_false_iff_ne.mpr (hk q hq)
 rw[this];exact hQ
theorem Cw{part: Option aq}{b: Heap}{l: List Obj}{j: Nat}{es: Array bI}{ep: Nat}{qs: List (Int×Str)}{k: Int}{t u:Tok}{v: Str}{Q:Unit->aA->Prop}
  (hs:s.heap=HB b l) (hj:l[j]?=aa (dO es ep)) (h:EA es.toList qs) (hk:∀q∈qs,q.1≠k) (hz:es.size<=bC)
  (hQ:Q () {s with heap:=HB b (l.set j (dO (es.push ⟨hashInt k,.int k t,.str v u⟩) (ep+1)))}):
  aH (ba prog w) A (updateDictKeys (b.objs.size+j) (·.push ⟨hashInt k,.int k t,.str v u⟩) part) Q E s:=by
 have hg:s.heap.get? (b.objs.size+j)=aa (dO es ep):=by rw[hs];exact pT hj U
 refine wpAny_updateDictKeys hg U ?_ hz;rw[hs,T2];have:l.modify j (Obj.mapDictKeys λx=>x.push ⟨hashInt k,.int k t,.str v u⟩)=l.set j (dO (es.push ⟨hashInt k,.int k t,.str v u⟩) (ep+1)):=by
  rw[@List.modify_eq_set Obj ⟨dO es ep⟩ _ j l,hj];rfl
 rw[this];exact hQ
structure Mk2(p:Sem aq×Sem aq)(q:Int×Str):Prop where
 k:∀{M:gw}{A:bZ}{E:aq->aA->Prop}{s:aA}{Q:aq->aA->Prop},Q (.int q.1 s.toks) {s with toks:=s.toks+1}->aH M A p.1 Q E s
 v:∀{M:gw}{A:bZ}{E:aq->aA->Prop}{s:aA}{Q:aq->aA->Prop},Q (.str q.2 s.toks) {s with toks:=s.toks+1}->aH M A p.2 Q E s
inductive jw:List (Sem aq×Sem aq)->List (Int×Str)->Prop
 |nil:jw [] []
 |cons {p ps q qs}:Mk2 p q->jw ps qs->jw (p::ps) (q::qs)
theorem jw.length{ps qs}(a:jw ps qs):ps.length=qs.length:=by
 induction a with
 |nil=>rfl
 |cons _ _ ih=>exact congrArg Nat.succ ih
theorem jw.snoc{ps qs p q}(a:jw ps qs)(h:Mk2 p q):jw (ps++[p]) (qs++[q]):=by
 induction a with
 |nil=>exact .cons h .nil
 |cons a _ ih=>exact .cons a ih
theorem set_same(hj:l[j]?=aa o):l.set j o=l:=by
 obtain⟨i8,hv⟩:=List.getElem?_eq_some_iff.mp hj;rw[←hv];exact List.set_getElem_self i8
theorem get_set{p: Obj}(hj:l[j]?=aa o):(l.set j p)[j]?=aa p:=by
 obtain⟨i8,_⟩:=List.getElem?_eq_some_iff.mp hj;simp[i8]
theorem CG{qs: List (Int×Str)}{q: Int×Str}(hn:((done++q::qs).map (·.1)).Nodup):∀x∈done,x.1≠q.1:=by
 intro x hx e;rw[bG,List.nodup_append]at hn;exact hn.2.2 _ (List.mem_map.mpr ⟨x,hx,U⟩) _ (List.mem_map.mpr ⟨q,.head _,U⟩) e
theorem yq{es: Array bI}{qs: List (Int×Str)}{q: Int×Str}(h:EA es.toList done)(hz:done.length+(q::qs).length<=1000):es.size<=bC:=by
 have:=h.length;rw[du]at this;rw[fz];rw[cL]at hz;lia
theorem Cx{es: Array bI}{q: Int×Str}{t u:Tok}(h:EA es.toList done):EA (es.push ⟨hashInt q.1,.int q.1 t,.str q.2 u⟩).toList (done++[q]):=by
 rw[Array.toList_push];exact h.append (.cons ⟨_,_,U⟩ .nil)
theorem G_{qs: List (Int×Str)}{q: Int×Str}(hz:done.length+(q::qs).length<=1000):(done++[q]).length+qs.length<=1000:=by
 rw[aB];rw[cL]at hz;show done.length+1+_<=_;lia
theorem wy(done qs:List (Int×Str))(q:Int×Str):done++[q]++qs=done++q::qs:=by rw[bh];rfl
theorem rT{b: Heap}{l: List Obj}{j: Nat}{es: Array bI}{ep: Nat}{qs: List (Int×Str)}{k: Int}{t u:Tok}{v: Str}{Q:Unit->aA->Prop}
  (hs:s.heap=HB b l) (hj:l[j]?=aa (dO es ep)) (h:EA es.toList qs) (hk:∀q∈qs,q.1≠k) (hz:es.size<=bC)
  (hQ:Q () {s with heap:=HB b (l.set j (dO (es.push ⟨hashInt k,.int k t,.str v u⟩) (ep+1))),toks:=s.toks+1}):
  aH (ba prog w) A (dictSet (b.objs.size+j) (.int k t) (.str v u)) Q E s:=by
 unfold dictSet;refine aQ (ae (wpAny_pyHash_int ?_));unfold dictSetHashed;refine aQ (ae ?_);refine find_none (s:={s with toks:=s.toks+1}) (by show s.heap.get? _=_;rw[hs];exact pT hj U) h hk ?_;exact ae (fU (Cw (s:={s with toks:=s.toks+1}) hs hj h hk hz hQ))
theorem fill{b: Heap}{j: Nat}{ps: List (Sem aq×Sem aq)}{qs: List (Int×Str)}(V:jw ps qs):∀(done:List (Int×Str)) (l:List Obj) (es:Array bI) (ep:Nat) (s:aA) {Q:PUnit->aA->Prop},
  s.heap=HB b l->l[j]?=aa (dO es ep)->EA es.toList done->((done++qs).map (·.1)).Nodup->done.length+qs.length<=1000 ->
  (∀sy zw tk,EA sy.toList (done++qs)->Q ⟨⟩ {s with heap:=HB b (l.set j (dO sy zw)),toks:=tk}) ->
  aH (ba prog w) A (forIn ps PUnit.unit λ(x:Sem aq×Sem aq)(_:PUnit)=>do
   let kv ←x.1
   let vv ←h_ [kv] x.2
   h_ [kv,vv] (dictSet (b.objs.size+j) kv vv)
   pure (fy PUnit.unit)) Q E s:=by
 induction V with
 |nil =>
  intro done l es ep s Q hs hj h hn hz hQ;have:=hQ es ep s.toks (by rwa [bV]);rw[set_same hj,←hs]at this;exact av this
 |@cons p ps q qs hp hps ih =>
  intro done l es ep s Q hs hj h hn hz hQ;rw[dC];refine ae (ae (hp.k (ae (aQ (hp.v (ae (aQ ?_)))))));refine rT (s:={s with toks:=s.toks+1+1}) hs hj h (CG hn) (yq h hz) (av ?_);refine ih (done++[q]) _ _ _ {s with heap:=_,toks:=s.toks+1+1+1} U (get_set hj) (Cx h) (by rwa [wy]) (G_ hz) λsy zw tk he=>?_;rw[wy]at he;rw[List.set_set];exact hQ sy zw tk he
theorem xm{M:gw}{n: Nat}{f:Nat->PUnit->Sem (ForInStep PUnit)}{Q:PUnit->aA->Prop}(I:Nat->aA->Prop)
  (step:∀i s,i<n->I i s->aH M A (f i ⟨⟩) (λr s'=>r=.yield ⟨⟩/\I (i+1) s') E s):
  ∀m i s,i+m=n->I i s->(∀s',I n s'->Q ⟨⟩ s')->aH M A (forIn (List.range' i m) PUnit.unit f) Q E s:=by
 intro m
 induction m with
 |zero =>
  intro i s h hi hQ;cases h;exact av (hQ _ hi)
 |succ m ih =>
  intro i s h hi hQ;rw[List.range'_succ,dC];refine ae (dz (step i s (by lia) hi) (λr s' hr=>?_) λzz zz x=>x);rw[hr.1];exact ih (i+1) s' (by lia) hr.2 hQ
theorem D6{b: Heap}{l: List Obj}{j: Nat}{es fs: Array bI}{ep fp: Nat}{done qs: List (Int×Str)}{Q:Unit->aA->Prop}
  (hb:2<=b.objs.size) (hs:s.heap=HB b l) (h0:l[0]?=aa (dO es ep)) (hj:l[j]?=aa (dO fs fp)) (hj0:j≠0) (he:EA es.toList done) (hf:EA fs.toList qs) (su:done≠[])
  (hn:((done++qs).map (·.1)).Nodup) (hz:done.length+qs.length<=1000)
  (hQ:∀sy zw tk,EA sy.toList (done++qs)->Q () {s with heap:=HB b (l.set 0 (dO sy zw)),toks:=tk}):
  aH (ba prog w) A (mergeMapping (b.objs.size+0) (.ref (b.objs.size+j)) false) Q E s:=by
 have g0:s.heap.get? (b.objs.size+0)=aa (dO es ep):=by rw[hs];exact pT h0 U
 have gj:s.heap.get? (b.objs.size+j)=aa (dO fs fp):=by rw[hs];exact pT hj U
 have hT:s.TypeIs (.ref (b.objs.size+j)) "dict":=⟨_,gj,U⟩;unfold mergeMapping;refine ae (gR hT isSubtype_dict_dict ?_);rw[if_pos U];refine ae (jN hT F.slot_dict_iter.lookup ?_);refine ae (av ?_);rw[beq_self_eq_true];dsimp only;have abB:(b.objs.size+j==sysModules)=false:=beq_eq_false_iff_ne.mpr (by show b.objs.size+j≠1;lia);rw[abB,if_neg aN];refine ae (wpAny_dictEntries g0 U ?_);have abQ:es.isEmpty=false:=by
  have:=he.length;rw[du]at this;cases done with
  |nil=>exact absurd U su
  |cons=>simp only[Array.isEmpty,decide_eq_false_iff_not];rw[this];simp
 rw[abQ,if_neg aN];refine ae (wpAny_dictEntries gj U ?_);refine ae (wpAny_dictEpoch gj U ?_);rw[List.range_eq_range'];have Od:∀o:Obj,(l.set 0 o)[j]?=aa (dO fs fp):=λo=>by rw[List.getElem?_set_ne (Ne.symm hj0)];exact hj
 have h0':∀o:Obj,(l.set 0 o)[0]?=aa o:=λo=>by
  refine iH (List.getElem?_eq_some_iff.mp h0) λi8 zz=>?_;simp[i8]
 refine ae (xm (n:=fs.size) (λi s'=>∃sy zw tk,EA sy.toList (done++qs.take i)/\s'={s with heap:=HB b (l.set 0 (dO sy zw)),toks:=tk}) ?_ _ 0 s (by lia) ⟨es,ep,s.toks,by rw[List.take_zero,bV];exact he,?_⟩ ?_)
 ·intro i s' hi XX
  refine dH λlg eS=>?_;obtain⟨sy,zw,tk,Mp,rfl⟩:=XX;have hfi:fs[i]?=aa fs[i]:=iG hi;obtain⟨q,hq,t,u,hqe⟩:=hf.get (i:=i) (e:=fs[i]) (by simpa using hi);refine eS ?_;refine ae (wpAny_dictEntries (o:=dO fs fp) (pT (Od _) U) U ?_);rw[hfi,hqe];dsimp only;refine ae (aQ ?_);unfold dictPut;have hnd:∀x∈done++qs.take i,x.1≠q.1:=by
   intro x hx e;have hsp:done++qs=(done++qs.take i)++q::qs.drop (i+1):=by
    rw[bh]
    congr 1
    have:=hG i qs;rw[←this]
    congr 1
    ·simp
    ·simp
     rw[←List.getElem?_eq_some_iff.mp hq |>.2];exact mR _
   rw[hsp,bG,List.nodup_append]at hn;exact hn.2.2 _ (List.mem_map.mpr ⟨x,hx,U⟩) _ (List.mem_map.mpr ⟨q,.head _,U⟩) e
  refine ae (find_none (d:=b.objs.size+0) (pT (h0' _) U) Mp hnd ?_);refine Cw (j:=0) U (h0' _) Mp hnd ?_ ?_
  ·have:=Mp.length
   rw[du]at this;rw[fz,this];simp only[aB,iC];lia
  ·dsimp only
   refine ae (wpAny_dictEpoch (o:=dO fs fp) (pT ?_ U) U ?_)
   ·rw[List.set_set];exact Od _
   ·rw[bne_self_eq_false,if_neg aN]
    refine av ⟨U,_,_,tk,?_,by rw[List.set_set]⟩;rw[Array.toList_push];have:qs.take (i+1)=qs.take i++[q]:=by rw[List.take_add_one,hq];rfl
    rw[this,←bh];exact Mp.append (.cons ⟨_,_,U⟩ .nil)
 ·have e:l.set 0 (dO es ep)=l:=by
   refine iH (List.getElem?_eq_some_iff.mp h0) λi8 hv=>?_;rw[←hv];exact List.set_getElem_self i8
  rw[e,←hs]
 ·intro s' Px
  refine B4 (Px) λsy zw tk Mp Pa=>?_;obtain rfl:=Pa;refine av (hQ sy zw tk ?_);have:fs.size=qs.length:=by have:=hf.length;rwa [du]at this
  rwa [this,List.take_length]at Mp
theorem Gb{b: Heap}{l: List Obj}{ps: List (Sem aq×Sem aq)}{qs: List (Int×Str)}{Q:Addr->aA->Prop}
  (hs:s.heap=HB b l) (hp:jw ps qs) (hl:15<ps.length) (hn:(qs.map (·.1)).Nodup) (hz:qs.length<=1000)
  (hQ:∀es ep tk,EA es.toList qs->Q (b.objs.size+l.length) {s with heap:=HB b (l++[dO es ep]),toks:=tk}):
  aH (ba prog w) A (subDict ps) Q E s:=by
 unfold subDict;refine ae (wpAny_alloc ?_);rw[hs,Dp,Dn];refine ae (aQ ?_);rw[if_neg (by lia)];refine ae (fU ?_);have:=fill (prog:=prog) (w:=w) (A:=A) (E:=E) (b:=b) (j:=l.length) hp [] (l++[dO #[] 0]) #[] 0 {s with heap:=HB b (l++[dO #[] 0])}
  (Q:=λr s'=>Q (b.objs.size+l.length) s') U (by simp) .nil (by simpa using hn) (by simpa using hz) (λes ep tk he=>by
   have:=hQ es ep tk (by simpa using he);simpa using this)
 exact ae (dz this (λzz zz h=>av (av h)) λzz zz h=>h)
inductive VA:List (aq×aq)->List (Int×Str)->Prop
 |nil:VA [] []
 |cons {v vs q qs}:(∃t u,v=(.int q.1 t,.str q.2 u))->VA vs qs->VA (v::vs) (q::qs)
theorem Jn{ps: List (Sem aq×Sem aq)}{qs: List (Int×Str)}(V:jw ps qs):∀(s:aA) {Q:List (aq×aq)->aA->Prop},
  (∀vs tk,VA vs qs->Q vs {s with toks:=tk})->aH (ba prog w) A (evalPairs ps) Q E s:=by
 induction V with
 |nil=>intro s Q hQ;exact evalPairs_nil (hQ [] s.toks .nil)
 |cons hp hps ih=>intro s Q hQ;exact evalPairs_cons (hp.k (hp.v (ih _ λvs tk hv=>hQ _ tk (.cons ⟨_,_,U⟩ hv))))
theorem Y5{b: Heap}{j: Nat}{vs: List (aq×aq)}{qs: List (Int×Str)}(V:VA vs qs):∀(done:List (Int×Str)) (l:List Obj) (es:Array bI) (ep:Nat) (s:aA) {Q:PUnit->aA->Prop},
  s.heap=HB b l->l[j]?=aa (dO es ep)->EA es.toList done->((done++qs).map (·.1)).Nodup->done.length+qs.length<=1000 ->
  (∀sy zw tk,EA sy.toList (done++qs)->Q ⟨⟩ {s with heap:=HB b (l.set j (dO sy zw)),toks:=tk}) ->
  aH (ba prog w) A (forIn vs PUnit.unit λ(x:aq×aq)(_:PUnit)=>do
   dictSet (b.objs.size+j) x.1 x.2
   pure (fy PUnit.unit)) Q E s:=by
 induction V with
 |nil =>
  intro done l es ep s Q hs hj h hn hz hQ;have:=hQ es ep s.toks (by rwa [bV]);rw[set_same hj,←hs]at this;exact av this
 |@cons v vs q qs hv hvs ih =>
  intro done l es ep s Q hs hj h hn hz hQ;obtain⟨t,u,rfl⟩:=hv;rw[dC];refine ae (ae (rT hs hj h (CG hn) (yq h hz) (av ?_)));refine ih (done++[q]) _ _ _ {s with heap:=_,toks:=s.toks+1} U (get_set hj) (Cx h) (by rwa [wy]) (G_ hz) λsy zw tk he=>?_;rw[wy]at he;rw[List.set_set];exact hQ sy zw tk he
theorem sub_short{b: Heap}{l: List Obj}{ps: List (Sem aq×Sem aq)}{qs: List (Int×Str)}{Q:Addr->aA->Prop}
  (hs:s.heap=HB b l) (hp:jw ps qs) (hl:ps.length<=15) (hn:(qs.map (·.1)).Nodup) (hz:qs.length<=1000)
  (hQ:∀es ep tk,EA es.toList qs->Q (b.objs.size+l.length) {s with heap:=HB b (l++[dO es ep]),toks:=tk}):
  aH (ba prog w) A (subDict ps) Q E s:=by
 unfold subDict;refine ae (wpAny_alloc ?_);rw[hs,Dp,Dn];refine ae (aQ ?_);rw[if_pos hl];refine ae (Jn hp _ λvs tk hv=>?_);refine aQ ?_;have:=Y5 (prog:=prog) (w:=w) (A:=A) (E:=E) (b:=b) (j:=l.length) hv [] (l++[dO #[] 0]) #[] 0 {s with heap:=HB b (l++[dO #[] 0]),toks:=tk}
  (Q:=λr s'=>Q (b.objs.size+l.length) s') U (by simp) .nil (by simpa using hn) (by simpa using hz) (λes ep tk he=>by
   have:=hQ es ep tk (by simpa using he);simpa using this)
 exact ae (dz this (λzz zz h=>av (av h)) λzz zz h=>h)
theorem Cf{b: Heap}{l: List Obj}{ps: List (Sem aq×Sem aq)}{qs: List (Int×Str)}{Q:Addr->aA->Prop}
  (hs:s.heap=HB b l) (hp:jw ps qs) (hn:(qs.map (·.1)).Nodup) (hz:qs.length<=1000)
  (hQ:∀es ep tk,EA es.toList qs->Q (b.objs.size+l.length) {s with heap:=HB b (l++[dO es ep]),toks:=tk}):
  aH (ba prog w) A (subDict ps) Q E s:=by
 by_cases h:ps.length<=15
 ·exact sub_short hs hp h hn hz hQ
 ·exact Gb hs hp (by lia) hn hz hQ
theorem forIn_list{M:gw}{α β:Type}{f:α->β->Sem (ForInStep β)}{Q:β->aA->Prop}(all:List α)(I:List α->β->aA->Prop)
  (step:∀pre x Wg b s,all=pre++x::Wg->I pre b s->aH M A (f x b) (λr s'=>∃b',r=.yield b'/\I (pre++[x]) b' s') E s):
  ∀xs pre b s,all=pre++xs->I pre b s->(∀b s',I all b s'->Q b s')->aH M A (forIn xs b f) Q E s:=by
 intro xs
 induction xs with
 |nil =>
  intro pre b s ha hi hQ;rw[bV]at ha;exact av (hQ _ _ (ha▸hi))
 |cons x xs ih =>
  intro pre b s ha hi hQ;rw[dC];refine ae (dz (step pre x xs b s ha hi) (λr s' hr=>?_) λzz zz x=>x);obtain⟨b',rfl,hr⟩:=hr;exact ih (pre++[x]) b' s' (by rw[ha,bh];rfl) hr hQ
structure ZT(b:Heap)(s:aA)(done cur:List (Int×Str))(main:Option Addr)(run:List (Sem aq×Sem aq))(l:List Obj)(s':aA):Prop where
 run:jw run cur
 heap:∃tk,s'={s with heap:=HB b l,toks:=tk}
 main:(main=none/\done=[]/\l=[])∨(main=aa (b.objs.size+0)/\done≠[]/\∃es ep,l[0]?=aa (dO es ep)/\EA es.toList done)
 count:done.length=17*l.length
theorem zp{b: Heap}{s s': aA}{done cur: List (Int×Str)}{main: Option Addr}{run: List (Sem aq×Sem aq)}{l: List Obj}{H:Addr->Addr->aq->Sem Unit}{Q:Option Addr->aA->Prop}
  (hb:2<=b.objs.size) (I:ZT b s done cur main run l s') (hc:cur≠[]) (hn:((done++cur).map (·.1)).Nodup) (hz:done.length+cur.length<=1000)
  (hQ:∀es ep l' tk,EA es.toList (done++cur)->l'[0]?=aa (dO es ep)->l'.length=l.length+1->Q (aa (b.objs.size+0)) {s with heap:=HB b l',toks:=tk}):
  aH (ba prog w) A (if run.isEmpty=af then pure main else match main with
   |none=>do
    let a ←subDict run
    pure (aa a)
   |some d=>do
    let sub ←h_ [b9 d] (subDict run)
    (h_ [b9 d,b9 sub] (mergeMapping d (b9 sub) false)).onRaise (H d sub)
    pure (aa d)) Q E s':=by
 have dw:=I.run.length;have hre:run.isEmpty=false:=by
  cases run with
  |nil=>cases cur with
   |nil=>exact absurd U hc
   |cons=>cases dw
  |cons=>rfl
 rw[hre];rw[if_neg aN];refine iH (I.heap) λtk Pf=>?_;obtain rfl:=Pf;have hnc:(cur.map (·.1)).Nodup:=by
  rw[bG,List.nodup_append]at hn;exact hn.2.1
 rcases I.main with⟨rfl,rfl,rfl⟩|⟨rfl,hd,es,ep,h0,he⟩
 ·dsimp only
  refine ae (Cf (s:={s with heap:=HB b [],toks:=tk}) U I.run hnc (by simpa using hz) λes ep Ab he=>?_);refine av ?_;exact hQ es ep [dO es ep] Ab he U U
 ·dsimp only
  refine ae (aQ (Cf (s:={s with heap:=HB b l,toks:=tk}) U I.run hnc (by lia) λfs fp Ab hf=>?_));refine iH (List.getElem?_eq_some_iff.mp h0) λi8 hv=>?_;refine ae (wpAny_onRaise (aQ ?_));refine D6 (s:={s with heap:=HB b (l++[dO fs fp]),toks:=Ab}) (j:=l.length) (fs:=fs) (fp:=fp) hb U (by rw[mQ i8];exact h0) (by simp) (by lia) he hf hd hn hz λsy zw aaz he'=>?_;refine av ?_;refine hQ sy zw ((l++[dO fs fp]).set 0 (dO sy zw)) aaz he' ?_ (by simp);have:0<(l++[dO fs fp]).length:=by simp
  simp
theorem jw.get{ps: List (Sem aq×Sem aq)}{qs: List (Int×Str)}{p: Sem aq×Sem aq}(a:jw ps qs)(h:ps[i]?=aa p):∃q,qs[i]?=aa q/\Mk2 p q:=by
 induction a generalizing i with
 |nil=>cases h
 |cons a _ ih =>
  cases i with
  |zero=>cases h;exact⟨_,U,a⟩
  |succ i=>exact ih h
theorem display{ps: List (Sem aq×Sem aq)}{qs: List (Int×Str)}{Q:aq->aA->Prop}(hb:2<=s.heap.objs.size)
  (hp:jw ps qs) (h0:qs≠[]) (hn:(qs.map (·.1)).Nodup) (hz:qs.length<=1000) (hm:qs.length % 17≠0)
  (hQ:∀es ep l tk,EA es.toList qs->l[0]?=aa (dO es ep)->l.length=qs.length/17+1->Q (.ref (s.heap.objs.size+0)) {s with heap:=HB s.heap l,toks:=tk}):
  aH (ba prog w) A (dictDisplay (ps.map λp=>(aa p.1,p.2))) Q E s:=by
 unfold dictDisplay;dsimp only;refine ae (forIn_list (ps.map λp=>(aa p.1,p.2)) (λpre st s'=>∃done cur l,ZT s.heap s done cur st.1 st.2 l s'/\cur.length<17/\pre.length=done.length+cur.length/\∃c8,qs=done++cur++c8) ?_ _ [] _ s U ?_ ?_)
 ·rintro pre x Wg ⟨main,run⟩ s' SX ⟨done,cur,l,I,i8,rN,c8,IZ⟩
  have hx:(ps.map λp=>((aa p.1:Option (Sem aq)),p.2))[pre.length]?=aa x:=by rw[SX];simp
  rw[cM]at hx;refine aR (Option.map_eq_some_iff.mp hx) λp hpp Pr=>?_;obtain rfl:=Pr;refine aR (hp.get hpp) λq hq hmk=>?_;have hqr:∃ve,c8=q::ve:=by
   rw[IZ,rN,bh,←bh,←aB,List.getElem?_append_right (aW _),Nat.sub_self]at hq;cases c8 with
   |nil=>cases hq
   |cons a r=>simp at hq;subst hq;exact⟨r,U⟩
  refine iH (hqr) λve An=>?_;obtain rfl:=An;dsimp only;have dw:run.length=cur.length:=I.run.length;have Ep:jw (run++[(p.1,p.2)]) (cur++[q]):=I.run.snoc hmk;by_cases h17:run.length+1=17
  ·have e17:((run++[(p.1,p.2)]).length==17)=af:=by simp[h17]
   rw[e17];rw[if_pos U];have X_:((done++(cur++[q])).map (·.1)).Nodup:=by
    rw[IZ,show done++cur++q::ve=(done++(cur++[q]))++ve by simp,bG,List.nodup_append]at hn;exact hn.1
   have hz':done.length+(cur++[q]).length<=1000:=by
    rw[IZ]at hz;simp only[aB,cL,jj]at hz ⊢;lia
   refine ae (zp hb ⟨Ep,I.heap,I.main,I.count⟩ (by simp) X_ hz' λes ep l' tk he h0 hl=>?_);refine av ⟨_,U,done++(cur++[q]),[],l',⟨.nil,⟨tk,U⟩,.inr ⟨U,by simp,es,ep,h0,he⟩,?_⟩,by simp,?_,ve,by rw[IZ];simp⟩
   ·have:=I.count
    simp only[aB,cL,jj];lia
   ·simp only[aB,cL,jj];lia
  ·have acx:cur.length+1≠17:=by lia
   have e17:((run++[(p.1,p.2)]).length==17)=false:=beq_eq_false_iff_ne.mpr (by simpa using h17);rw[e17];rw[if_neg aN];refine av ⟨_,U,done,cur++[q],l,⟨Ep,I.heap,I.main,I.count⟩,?_,?_,ve,by rw[IZ];simp⟩
   ·simp only[aB,cL,jj];lia
   ·simp only[aB,cL,jj];lia
 ·refine xi3 [] [] [] ⟨⟨.nil,⟨s.toks,by rw[T5]⟩,.inl ⟨U,U,U⟩,U⟩,by simp,U,qs,U⟩
 ·intro XW s' XU
  refine dH λM' up1=>?_;obtain⟨main,run⟩:=XW;obtain⟨done,cur,l,I,i8,rN,c8,IZ⟩:=XU;have hr:c8=[]:=by
   have h1:=hp.length;rw[aG]at rN;rw[h1,IZ]at rN;simp only[aB]at rN;exact List.length_eq_zero_iff.mp (by lia)
  subst hr;refine up1 ?_;rw[bV]at IZ;have hl:=congrArg List.length IZ;rw[aB]at hl;have Yw:cur≠[]:=by
   rintro rfl;have:=I.count;simp only[jj]at hl;lia
  dsimp only;refine ae (zp hb I Yw (IZ▸hn) (by lia) λes ep l' tk he h0 Oc=>?_);dsimp only;refine av (hQ es ep l' tk (IZ▸he) h0 ?_);have:=I.count;have:cur.length≠0:=λe=>Yw (List.length_eq_zero_iff.mp e);lia
end
end
section
variable{s s':aA}{n:Nat}{q:Pos}{f g:Flow}
section
variable{p:cY}{w:cW}{n₀:Nat}{ann:Option aq}
theorem yi{t:Thread}(h:through t=af):∃f c q,t=⟨.pure (.done f),c,q,[]⟩:=by
 obtain⟨cur,code,pos,stack⟩:=t;cases stack with
 |cons F r=>cases h
 |nil =>
  cases cur with
  |pure x =>
   cases x with
   |done f=>exact⟨_,_,_,U⟩
   |again c=>exact Bool.noConfusion h
  |_=>exact Bool.noConfusion h
theorem qa{c:Code}(hg:s.gens=#[]):step (kY g_) p w s ⟨.pure (.done f),c,q,[]⟩=.halt (.done f) s:=by
 obtain⟨heap,gens,drawn,toks,os⟩:=s;simp only at hg;subst hg;simp[step,finish,leftWithCleanup]
theorem v'{c:Code}:(⟨.pure (.done f),c,q,[]⟩:Thread).calm=af:=by
 simp[Thread.calm,Thread.atCollectorCode,Thread.atExit,Thread.yieldsInsideHandler]
theorem yh:∀{s:aA}{t:Thread}{r:aA},topRun g_ p w n₀ ann n s t=aa r->r.gens=#[] ->
  ∃m f,dU (kY g_) p w m s t=.halted (.done f) r/\∀k cZ my,dU (kY g_) p w k s t=.running cZ my->my.calm=af:=by
 induction n with
 |zero=>intro s t r h _;cases h
 |succ n ih =>
  intro s t r h hg;unfold topRun at h;cases ht:through t with
  |true =>
   rw[ht]at h;obtain rfl:s=r:=bR h;refine UR (yi ht) λf c q Pp=>?_;obtain rfl:=Pp;refine Aa 1 f ⟨?_,λk cZ my hk=>?_⟩
   ·simp only[dU,qa hg]
   ·cases k with
    |zero=>simp only[dU]at hk;injection hk with _ e;exact e▸v'
    |succ k=>simp only[dU,qa hg]at hk;cases hk
  |false =>
   rw[ht]at h;cases hk:stepOk n₀ ann t with
   |false=>rw[hk]at h;cases h
   |true =>
    rw[hk]at h;cases hs:step (kY g_) p w s t with
    |halt o s'=>rw[hs]at h;cases h
    |go s' t' =>
     rw[hs]at h;refine mU (ih h hg) λm f h1 h2=>?_;refine Aa (m+1) f ⟨by simp only[dU,hs];exact h1,λk cZ my zb=>?_⟩;cases k with
     |zero=>simp only[dU]at zb;injection zb with _ e;exact e▸(Bool.and_eq_true_iff.mp hk).1
     |succ k=>simp only[dU,hs]at zb;exact h2 k cZ my zb
theorem v9{r: aA}{t:Sem Fin}{c:Code}{st: List Frame}(h:topRun g_ p w n₀ ann n s ⟨t,c,q,st⟩=aa r)(hg:r.gens=#[]):
  ∃f,Runs (ba p w) (Ctx.of c []) q t st s (.ret (.ok f)) r:=by
 refine mU (yh h hg) λm f h1 h2=>?_;refine aR (runN_calm_runNI _ _ _ h1 h2) λs' h3 h4=>?_;have e:s'=r:=by
  refine(Shared.eq_of_forget_eq h4 ?_).symm;have:=(Shared.forget_eq h4).2.2.2.2;rw[hg]at this;simpa using this.symm
 subst e;have h5:(ba p w).runN m s ⟨t,c,q,st⟩=.halted (outcomeOf (.ok f)) s':=h3;exact⟨f,reach_runs (halted_reach m s t c q st h5).1⟩
theorem AW{α:Type}{x:Sem α}{B: List Frame}{n N: Nat}{s s': aA}{res:α->Flow}{f: Flow}{c c':Code}{pos p': Pos}
  (hB:splitAtGen B=none) (hg:s'.gens=#[])
  (abP:∀(c:Code)(q:Pos),topRun g_ p w n₀ ann N s' ⟨.pure (.done .next),c,q,B⟩=aa s')
  (Yz:∀{Γ:Ctx}{q:Pos}{t:Sem Fin}{s:aA}{g:Flow},Runs (ba p w) (Ctx.of c []) q t B s (.ret (.ok g)) s'->∃g',Runs (ba p w) (Ctx.of c B) q t [] s (.ret (.ok g')) s')
  (h:segRun g_ p w n₀ ann B.length n s ⟨x.wrap (λa=>.pure (.done (res a))) deadEnd id id,c,pos,B⟩=aa (f,s',c',p')):
  Sem.wp (ba p w) (Ctx.of c B) x (λa zz cZ=>res a=f/\cZ=s') (λzz zz zz=>False) pos s:=by
 classical
 let K':α->Sem Fin:=λa=>if res a=f then .pure (.done .next)else .unsupported "another way"
 refine aR (seg_top (res:=res) (K':=K') (H':=Sem.raise) (B:=B) hB n s ⟨x.wrap (λa=>.pure (.done (res a))) deadEnd id id,c,pos,B⟩
  ⟨x.wrap K' Sem.raise id id,c,pos,B⟩ _ _ _ _ ⟨U,U,.inl ⟨U,U,_,U,U⟩⟩ h) λa ha hN=>?_
 have h1:=hN N s' (by
  show topRun g_ p w n₀ ann N s' ⟨if res a=f then .pure (.done .next)else .unsupported "another way",c',p',B⟩=aa s';rw[if_pos ha];exact abP _ _)
 obtain⟨g,h2⟩:=v9 h1 hg;obtain⟨g',h3⟩:=Yz (Γ:=Ctx.of c B) h2;have h4:=(Sem.wp_iff_runs (ba p w) (Ctx.of c B) (x.wrap K' Sem.raise id id) (λr cZ=>r=.ok g'/\cZ=s') pos s).mpr ⟨_,_,h3,U,U⟩;rw[←Sem.bind_eq_wrap,Sem.wp_bind]at h4;refine jE (ba p w) (Ctx.of c B) x (λa q cZ h5=>?_) (λe q cZ h5=>?_) pos s h4
 ·by_cases hr:res a=f
  ·simp only[K',if_pos hr]at h5
   exact⟨hr,h5.2⟩
  ·simp only[K',if_neg hr]at h5
   simp at h5
 ·obtain⟨h6,_⟩:=h5;cases h6
theorem MC(s':aA)(c:Code)(q:Pos):topRun g_ p w n₀ ann 1 s' ⟨.pure (.done .next),c,q,[]⟩=aa s':=rfl
theorem C1(s':aA)(c:Code)(q q':Pos):topRun g_ p w n₀ ann 3 s' ⟨.pure (.done .next),c,q,[ib q']⟩=aa s':=by
 obtain⟨heap,gens,drawn,toks,os⟩:=s';rfl
theorem JQ{c:Code}{t:Sem Fin}(h:Runs (ba p w) (Ctx.of c []) q t [] s (.ret (.ok g)) s'):
  ∃g',Runs (ba p w) (Ctx.of c []) q t [] s (.ret (.ok g')) s':=⟨g,h⟩
def OF(M:gw)(Γ:Ctx)(p:Pos)(t:Sem Fin)(s s':aA)(fs:List Frame)(e:End):Prop:=
 match fs with
 |[.ret k h g l JA GV kp]=>∀R,e=.ret R->∃r cZ,Runs M (Γ.over [.ret k h g l JA GV kp]) p t [] s (.ret r) cZ/\Runs M (Γ.goto JA) GV (k r) [] cZ (.ret R) s'
 |_=>True
theorem Qv{M:gw}{Γ:Ctx}{p: Pos}{t:Sem Fin}{fs: List Frame}{e:End}(H:Runs M Γ p t fs s e s'):OF M Γ p t s s' fs e:=by
 induction H with
 |@segRet Γ p t k h g l JA GV kp fs s r cZ e s' a b _ _ =>
  cases fs with
  |cons F' fs=>trivial
  |nil=>exact λR q=>⟨_,_,a,q▸b⟩
 |@segGen Γ p t g k l JA GV fs s r cZ e s' a b _ _=>cases fs<;>trivial
 |@segSuspOut Γ p t F fs s v ab1 l₀ abr c₀ aaZ Y1 s' h a _ =>
  cases fs with
  |cons F' fs=>cases F<;>trivial
  |nil =>
   cases F with
   |gen=>trivial
   |ret=>exact λR q=>by cases q
 |@segSuspGen Γ p t F fs pre g k JA GV c8 s v ab1 l₀ abr c₀ aaZ Y1 cZ e s' h a q b _ _ =>
  cases fs with
  |cons F' fs=>cases F<;>trivial
  |nil =>
   cases F with
   |gen=>trivial
   |ret=>cases h
 |_=>trivial
theorem MH{M:gw}{Γ:Ctx}{p: Pos}{R:Result}(H:Runs M Γ p (.pure (.done f)) [] s (.ret R) s'):R=.ok f/\s'=s:=
 have h:Except.ok f=R/\s=s':=(Sem.wp_iff_runs M Γ (.pure (.done f)) (λr cZ=>r=R/\cZ=s') p s).mpr ⟨R,s',H,U,U⟩
 ⟨h.1.symm,h.2.symm⟩
theorem GP{M:gw}{Γ:Ctx}{p: Pos}{x: aq}{R:Result}(H:Runs M Γ p (.raise x) [] s (.ret R) s'):Except.error x=R:=
 have h:Except.error x=R/\s=s':=(Sem.wp_iff_runs M Γ (.raise x) (λr cZ=>r=R/\cZ=s') p s).mpr ⟨R,s',H,U,U⟩
 h.1
theorem zN{c:Code}{q': Pos}{t:Sem Fin}(h:Runs (ba p w) (Ctx.of c []) q t [ib q'] s (.ret (.ok g)) s'):
  ∃g',Runs (ba p w) (Ctx.of c [ib q']) q t [] s (.ret (.ok g')) s':=by
 have e:(Ctx.of c []).over [ib q']=Ctx.of c [ib q']:=(Ctx.of_append c [ib q'] []).symm;refine mU ((Qv h:OF _ _ _ _ _ _ [ib q'] _) _ U) λr cZ h1 h2=>?_;cases r with
 |ok f=>exact⟨f,(MH h2).2▸e▸h1⟩
 |error x=>cases GP h2
theorem xi{t:Thread}(hc:∀k cZ my,dU (kY g_) p w k s t=.running cZ my->my.calm=af)(hs:step (kY g_) p w s t=.halt (.done f) s'):through t=af:=by
 have h1:dU (kY g_) p w 1 s t=.halted (.done f) s':=by simp only[dU,hs]
 refine aR (runN_calm_runNI _ _ _ h1 hc) λie h2 zz=>?_;obtain⟨cur,code,pos,stack⟩:=t;have h3:(match(ba p w).step s ⟨cur,code,pos,stack⟩with | .go s' t'=>Run.running s' t' | .halt o s'=>.halted o s')=.halted (.done f) ie:=h2;cases hq:(ba p w).step s ⟨cur,code,pos,stack⟩with
 |go s' t'=>rw[hq]at h3;cases h3
 |halt o s' =>
  rw[hq]at h3;cases h3;refine Fu (step_halt_result (r:=.ok f) hq) λPu Pt zz=>?_;obtain rfl:=Pu;obtain rfl:=Pt;rfl
theorem AY:∀{s r:aA}{t:Thread}{f:Flow},s.asleep->dU (kY g_) p w n s t=.halted (.done f) r ->
  (∀k cZ my,dU (kY g_) p w k s t=.running cZ my->my.calm=af) ->
  (∃k my,schedN (kY g_) p w k (.single s t)=.running (.single r my)/\through my=af)/\r.heap.life=s.heap.life:=by
 induction n with
 |zero=>intro s r t f _ h _;cases h
 |succ n ih =>
  intro s r t f hz h hc;have Yy:t.calm=af:=hc 0 s t U;cases hs:step (kY g_) p w s t with
  |halt o s' =>
   simp only[dU,hs]at h;injection h with h1 h2
   subst h1 h2;cases step_halt_same _ _ _ _ _ _ _ hs;exact⟨⟨0,t,U,xi hc hs⟩,U⟩
  |go s' t' =>
   simp only[dU,hs]at h;have hl:=step_life (kY g_) p w s s' t t' hs;refine lA (ih (Shared.asleep_of_life hl hz) h λk cZ my hk=>hc (k+1) cZ my (by simp only[dU,hs];exact hk)) λPh h3=>?_;obtain⟨k,my,h1,h2⟩:=Ph;have e:sstep (kY g_) p w (.single s t)=.go (.single s' t'):=by
    rcases sstep_single (kY g_) p w s t Yy hz with e|e
    ·rw[e,hs];rfl
    ·rw[hs]at e;cases e
   exact⟨⟨k+1,my,by simp only[schedN,e];exact h1,h2⟩,h3.trans hl⟩
noncomputable abbrev Tx:Ctx:=Ctx.of (.builtin "claim.caller" {}) []
theorem KL{mY: aA}{t:Sem Fin}{P:aA->Prop}(hz:mY.asleep)
  (h:Sem.wp (ba p w) Tx t (Sem.finPost (ba p w) Tx λr s'=>(∃f,r=.ok f)/\P s'/\s'.gens=#[]) (λzz zz zz=>False) default mY):
  ∃cZ,P cZ/\cZ.gens=#[]/\(∃k my,schedN (kY g_) p w k (.single mY ⟨t,.builtin "claim.caller" {},default,[]⟩)=.running (.single cZ my)/\through my=af)/\cZ.heap.life=mY.heap.life:=by
 have h':Sem.wp (ba p w) ⟨.builtin "claim.caller" {},none,none,[],none⟩ t
   (Sem.finPost (ba p w) ⟨.builtin "claim.caller" {},none,none,[],none⟩ λr s'=>((∃f,r=.ok f)/\P s'/\s'.gens=#[])/\leftWithCleanup s'.gens=false)
   (λe zz s'=>((∃f,Except.error e=(.ok f:Result))/\P s'/\s'.gens=#[])/\leftWithCleanup s'.gens=false) default mY:=by
  refine jE _ _ _ (λfin q s' hf=>?_) (λzz zz zz h=>h.elim) _ _ h;exact finPost_mono (λr s hr=>⟨hr,by rw[hr.2.2];simp[leftWithCleanup]⟩) hf
 refine Fp ((wp_iff_halts t (λr s'=>(∃f,r=.ok f)/\P s'/\s'.gens=#[]) default mY).mp h') λn r s' hn UW hP hg=>?_;obtain⟨f,rfl⟩:=UW;refine nJ (runNI_real _ _ _ hn (outcomeOf_ends _)) λxS h1 h2 h3=>?_;have e:xS=s':=Shared.eq_of_forget_eq h2 hg;subst e;obtain⟨h4,h5⟩:=AY hz h1 h3;exact⟨xS,hP,hg,h4,h5⟩
end
end
end Mine.Internal
section
set_option backward.match.sparseCases false
namespace Mine.Internal
noncomputable abbrev N:aq:=.none
noncomputable abbrev R(a:Nat):aq:=.ref a
noncomputable abbrev Sx(l:List Nat):Str:=⟨l.toArray⟩
noncomputable abbrev kC:Str:=Sx [47,99,108,97,105,109,47,99,117,116,46,112,121]
noncomputable abbrev E0:Str:=Sx [99,112,121,51,49,51,46,101,109,97,105,108,46,104,101,97,100,101,114]
noncomputable abbrev J8:Str:=Sx [95,65,99,99,117,109,117,108,97,116,111,114]
noncomputable abbrev Kq:Str:=Sx [105,110,115,111,114,116,95,114,105,103,104,116]
noncomputable abbrev Kp:Str:=Sx [98,105,115,101,99,116,95,114,105,103,104,116]
noncomputable abbrev Kn:Str:=Sx [105,110,115,111,114,116,95,108,101,102,116]
noncomputable abbrev Km:Str:=Sx [98,105,115,101,99,116,95,108,101,102,116]
noncomputable abbrev Ki:Str:=Sx [105,110,95,116,97,98,108,101,95,98,49]
noncomputable abbrev Nh:Str:=Sx [108,97,119,95,119,99,48,48,50,49,95,48,50]
noncomputable abbrev OJ:Str:=Sx [109,97,112,95,116,97,98,108,101,95,98,51]
noncomputable abbrev Am:Str:=Sx [95,108,97,119,95,106,117,100,103,101,100]
noncomputable abbrev Al:Str:=Sx [95,108,97,119,95,116,121,112,101,100]
noncomputable abbrev Ak:Str:=Sx [95,108,97,119,95,100,114,97,119,110]
noncomputable abbrev Ks:Str:=Sx [99,112,121,51,49,51,46,115,116,114,105,110,103,112,114,101,112]
noncomputable abbrev O6:Str:=Sx [95,65,99,99,117,109,117,108,97,116,111,114,46,112,97,114,116,95,99,111,117,110,116]
noncomputable abbrev Aj:Str:=Sx [95,108,97,119,95,114,101,115,116]
noncomputable abbrev Ai:Str:=Sx [95,108,97,119,95,116,117,114,110]
noncomputable abbrev Ah:Str:=Sx [95,108,97,119,95,104,101,108,100]
noncomputable abbrev O5:Str:=Sx [95,65,99,99,117,109,117,108,97,116,111,114,46,105,115,95,111,110,108,121,119,115]
noncomputable abbrev O4:Str:=Sx [95,65,99,99,117,109,117,108,97,116,111,114,46,112,111,112,95,102,114,111,109]
noncomputable abbrev O3:Str:=Sx [95,65,99,99,117,109,117,108,97,116,111,114,46,95,95,105,110,105,116,95,95]
noncomputable abbrev O2:Str:=Sx [95,65,99,99,117,109,117,108,97,116,111,114,46,95,95,108,101,110,95,95]
noncomputable abbrev O1:Str:=Sx [95,65,99,99,117,109,117,108,97,116,111,114,46,95,95,115,116,114,95,95]
noncomputable abbrev O0:Str:=Sx [95,65,99,99,117,109,117,108,97,116,111,114,46,114,101,115,101,116]
noncomputable abbrev Dr:Str:=Sx [95,95,99,108,97,115,115,95,95]
noncomputable abbrev Fg:Str:=Sx [112,97,114,116,95,99,111,117,110,116]
noncomputable abbrev vV:Str:=Sx [95,119,97,108,108]
noncomputable abbrev Kr:Str:=Sx [99,112,121,51,49,51,46,98,105,115,101,99,116]
noncomputable abbrev OZ:Str:=Sx [95,65,99,99,117,109,117,108,97,116,111,114,46,112,117,115,104]
noncomputable abbrev Ff:Str:=Sx [105,115,95,111,110,108,121,119,115]
noncomputable abbrev OY:Str:=Sx [95,65,99,99,117,109,117,108,97,116,111,114,46,112,111,112]
noncomputable abbrev vU:Str:=Sx [115,101,108,102]
noncomputable abbrev OX:Str:=Sx [95,95,97,110,110,111,116,97,116,105,111,110,115,95,95]
noncomputable abbrev Fe:Str:=Sx [112,111,112,95,102,114,111,109]
noncomputable abbrev Fd:Str:=Sx [95,95,105,110,105,116,95,95]
noncomputable abbrev UL:Str:=Sx [95,95,115,116,97,116,105,99,95,97,116,116,114,105,98,117,116,101,115,95,95]
noncomputable abbrev OW:Str:=Sx [95,95,98,117,105,108,116,105,110,115,95,95]
noncomputable abbrev Fc:Str:=Sx [95,95,108,101,110,95,95]
noncomputable abbrev Fb:Str:=Sx [95,95,115,116,114,95,95]
noncomputable abbrev x_:Str:=Sx [107,101,121]
noncomputable abbrev OV:Str:=Sx [95,95,112,97,99,107,97,103,101,95,95]
noncomputable abbrev UK:Str:=Sx [95,95,102,105,114,115,116,108,105,110,101,110,111,95,95]
noncomputable abbrev OU:Str:=Sx [95,95,108,111,97,100,101,114,95,95]
noncomputable abbrev E_:Str:=Sx [114,101,115,101,116]
noncomputable abbrev OT:Str:=Sx [69,77,80,84,89,83,84,82,73,78,71]
noncomputable abbrev OS:Str:=Sx [95,95,99,97,99,104,101,100,95,95]
noncomputable abbrev Ko:Str:=Sx [95,95,100,111,99,95,95]
noncomputable abbrev Ag:Str:=Sx [108,97,119]
noncomputable abbrev UJ:Str:=Sx [98,51,95,101,120,99,101,112,116,105,111,110,115]
noncomputable abbrev E9:Str:=Sx [112,117,115,104]
noncomputable abbrev OR:Str:=Sx [95,95,102,105,108,101,95,95]
noncomputable abbrev OQ:Str:=Sx [95,95,110,97,109,101,95,95]
noncomputable abbrev OO:Str:=Sx [95,95,115,112,101,99,95,95]
noncomputable abbrev UI:Str:=Sx [95,95,119,101,97,107,114,101,102,95,95]
noncomputable abbrev UH:Str:=Sx [95,95,109,111,100,117,108,101,95,95]
noncomputable abbrev E8:Str:=Sx [112,111,112]
noncomputable abbrev ON:Str:=Sx [98,49,95,115,101,116]
noncomputable abbrev UG:Str:=Sx [60,109,111,100,117,108,101,62]
noncomputable abbrev UE:Str:=Sx [95,95,109,97,105,110,95,95]
noncomputable abbrev UD:Str:=Sx [95,95,100,105,99,116,95,95]
noncomputable abbrev OM:Str:=Sx [119,111,114,100]
noncomputable abbrev OK:Str:=Sx [99,111,100,101]
noncomputable abbrev Kk:Str:=Sx [108,111]
noncomputable abbrev Kj:Str:=Sx [104,105]
noncomputable abbrev E7:Str:=Sx [120]
noncomputable abbrev UC:Str:=Sx [115,105,103,110]
noncomputable abbrev UB:Str:=Sx [109,105,100]
noncomputable abbrev Ik(i:Int):aq:=.int i 0
noncomputable abbrev Sk(x:Str)(t:Nat):aq:=.str x t
noncomputable abbrev Co(l:Array aq):Obj:=⟨.type "code",none,.fields l,#[]⟩
noncomputable abbrev To(l:Array aq):Obj:=⟨.type "tuple",none,.seq l 0,#[]⟩
noncomputable abbrev Fo(d:Data):Obj:=⟨.type "function",none,d,#[]⟩
noncomputable abbrev Eo:Obj:=⟨.none,none,.fields #[],#[]⟩
abbrev De(P:ag)(x:Str)(t:Nat)(v:aq):bI:=⟨gu P x,.str x t,v⟩
noncomputable abbrev T':Arguments×jk:=(⟨[],[],none,[],[],none,[]⟩,⟨.module,[],false,false,[]⟩)
noncomputable abbrev T_:List Expr×Expr×Pos:=([],.Constant .none 0 ⟨0,0,0,0⟩,⟨0,0,0,0⟩)
noncomputable def ym:Stmt->(Arguments×jk)×List Stmt×List Expr×Expr×Pos
 |.FunctionDef _ a b _ _ _ s _ _ _=>((a,s),b,T_)
 |.ClassDef _ _ _ b _ _ _ _ _ _ _=>(T',b,T_)
 |.For _ _ b _ _=>(T',b,T_)
 |.While _ b _ _=>(T',b,T_)
 |.If _ b _ _=>(T',b,T_)
 |.Assign ts v p=>(T',[],ts,v,p)
 |_=>(T',[],T_)
noncomputable def fA(s:Stmt):Arguments:=(ym s).1.1
noncomputable def fB(s:Stmt):List Stmt:=(ym s).2.1
noncomputable def fS(s:Stmt):jk:=(ym s).1.2
noncomputable abbrev Fn(name qual:Str)(s:Stmt)(g:Addr)(cl:List (Str×Addr))(d k doc m c ct:aq)(b:Addr):Data:=
 .func {name:=name,qualname:=qual,params:=fA s,body:=.stmts (fB s),scope:=fS s,globals:=g,closure:=cl,defaults:=d,kwdefaults:=k,doc:=doc,pyModule:=m,annotations:=none,code:=c,closureTuple:=ct,builtins:=b}
noncomputable abbrev pw:cY:=PySem.Challenge.pw_wc0021_02
noncomputable def az(l:List Stmt)(k:Nat):Stmt:=(l[k]?).getD (.Pass ⟨0,0,0,0⟩)
@[irreducible] noncomputable def st(k:Nat):Stmt:=az pw.main.body k
@[irreducible] noncomputable def cst(k:Nat):Stmt:=az (fB (st 8)) k
def FS(_:Stmt):Type:=Stmt
noncomputable def pV(x:Stmt):FS x:=x
def FC(_:jk):Type:=jk
noncomputable def mkC(x:jk):FC x:=x
def FL(_:List bI):Type:=List bI
noncomputable def Ka(x:List bI):FL x:=x
noncomputable def sv0:Stmt:=(pV (.FunctionDef _ _ _ _ _ _ _ _ _ _):FS (az pw.main.body 0))
noncomputable def sv1:Stmt:=(pV (.Assign _ _ _):FS (az pw.main.body 1))
noncomputable def sv2:Stmt:=(pV (.FunctionDef _ _ _ _ _ _ _ _ _ _):FS (az pw.main.body 2))
noncomputable def sv3:Stmt:=(pV (.FunctionDef _ _ _ _ _ _ _ _ _ _):FS (az pw.main.body 3))
noncomputable def sv4:Stmt:=(pV (.FunctionDef _ _ _ _ _ _ _ _ _ _):FS (az pw.main.body 4))
noncomputable def sv5:Stmt:=(pV (.FunctionDef _ _ _ _ _ _ _ _ _ _):FS (az pw.main.body 5))
noncomputable def sv6:Stmt:=(pV (.Assign _ _ _):FS (az pw.main.body 6))
noncomputable def sv7:Stmt:=(pV (.Assign _ _ _):FS (az pw.main.body 7))
noncomputable def cv0:Stmt:=(pV (.FunctionDef _ _ _ _ _ _ _ _ _ _):FS (az (fB (az pw.main.body 8)) 0))
noncomputable def cv1:Stmt:=(pV (.FunctionDef _ _ _ _ _ _ _ _ _ _):FS (az (fB (az pw.main.body 8)) 1))
noncomputable def cv2:Stmt:=(pV (.FunctionDef _ _ _ _ _ _ _ _ _ _):FS (az (fB (az pw.main.body 8)) 2))
noncomputable def cv3:Stmt:=(pV (.FunctionDef _ _ _ _ _ _ _ _ _ _):FS (az (fB (az pw.main.body 8)) 3))
noncomputable def cv4:Stmt:=(pV (.FunctionDef _ _ _ _ _ _ _ _ _ _):FS (az (fB (az pw.main.body 8)) 4))
noncomputable def cv5:Stmt:=(pV (.FunctionDef _ _ _ _ _ _ _ _ _ _):FS (az (fB (az pw.main.body 8)) 5))
noncomputable def cv6:Stmt:=(pV (.FunctionDef _ _ _ _ _ _ _ _ _ _):FS (az (fB (az pw.main.body 8)) 6))
noncomputable def cv7:Stmt:=(pV (.FunctionDef _ _ _ _ _ _ _ _ _ _):FS (az (fB (az pw.main.body 8)) 7))
noncomputable def cv8:Stmt:=(pV (.FunctionDef _ _ _ _ _ _ _ _ _ _):FS (az (fB (az pw.main.body 8)) 8))
noncomputable def sv8:Stmt:=(pV (.ClassDef _ _ _ [cv0,cv1,cv2,cv3,cv4,cv5,cv6,cv7,cv8] _ _ _ _ _ _ _):FS (az pw.main.body 8))
noncomputable def sv9:Stmt:=(pV (.Assign _ _ _):FS (az pw.main.body 9))
noncomputable def aaD:Stmt:=(pV (.Assign _ _ _):FS (az pw.main.body 10))
noncomputable def Qb:Stmt:=(pV (.FunctionDef _ _ _ _ _ _ _ _ _ _):FS (az pw.main.body 11))
noncomputable def Qa:Stmt:=(pV (.FunctionDef _ _ _ _ _ _ _ _ _ _):FS (az pw.main.body 13))
noncomputable def aaC:Stmt:=(pV (.Assign _ _ _):FS (az pw.main.body 14))
noncomputable def P_:Stmt:=(pV (.FunctionDef _ _ _ _ _ _ _ _ _ _):FS (az pw.main.body 15))
noncomputable def P9:Stmt:=(pV (.FunctionDef _ _ _ _ _ _ _ _ _ _):FS (az pw.main.body 16))
noncomputable def P8:Stmt:=(pV (.FunctionDef _ _ _ _ _ _ _ _ _ _):FS (az pw.main.body 17))
noncomputable def P7:Stmt:=(pV (.FunctionDef _ _ _ _ _ _ _ _ _ _):FS (az pw.main.body 18))
noncomputable def P6:Stmt:=(pV (.FunctionDef _ _ _ _ _ _ _ _ _ _):FS (az pw.main.body 19))
noncomputable def P5:Stmt:=(pV (.FunctionDef _ _ _ _ _ _ _ _ _ _):FS (az pw.main.body 20))
noncomputable def P4:Stmt:=(pV (.FunctionDef _ _ _ _ _ _ _ _ _ _):FS (az pw.main.body 21))
noncomputable def msc:jk:=(mkC ⟨_,_,_,_,_⟩:FC pw.main.scope)
noncomputable def mm(b:List Stmt):Module:=⟨b,msc,false,aF "/claim/cut.py",[]⟩
noncomputable def ent(P:ag):List bI:=match(boot_o_0 P).data with | .dict a _=>a.toList|_=>[]
noncomputable def Zv(P:ag):List bI:=(Ka (⟨_,_,_⟩::⟨_,_,_⟩::⟨_,_,_⟩::⟨_,_,_⟩::⟨_,_,_⟩::⟨_,_,_⟩::⟨_,_,_⟩::⟨_,_,_⟩::⟨_,_,_⟩::⟨_,_,_⟩::⟨_,_,_⟩::⟨_,_,_⟩::⟨_,_,_⟩::⟨_,_,_⟩::⟨_,_,_⟩::[]):FL (gY 144 (ent P)))
noncomputable def Zw(P:ag):List bI:=(Ka (⟨_,_,_⟩::⟨_,_,_⟩::⟨_,_,_⟩::⟨_,_,_⟩::⟨_,_,_⟩::⟨_,_,_⟩::⟨_,_,_⟩::⟨_,_,_⟩::⟨_,_,_⟩::⟨_,_,_⟩::⟨_,_,_⟩::⟨_,_,_⟩::⟨_,_,_⟩::⟨_,_,_⟩::⟨_,_,_⟩::⟨_,_,_⟩::Zv P):FL (gY 128 (ent P)))
noncomputable def Zx(P:ag):List bI:=(Ka (⟨_,_,_⟩::⟨_,_,_⟩::⟨_,_,_⟩::⟨_,_,_⟩::⟨_,_,_⟩::⟨_,_,_⟩::⟨_,_,_⟩::⟨_,_,_⟩::⟨_,_,_⟩::⟨_,_,_⟩::⟨_,_,_⟩::⟨_,_,_⟩::⟨_,_,_⟩::⟨_,_,_⟩::⟨_,_,_⟩::⟨_,_,_⟩::Zw P):FL (gY 112 (ent P)))
noncomputable def aca(P:ag):List bI:=(Ka (⟨_,_,_⟩::⟨_,_,_⟩::⟨_,_,_⟩::⟨_,_,_⟩::⟨_,_,_⟩::⟨_,_,_⟩::⟨_,_,_⟩::⟨_,_,_⟩::⟨_,_,_⟩::⟨_,_,_⟩::⟨_,_,_⟩::⟨_,_,_⟩::⟨_,_,_⟩::⟨_,_,_⟩::⟨_,_,_⟩::⟨_,_,_⟩::Zx P):FL (gY 96 (ent P)))
noncomputable def acb(P:ag):List bI:=(Ka (⟨_,_,_⟩::⟨_,_,_⟩::⟨_,_,_⟩::⟨_,_,_⟩::⟨_,_,_⟩::⟨_,_,_⟩::⟨_,_,_⟩::⟨_,_,_⟩::⟨_,_,_⟩::⟨_,_,_⟩::⟨_,_,_⟩::⟨_,_,_⟩::⟨_,_,_⟩::⟨_,_,_⟩::⟨_,_,_⟩::⟨_,_,_⟩::aca P):FL (gY 80 (ent P)))
noncomputable def acd(P:ag):List bI:=(Ka (⟨_,_,_⟩::⟨_,_,_⟩::⟨_,_,_⟩::⟨_,_,_⟩::⟨_,_,_⟩::⟨_,_,_⟩::⟨_,_,_⟩::⟨_,_,_⟩::⟨_,_,_⟩::⟨_,_,_⟩::⟨_,_,_⟩::⟨_,_,_⟩::⟨_,_,_⟩::⟨_,_,_⟩::⟨_,_,_⟩::⟨_,_,_⟩::acb P):FL (gY 64 (ent P)))
noncomputable def ace(P:ag):List bI:=(Ka (⟨_,_,_⟩::⟨_,_,_⟩::⟨_,_,_⟩::⟨_,_,_⟩::⟨_,_,_⟩::⟨_,_,_⟩::⟨_,_,_⟩::⟨_,_,_⟩::⟨_,_,_⟩::⟨_,_,_⟩::⟨_,_,_⟩::⟨_,_,_⟩::⟨_,_,_⟩::⟨_,_,_⟩::⟨_,_,_⟩::⟨_,_,_⟩::acd P):FL (gY 48 (ent P)))
noncomputable def acf(P:ag):List bI:=(Ka (⟨_,_,_⟩::⟨_,_,_⟩::⟨_,_,_⟩::⟨_,_,_⟩::⟨_,_,_⟩::⟨_,_,_⟩::⟨_,_,_⟩::⟨_,_,_⟩::⟨_,_,_⟩::⟨_,_,_⟩::⟨_,_,_⟩::⟨_,_,_⟩::⟨_,_,_⟩::⟨_,_,_⟩::⟨_,_,_⟩::⟨_,_,_⟩::ace P):FL (gY 32 (ent P)))
noncomputable def acg(P:ag):List bI:=(Ka (⟨_,_,_⟩::⟨_,_,_⟩::⟨_,_,_⟩::⟨_,_,_⟩::⟨_,_,_⟩::⟨_,_,_⟩::⟨_,_,_⟩::⟨_,_,_⟩::⟨_,_,_⟩::⟨_,_,_⟩::⟨_,_,_⟩::⟨_,_,_⟩::⟨_,_,_⟩::⟨_,_,_⟩::⟨_,_,_⟩::⟨_,_,_⟩::acf P):FL (gY 16 (ent P)))
noncomputable def bq0(P:ag):List bI:=(Ka (⟨_,_,_⟩::⟨_,_,_⟩::⟨_,_,_⟩::⟨_,_,_⟩::⟨_,_,_⟩::⟨_,_,_⟩::⟨_,_,_⟩::⟨_,_,_⟩::⟨_,_,_⟩::⟨_,_,_⟩::⟨_,_,_⟩::⟨_,_,_⟩::⟨_,_,_⟩::⟨_,_,_⟩::⟨_,_,_⟩::⟨_,_,_⟩::acg P):FL (gY 0 (ent P)))
noncomputable def Zy(P:ag):Obj:=⟨.type "dict",none,.dict (bq0 P).toArray 159,#[]⟩
noncomputable def LK(P:ag):Obj:=To #[]
noncomputable def abk(P:ag):Obj:=Eo
noncomputable def LJ(P:ag):Obj:=Co #[(Sk UG 182),(Sk UG 183),(Sk kC 184),(Ik 1),(Ik 0),(Ik 0),(Ik 0),(Ik 0),(R 11),(.bool false),(Ik 181),(R 12),N,N,N,N,(Ik 185),(Ik 1),(Sk kC 186)]
noncomputable def LI(P:ag):Obj:=⟨(.type "frame"),none,.plain,#[aa (R 13),aa (R 3),aa (R 3),none,aa (Sk UE 164),none,aa (R 0)]⟩
noncomputable abbrev aK(x:Obj):BT:=.node x .nil .nil
noncomputable def w0(P:ag):BT:=(.node (boot_o_1 P) (.node (boot_o_3 P) (aK (boot_o_7 P)) (aK (LK P))) (.node (boot_o_5 P) (aK (boot_o_9 P)) (aK (LJ P))))
noncomputable def w1(P:ag):BT:=(.node (boot_o_2 P) (.node (boot_o_4 P) (aK (boot_o_8 P)) (aK (abk P))) (.node (boot_o_6 P) (aK (boot_o_10 P)) (aK (LI P))))
noncomputable def na:Nat:=15
noncomputable def Tb(P:ag):BT:=(.node (Zy P) (w0 P) (w1 P))
noncomputable def nb:Nat:=15
noncomputable def kb:Nat:=187
noncomputable def E6(P:ag):Obj:=⟨(.type "dict"),none,.dict #[De P OQ 165 (Sk Ks 349),De P Ko 166 N,De P OV 167 N,De P OU 168 (.builtin "__main__.__loader__#opaque"),De P OO 169 N,De P OX 170 (R 6),De P OW 171 (R 4),De P OR 173 (Sk kC 172),De P OS 174 N,De P vV 193 (R 21),De P Kq 208 (R 30),De P Kp 222 (R 39),De P Kn 235 (R 48),De P Km 249 (R 57),De P OT 253 (Sk (Sx []) 252),De P J8 348 (R 137),De P ON 410 (R 149),De P Ki 417 (R 159)] 18,#[]⟩
noncomputable def Xe(P:ag):Obj:=⟨N,none,.fields #[(Ik 1),(Ik 0),(R 20),(Ik 5),(Ik 0),(R 29),(Ik 11),(Ik 0),(R 38),(Ik 31),(Ik 0),(R 47),(Ik 37),(Ik 0),(R 56),(Ik 59),(Ik 0),(R 64),(Ik 92),(Ik 0),(R 158)],#[]⟩
noncomputable def R'(P:ag):Obj:=To #[]
noncomputable def R_(P:ag):Obj:=Eo
noncomputable def R9(P:ag):Obj:=To #[(Sk (Sx [107]) 190)]
noncomputable def R8(P:ag):Obj:=To #[]
noncomputable def R7(P:ag):Obj:=⟨N,none,Fn vV vV sv0 0 [] N N N N N N 0,#[]⟩
noncomputable def R6(P:ag):Obj:=Co #[(Sk vV 187),(Sk vV 188),(Sk kC 189),(Ik 1),(Ik 1),(Ik 0),(Ik 0),(Ik 3),(R 15),(.bool af),(Ik 181),(R 16),N,(R 17),(R 18),(R 19),(Ik 191),(Ik 1),(Sk kC 192)]
noncomputable def R5(P:ag):Obj:=Fo (Fn vV vV sv0 3 [] N N N (Sk UE 164) (R 20) N 0)
noncomputable def LH(P:ag):Obj:=To #[(.int 0 196),N]
noncomputable def LG(P:ag):Obj:=⟨(.type "dict"),none,.dict #[De P x_ 197 N] 1,#[]⟩
noncomputable def R0(P:ag):Obj:=To #[]
noncomputable def RZ(P:ag):Obj:=Eo
noncomputable def RY(P:ag):Obj:=To #[(Sk (Sx [97]) 201),(Sk E7 202),(Sk Kk 203),(Sk Kj 204),(Sk x_ 205)]
noncomputable def RX(P:ag):Obj:=To #[]
noncomputable def RW(P:ag):Obj:=⟨N,none,Fn Kq Kq sv2 0 [] N N N N N N 0,#[]⟩
noncomputable def LF(P:ag):Obj:=Co #[(Sk Kq 198),(Sk Kq 199),(Sk kC 200),(Ik 5),(Ik 4),(Ik 0),(Ik 1),(Ik 3),(R 24),(.bool af),(Ik 181),(R 25),N,(R 26),(R 27),(R 28),(Ik 206),(Ik 5),(Sk kC 207)]
noncomputable def Hm(P:ag):Obj:=Fo (Fn Kq Kq sv2 3 [] (R 22) (R 23) N (Sk Kr 194) (R 29) N 0)
noncomputable def LD(P:ag):Obj:=To #[(.int 0 209),N]
noncomputable def LC(P:ag):Obj:=⟨(.type "dict"),none,.dict #[De P x_ 210 N] 1,#[]⟩
noncomputable def RV(P:ag):Obj:=To #[]
noncomputable def RT(P:ag):Obj:=Eo
noncomputable def RQ(P:ag):Obj:=To #[(Sk (Sx [97]) 214),(Sk E7 215),(Sk Kk 216),(Sk Kj 217),(Sk x_ 218),(Sk UB 219)]
noncomputable def RO(P:ag):Obj:=To #[]
noncomputable def RM(P:ag):Obj:=⟨N,none,Fn Kp Kp sv3 0 [] N N N N N N 0,#[]⟩
noncomputable def LB(P:ag):Obj:=Co #[(Sk Kp 211),(Sk Kp 212),(Sk kC 213),(Ik 11),(Ik 4),(Ik 0),(Ik 1),(Ik 3),(R 33),(.bool af),(Ik 181),(R 34),N,(R 35),(R 36),(R 37),(Ik 220),(Ik 11),(Sk kC 221)]
noncomputable def Hl(P:ag):Obj:=Fo (Fn Kp Kp sv3 3 [] (R 31) (R 32) N (Sk Kr 194) (R 38) N 0)
noncomputable def LA(P:ag):Obj:=To #[(.int 0 223),N]
noncomputable def Lz(P:ag):Obj:=⟨(.type "dict"),none,.dict #[De P x_ 224 N] 1,#[]⟩
noncomputable def RL(P:ag):Obj:=To #[]
noncomputable def RK(P:ag):Obj:=Eo
noncomputable def RJ(P:ag):Obj:=To #[(Sk (Sx [97]) 228),(Sk E7 229),(Sk Kk 230),(Sk Kj 231),(Sk x_ 232)]
noncomputable def RI(P:ag):Obj:=To #[]
noncomputable def RH(P:ag):Obj:=⟨N,none,Fn Kn Kn sv4 0 [] N N N N N N 0,#[]⟩
noncomputable def Ly(P:ag):Obj:=Co #[(Sk Kn 225),(Sk Kn 226),(Sk kC 227),(Ik 31),(Ik 4),(Ik 0),(Ik 1),(Ik 3),(R 42),(.bool af),(Ik 181),(R 43),N,(R 44),(R 45),(R 46),(Ik 233),(Ik 31),(Sk kC 234)]
noncomputable def Hk(P:ag):Obj:=Fo (Fn Kn Kn sv4 3 [] (R 40) (R 41) N (Sk Kr 194) (R 47) N 0)
noncomputable def Lx(P:ag):Obj:=To #[(.int 0 236),N]
noncomputable def Lw(P:ag):Obj:=⟨(.type "dict"),none,.dict #[De P x_ 237 N] 1,#[]⟩
noncomputable def RG(P:ag):Obj:=To #[]
noncomputable def RE(P:ag):Obj:=Eo
noncomputable def RD(P:ag):Obj:=To #[(Sk (Sx [97]) 241),(Sk E7 242),(Sk Kk 243),(Sk Kj 244),(Sk x_ 245),(Sk UB 246)]
noncomputable def RC(P:ag):Obj:=To #[]
noncomputable def RA(P:ag):Obj:=⟨N,none,Fn Km Km sv5 0 [] N N N N N N 0,#[]⟩
noncomputable def Lv(P:ag):Obj:=Co #[(Sk Km 238),(Sk Km 239),(Sk kC 240),(Ik 37),(Ik 4),(Ik 0),(Ik 1),(Ik 3),(R 51),(.bool af),(Ik 181),(R 52),N,(R 53),(R 54),(R 55),(Ik 247),(Ik 37),(Sk kC 248)]
noncomputable def Hj(P:ag):Obj:=Fo (Fn Km Km sv5 3 [] (R 49) (R 50) N (Sk Kr 194) (R 56) N 0)
noncomputable def Rz(P:ag):Obj:=To #[(.type "list")]
noncomputable def Ry(P:ag):Obj:=⟨(.type "builtin_function_or_method"),none,.fields #[(.builtin "type.__prepare__"),(.type "type")],#[]⟩
noncomputable def Rx(P:ag):Obj:=⟨(.type "dict"),none,.dict #[De P UH 261 (Sk E0 250),De P (Sx [95,95,113,117,97,108,110,97,109,101,95,95]) 263 (Sk J8 262),De P UK 265 (.int 59 264),De P Fd 275 (R 74),De P E9 284 (R 81),De P Fe 293 (R 89),De P E8 301 (R 97),De P Fc 308 (R 104),De P Fb 315 (R 111),De P E_ 323 (R 119),De P Ff 330 (R 126),De P Fg 338 (R 134),De P UL 340 (R 135),De P (Sx [95,95,99,108,97,115,115,99,101,108,108,95,95]) 341 (R 61)] 14,#[]⟩
noncomputable def Hi(P:ag):Obj:=⟨(.type "cell"),none,.cell (aa (R 137)),#[]⟩
noncomputable def Rw(P:ag):Obj:=To #[]
noncomputable def Rv(P:ag):Obj:=⟨N,none,.fields #[(Ik 61),(Ik 4),(R 73),(Ik 65),(Ik 4),(R 80),(Ik 68),(Ik 4),(R 88),(Ik 71),(Ik 4),(R 96),(Ik 76),(Ik 4),(R 103),(Ik 79),(Ik 4),(R 110),(Ik 82),(Ik 4),(R 118),(Ik 85),(Ik 4),(R 125),(Ik 88),(Ik 4),(R 133)],#[]⟩
noncomputable def Ru(P:ag):Obj:=Co #[(Sk J8 256),(Sk J8 257),(Sk kC 258),(Ik 59),(Ik 0),(Ik 0),(Ik 0),(Ik 0),(R 62),(.bool false),(Ik 181),(R 63),N,N,N,N,(Ik 259),(Ik 59),(Sk kC 260)]
noncomputable def Rt(P:ag):Obj:=⟨(.type "frame"),none,.plain,#[aa (R 64),aa (R 3),aa (R 60),none,aa (Sk E0 250),none,aa (R 0)]⟩
noncomputable def Hh(P:ag):Obj:=To #[(.int 0 266)]
noncomputable def Rr(P:ag):Obj:=To #[(R 61)]
noncomputable def Rq(P:ag):Obj:=To #[(Sk Dr 270)]
noncomputable def Rp(P:ag):Obj:=Eo
noncomputable def Ro(P:ag):Obj:=To #[(Sk vU 271),(Sk (Sx [105,110,105,116,105,97,108,95,115,105,122,101]) 272)]
noncomputable def Rn(P:ag):Obj:=To #[]
noncomputable def Rm(P:ag):Obj:=⟨N,none,Fn Fd O3 cv0 0 [] N N N N N N 0,#[]⟩
noncomputable def Hg(P:ag):Obj:=Co #[(Sk Fd 267),(Sk O3 268),(Sk kC 269),(Ik 61),(Ik 2),(Ik 0),(Ik 0),(Ik 3),(R 68),(.bool af),(Ik 181),(R 69),N,(R 70),(R 71),(R 72),(Ik 273),(Ik 61),(Sk kC 274)]
noncomputable def Hf(P:ag):Obj:=Fo (Fn Fd O3 cv0 3 [(Dr,61)] (R 66) N N (Sk E0 250) (R 73) (R 67) 0)
noncomputable def Rl(P:ag):Obj:=To #[]
noncomputable def Rk(P:ag):Obj:=Eo
noncomputable def Rj(P:ag):Obj:=To #[(Sk vU 279),(Sk (Sx [102,119,115]) 280),(Sk (Sx [115,116,114,105,110,103]) 281)]
noncomputable def Ri(P:ag):Obj:=To #[]
noncomputable def Rh(P:ag):Obj:=⟨N,none,Fn E9 OZ cv1 0 [] N N N N N N 0,#[]⟩
noncomputable def He(P:ag):Obj:=Co #[(Sk E9 276),(Sk OZ 277),(Sk kC 278),(Ik 65),(Ik 3),(Ik 0),(Ik 0),(Ik 3),(R 75),(.bool af),(Ik 181),(R 76),N,(R 77),(R 78),(R 79),(Ik 282),(Ik 65),(Sk kC 283)]
noncomputable def Hc(P:ag):Obj:=Fo (Fn E9 OZ cv1 3 [] N N N (Sk E0 250) (R 80) N 0)
noncomputable def Rg(P:ag):Obj:=To #[(.int 0 285)]
noncomputable def Rf(P:ag):Obj:=To #[]
noncomputable def Rb(P:ag):Obj:=Eo
noncomputable def Ra(P:ag):Obj:=To #[(Sk vU 289),(Sk (Sx [105]) 290)]
noncomputable def Q_(P:ag):Obj:=To #[]
noncomputable def Q9(P:ag):Obj:=⟨N,none,Fn Fe O4 cv2 0 [] N N N N N N 0,#[]⟩
noncomputable def Q8(P:ag):Obj:=Co #[(Sk Fe 286),(Sk O4 287),(Sk kC 288),(Ik 68),(Ik 2),(Ik 0),(Ik 0),(Ik 3),(R 83),(.bool af),(Ik 181),(R 84),N,(R 85),(R 86),(R 87),(Ik 291),(Ik 68),(Sk kC 292)]
noncomputable def Q7(P:ag):Obj:=Fo (Fn Fe O4 cv2 3 [] (R 82) N N (Sk E0 250) (R 88) N 0)
noncomputable def Q6(P:ag):Obj:=To #[(R 61)]
noncomputable def Q5(P:ag):Obj:=To #[(Sk Dr 297)]
noncomputable def Q4(P:ag):Obj:=Eo
noncomputable def Q3(P:ag):Obj:=To #[(Sk vU 298)]
noncomputable def Q2(P:ag):Obj:=To #[]
noncomputable def Q1(P:ag):Obj:=⟨N,none,Fn E8 OY cv3 0 [] N N N N N N 0,#[]⟩
noncomputable def Hb(P:ag):Obj:=Co #[(Sk E8 294),(Sk OY 295),(Sk kC 296),(Ik 71),(Ik 1),(Ik 0),(Ik 0),(Ik 3),(R 91),(.bool af),(Ik 181),(R 92),N,(R 93),(R 94),(R 95),(Ik 299),(Ik 71),(Sk kC 300)]
noncomputable def Ha(P:ag):Obj:=Fo (Fn E8 OY cv3 3 [(Dr,61)] N N N (Sk E0 250) (R 96) (R 90) 0)
noncomputable def Q0(P:ag):Obj:=To #[]
noncomputable def QZ(P:ag):Obj:=Eo
noncomputable def Ij(P:ag):Obj:=To #[(Sk vU 305)]
noncomputable def Ii(P:ag):Obj:=To #[]
noncomputable def Ih(P:ag):Obj:=⟨N,none,Fn Fc O2 cv4 0 [] N N N N N N 0,#[]⟩
noncomputable def vw(P:ag):Obj:=Co #[(Sk Fc 302),(Sk O2 303),(Sk kC 304),(Ik 76),(Ik 1),(Ik 0),(Ik 0),(Ik 3),(R 98),(.bool af),(Ik 181),(R 99),N,(R 100),(R 101),(R 102),(Ik 306),(Ik 76),(Sk kC 307)]
noncomputable def yQ(P:ag):Obj:=Fo (Fn Fc O2 cv4 3 [] N N N (Sk E0 250) (R 103) N 0)
noncomputable def Ig(P:ag):Obj:=To #[]
noncomputable def Ie(P:ag):Obj:=Eo
noncomputable def Ic(P:ag):Obj:=To #[(Sk vU 312)]
noncomputable def Ib(P:ag):Obj:=To #[]
noncomputable def Ia(P:ag):Obj:=⟨N,none,Fn Fb O1 cv5 0 [] N N N N N N 0,#[]⟩
noncomputable def vt(P:ag):Obj:=Co #[(Sk Fb 309),(Sk O1 310),(Sk kC 311),(Ik 79),(Ik 1),(Ik 0),(Ik 0),(Ik 3),(R 105),(.bool af),(Ik 181),(R 106),N,(R 107),(R 108),(R 109),(Ik 313),(Ik 79),(Sk kC 314)]
noncomputable def yP(P:ag):Obj:=Fo (Fn Fb O1 cv5 3 [] N N N (Sk E0 250) (R 110) N 0)
noncomputable def H_(P:ag):Obj:=To #[N]
noncomputable def H9(P:ag):Obj:=To #[]
noncomputable def H8(P:ag):Obj:=Eo
noncomputable def H7(P:ag):Obj:=To #[(Sk vU 319),(Sk (Sx [115,116,97,114,116,118,97,108]) 320)]
noncomputable def H6(P:ag):Obj:=To #[]
noncomputable def H5(P:ag):Obj:=⟨N,none,Fn E_ O0 cv6 0 [] N N N N N N 0,#[]⟩
noncomputable def H4(P:ag):Obj:=Co #[(Sk E_ 316),(Sk O0 317),(Sk kC 318),(Ik 82),(Ik 2),(Ik 0),(Ik 0),(Ik 3),(R 113),(.bool af),(Ik 181),(R 114),N,(R 115),(R 116),(R 117),(Ik 321),(Ik 82),(Sk kC 322)]
noncomputable def H3(P:ag):Obj:=Fo (Fn E_ O0 cv6 3 [] (R 112) N N (Sk E0 250) (R 118) N 0)
noncomputable def H2(P:ag):Obj:=To #[]
noncomputable def H0(P:ag):Obj:=Eo
noncomputable def HZ(P:ag):Obj:=To #[(Sk vU 327)]
noncomputable def HY(P:ag):Obj:=To #[]
noncomputable def HX(P:ag):Obj:=⟨N,none,Fn Ff O5 cv7 0 [] N N N N N N 0,#[]⟩
noncomputable def HW(P:ag):Obj:=Co #[(Sk Ff 324),(Sk O5 325),(Sk kC 326),(Ik 85),(Ik 1),(Ik 0),(Ik 0),(Ik 3),(R 120),(.bool af),(Ik 181),(R 121),N,(R 122),(R 123),(R 124),(Ik 328),(Ik 85),(Sk kC 329)]
noncomputable def HV(P:ag):Obj:=Fo (Fn Ff O5 cv7 3 [] N N N (Sk E0 250) (R 125) N 0)
noncomputable def HU(P:ag):Obj:=To #[(R 61)]
noncomputable def HT(P:ag):Obj:=To #[(Sk Dr 334)]
noncomputable def HS(P:ag):Obj:=Eo
noncomputable def HR(P:ag):Obj:=To #[(Sk vU 335)]
noncomputable def HQ(P:ag):Obj:=To #[]
noncomputable def HP(P:ag):Obj:=⟨N,none,Fn Fg O6 cv8 0 [] N N N N N N 0,#[]⟩
noncomputable def yO(P:ag):Obj:=Co #[(Sk Fg 331),(Sk O6 332),(Sk kC 333),(Ik 88),(Ik 1),(Ik 0),(Ik 0),(Ik 3),(R 128),(.bool af),(Ik 181),(R 129),N,(R 130),(R 131),(R 132),(Ik 336),(Ik 88),(Sk kC 337)]
noncomputable def yN(P:ag):Obj:=Fo (Fn Fg O6 cv8 3 [(Dr,61)] N N N (Sk E0 250) (R 133) (R 127) 0)
noncomputable def HO(P:ag):Obj:=To #[(Sk (Sx [95,105,110,105,116,105,97,108,95,115,105,122,101]) 339)]
noncomputable def CE(P:ag):Obj:=⟨(.type "dict"),none,.dict #[De P UH 261 (Sk E0 250),De P UK 265 (.int 59 264),De P Fd 275 (R 74),De P E9 284 (R 81),De P Fe 293 (R 89),De P E8 301 (R 97),De P Fc 308 (R 104),De P Fb 315 (R 111),De P E_ 323 (R 119),De P Ff 330 (R 126),De P Fg 338 (R 134),De P UL 340 (R 135),De P UD 343 (R 138),De P UI 345 (R 139),De P Ko 346 N] 5,#[]⟩
noncomputable def yM(P:ag):Obj:=⟨(.type "type"),none,.cls ⟨J8,[(.type "list")],[(R 137),(.type "list"),(.type "object")],136,J8,af,[],[],false,none,false⟩,#[aa (R 58),none,aa (Sk J8 254),aa (Sk J8 262),aa (.builtin "list.__new__"),aa (.bool af)]⟩
noncomputable def HN(P:ag):Obj:=⟨(.type "getset_descriptor"),none,.fields #[(Sk UD 342),(R 137),(.builtin "function.__dict__"),(.builtin "function.__dict__#set")],#[]⟩
noncomputable def HM(P:ag):Obj:=⟨(.type "getset_descriptor"),none,.fields #[(Sk UI 344),(R 137),(.builtin "ExceptionGroup.__weakref__"),N],#[]⟩
noncomputable def HL(P:ag):Obj:=⟨(.type "super"),none,.fields #[(R 137),(R 137),(R 137)],#[]⟩
noncomputable def HK(P:ag):Obj:=⟨(.type "builtin_function_or_method"),none,.fields #[(.builtin "object.__init_subclass__"),(R 137)],#[]⟩
noncomputable def HJ(P:ag):Obj:=⟨(.type "list"),none,.seq #[(.int 173 351),(.int 847 352),(.int 6150 353),(.int 6155 354),(.int 6156 355),(.int 6157 356),(.int 8203 357),(.int 8204 358),(.int 8205 359),(.int 8288 360),(.int 65279 361)] 0,#[]⟩
noncomputable def HI(P:ag):Obj:=⟨(.type "range"),none,.fields #[(.int 65024 362),(.int 65040 363),(.int 1 364)],#[]⟩
noncomputable def HH(P:ag):Obj:=⟨(.type "list"),none,.seq #[(.int 65024 367),(.int 65025 368),(.int 65026 369),(.int 65027 370),(.int 65028 371),(.int 65029 372),(.int 65030 373),(.int 65031 374),(.int 65032 375),(.int 65033 376),(.int 65034 377),(.int 65035 378),(.int 65036 379),(.int 65037 380),(.int 65038 381),(.int 65039 382)] 18,#[]⟩
noncomputable def HG(P:ag):Obj:=⟨(.type "range_iterator"),none,.fields #[(Ik 65040),(Ik 0),(Ik 1)],#[]⟩
noncomputable def HF(P:ag):Obj:=To #[]
noncomputable def HE(P:ag):Obj:=⟨(.type "StopIteration"),none,.fields #[(R 146),N,N,N,(.bool false),N],#[]⟩
noncomputable def HD(P:ag):Obj:=⟨(.type "list"),none,.seq #[(.int 173 351),(.int 847 352),(.int 6150 353),(.int 6155 354),(.int 6156 355),(.int 6157 356),(.int 8203 357),(.int 8204 358),(.int 8205 359),(.int 8288 360),(.int 65279 361),(.int 65024 367),(.int 65025 368),(.int 65026 369),(.int 65027 370),(.int 65028 371),(.int 65029 372),(.int 65030 373),(.int 65031 374),(.int 65032 375),(.int 65033 376),(.int 65034 377),(.int 65035 378),(.int 65036 379),(.int 65037 380),(.int 65038 381),(.int 65039 382)] 0,#[]⟩
noncomputable def yL(P:ag):Obj:=⟨(.type "set"),none,.set #[(65024,(.int 65024 367)),(65025,(.int 65025 368)),(65026,(.int 65026 369)),(65027,(.int 65027 370)),(65028,(.int 65028 371)),(65029,(.int 65029 372)),(6150,(.int 6150 353)),(65030,(.int 65030 373)),(65031,(.int 65031 374)),(65032,(.int 65032 375)),(65033,(.int 65033 376)),(6155,(.int 6155 354)),(6156,(.int 6156 355)),(6157,(.int 6157 356)),(8203,(.int 8203 357)),(8204,(.int 8204 358)),(8205,(.int 8205 359)),(65034,(.int 65034 377)),(65035,(.int 65035 378)),(65036,(.int 65036 379)),(65037,(.int 65037 380)),(65038,(.int 65038 381)),(65039,(.int 65039 382)),(173,(.int 173 351)),(847,(.int 847 352)),(8288,(.int 8288 360)),(65279,(.int 65279 361))] 29 ⟨127,#[0,1,2,3,4,5,6,7,8,9,10,11,12,13,14,15,16,17,18,19,20,21,22,45,79,96,127],#[],0,!(P.followText "set-order"),2,af⟩,#[]⟩
noncomputable def HC(P:ag):Obj:=⟨(.type "list_iterator"),none,.fields #[N,(Ik 27)],#[]⟩
noncomputable def HA(P:ag):Obj:=To #[]
noncomputable def Hz(P:ag):Obj:=⟨(.type "StopIteration"),none,.fields #[(R 151),N,N,N,(.bool false),N],#[]⟩
noncomputable def Hy(P:ag):Obj:=To #[]
noncomputable def Hx(P:ag):Obj:=Eo
noncomputable def Hw(P:ag):Obj:=To #[(Sk OK 414)]
noncomputable def Hv(P:ag):Obj:=To #[]
noncomputable def Hu(P:ag):Obj:=⟨N,none,Fn Ki Ki Qb 0 [] N N N N N N 0,#[]⟩
noncomputable def CD(P:ag):Obj:=Co #[(Sk Ki 411),(Sk Ki 412),(Sk kC 413),(Ik 92),(Ik 1),(Ik 0),(Ik 0),(Ik 3),(R 153),(.bool af),(Ik 181),(R 154),N,(R 155),(R 156),(R 157),(Ik 415),(Ik 92),(Sk kC 416)]
noncomputable def CC(P:ag):Obj:=Fo (Fn Ki Ki Qb 3 [] N N N (Sk Ks 349) (R 158) N 0)
noncomputable def w2(P:ag):BT:=(.node (R' P) (.node (LD P) (.node (Rv P) (aK (HU P)) .nil) (.node (Q1 P) (aK (CC P)) .nil)) (.node (Ly P) (.node (Rh P) (aK (HI P)) .nil) (aK (yP P))))
noncomputable def w3(P:ag):BT:=(.node (LG P) (.node (Hl P) (.node (Rn P) (aK (HO P)) .nil) (aK (vw P))) (.node (RA P) (.node (Q9 P) (aK (HA P)) .nil) (aK (H3 P))))
noncomputable def w4(P:ag):BT:=(.node (R7 P) (.node (RQ P) (.node (Rr P) (aK (HQ P)) .nil) (aK (QZ P))) (.node (RG P) (.node (Rf P) (aK (HE P)) .nil) (aK (H7 P))))
noncomputable def w5(P:ag):BT:=(.node (RX P) (.node (RK P) (.node (Rl P) (aK (HM P)) .nil) (aK (Ic P))) (.node (Ry P) (.node (Q5 P) (aK (Hw P)) .nil) (aK (HY P))))
noncomputable def w6(P:ag):BT:=(.node (R9 P) (.node (RV P) (.node (Rt P) (aK (HS P)) .nil) (aK (Ha P))) (.node (Lx P) (.node (Hc P) (aK (HG P)) .nil) (aK (H9 P))))
noncomputable def w7(P:ag):BT:=(.node (RZ P) (.node (Lz P) (.node (Hg P) (aK (yM P)) .nil) (aK (Ig P))) (.node (Hj P) (.node (Q7 P) (aK (Hy P)) .nil) (aK (H0 P))))
noncomputable def w8(P:ag):BT:=(.node (R5 P) (.node (RM P) (.node (Rp P) (aK (yO P)) .nil) (aK (Ii P))) (.node (RD P) (.node (Ra P) (aK (yL P)) .nil) (aK (H5 P))))
noncomputable def w9(P:ag):BT:=(.node (LF P) (.node (RI P) (.node (Rj P) (aK (HK P)) .nil) (aK (Ia P))) (.node (Hi P) (.node (Q3 P) (aK (Hu P)) .nil) (aK (HW P))))
noncomputable def Vq(P:ag):BT:=(.node (E6 P) (.node (boot_o_7 P) (w2 P) (w3 P)) (.node (LK P) (w4 P) (w5 P)))
noncomputable def Vp(P:ag):BT:=(.node (boot_o_5 P) (.node (boot_o_9 P) (w6 P) (w7 P)) (.node (LJ P) (w8 P) (w9 P)))
noncomputable def Vo(P:ag):BT:=(.node (R_ P) (.node (LC P) (.node (Ru P) (aK (HT P)) .nil) (aK (Hb P))) (.node (Hk P) (.node (He P) (aK (HH P)) .nil) (aK (H_ P))))
noncomputable def w13(P:ag):BT:=(.node (R0 P) (.node (LA P) (.node (Rm P) (aK (CE P)) .nil) (aK (yQ P))) (.node (Lv P) (.node (Q8 P) (aK (Hz P)) .nil) (aK (H2 P))))
noncomputable def w14(P:ag):BT:=(.node (R6 P) (.node (RO P) (.node (Rq P) (aK (HP P)) .nil) (aK (Ij P))) (.node (RE P) (.node (Rb P) (aK (HD P)) .nil) (aK (H6 P))))
noncomputable def w15(P:ag):BT:=(.node (RW P) (.node (RJ P) (.node (Rk P) (aK (HL P)) .nil) (aK (Ib P))) (.node (Rx P) (.node (Q4 P) (aK (Hv P)) .nil) (aK (HX P))))
noncomputable def w16(P:ag):BT:=(.node (R8 P) (.node (RT P) (.node (Hh P) (aK (HR P)) .nil) (aK (Q0 P))) (.node (Lw P) (.node (Rg P) (aK (HF P)) .nil) (aK (H8 P))))
noncomputable def w17(P:ag):BT:=(.node (RY P) (.node (RL P) (.node (Hf P) (aK (HN P)) .nil) (aK (Ie P))) (.node (Rz P) (.node (Q6 P) (aK (Hx P)) .nil) (aK (HZ P))))
noncomputable def w18(P:ag):BT:=(.node (LH P) (.node (LB P) (.node (Ro P) (aK (yN P)) .nil) (aK (Ih P))) (.node (RC P) (.node (Q_ P) (aK (HC P)) .nil) (aK (H4 P))))
noncomputable def w19(P:ag):BT:=(.node (Hm P) (.node (RH P) (.node (Ri P) (aK (HJ P)) .nil) (aK (vt P))) (.node (Rw P) (.node (Q2 P) (aK (CD P)) .nil) (aK (HV P))))
noncomputable def w20(P:ag):BT:=(.node (boot_o_4 P) (.node (boot_o_8 P) (Vo P) (w13 P)) (.node (Xe P) (w14 P) (w15 P)))
noncomputable def w21(P:ag):BT:=(.node (boot_o_6 P) (.node (boot_o_10 P) (w16 P) (w17 P)) (.node (LI P) (w18 P) (w19 P)))
noncomputable def Tc(P:ag):BT:=(.node (Zy P) (.node (boot_o_1 P) (Vq P) (Vp P)) (.node (boot_o_2 P) (w20 P) (w21 P)))
noncomputable def nc:Nat:=160
noncomputable def kc:Nat:=418
noncomputable def Z3(P:ag)(kt:Nat):Obj:=⟨(.type "dict"),none,.dict #[De P OQ 165 (Sk Ks 349),De P Ko 166 N,De P OV 167 N,De P OU 168 (.builtin "__main__.__loader__#opaque"),De P OO 169 N,De P OX 170 (R 6),De P OW 171 (R 4),De P OR 173 (Sk kC 172),De P OS 174 N,De P vV 193 (R 21),De P Kq 208 (R 30),De P Kp 222 (R 39),De P Kn 235 (R 48),De P Km 249 (R 57),De P OT 253 (Sk (Sx []) 252),De P J8 348 (R 137),De P ON 410 (R 149),De P Ki 417 (R 159),De P UJ kt (R 160)] 19,#[]⟩
noncomputable def w22(P:ag)(f:Nat->Obj):BT:=(.node (LD P) (.node (Rv P) (aK (HU P)) (aK (f 31))) (.node (Q1 P) (aK (CC P)) .nil))
noncomputable def w23(P:ag)(f:Nat->Obj):BT:=(.node (Ly P) (.node (Rh P) (aK (HI P)) .nil) (.node (yP P) (aK (f 15)) .nil))
noncomputable def w24(P:ag)(f:Nat->Obj):BT:=(.node (Hl P) (.node (Rn P) (aK (HO P)) .nil) (.node (vw P) (aK (f 7)) .nil))
noncomputable def w25(P:ag)(f:Nat->Obj):BT:=(.node (RA P) (.node (Q9 P) (aK (HA P)) .nil) (.node (H3 P) (aK (f 23)) .nil))
noncomputable def w26(P:ag)(f:Nat->Obj):BT:=(.node (RQ P) (.node (Rr P) (aK (HQ P)) (aK (f 35))) (.node (QZ P) (aK (f 3)) .nil))
noncomputable def w27(P:ag)(f:Nat->Obj):BT:=(.node (RG P) (.node (Rf P) (aK (HE P)) .nil) (.node (H7 P) (aK (f 19)) .nil))
noncomputable def w28(P:ag)(f:Nat->Obj):BT:=(.node (RK P) (.node (Rl P) (aK (HM P)) .nil) (.node (Ic P) (aK (f 11)) .nil))
noncomputable def w29(P:ag)(f:Nat->Obj):BT:=(.node (Ry P) (.node (Q5 P) (aK (Hw P)) .nil) (.node (HY P) (aK (f 27)) .nil))
noncomputable def w30(P:ag)(f:Nat->Obj):BT:=(.node (boot_o_7 P) (.node (R' P) (w22 P f) (w23 P f)) (.node (LG P) (w24 P f) (w25 P f)))
noncomputable def w31(P:ag)(f:Nat->Obj):BT:=(.node (LK P) (.node (R7 P) (w26 P f) (w27 P f)) (.node (RX P) (w28 P f) (w29 P f)))
noncomputable def w32(P:ag)(f:Nat->Obj):BT:=(.node (RV P) (.node (Rt P) (aK (HS P)) (aK (f 33))) (.node (Ha P) (aK (f 1)) .nil))
noncomputable def w33(P:ag)(f:Nat->Obj):BT:=(.node (Lx P) (.node (Hc P) (aK (HG P)) .nil) (.node (H9 P) (aK (f 17)) .nil))
noncomputable def w34(P:ag)(f:Nat->Obj):BT:=(.node (Lz P) (.node (Hg P) (aK (yM P)) .nil) (.node (Ig P) (aK (f 9)) .nil))
noncomputable def w35(P:ag)(f:Nat->Obj):BT:=(.node (Hj P) (.node (Q7 P) (aK (Hy P)) .nil) (.node (H0 P) (aK (f 25)) .nil))
noncomputable def w36(P:ag)(f:Nat->Obj):BT:=(.node (RM P) (.node (Rp P) (aK (yO P)) (aK (f 37))) (.node (Ii P) (aK (f 5)) .nil))
noncomputable def w37(P:ag)(f:Nat->Obj):BT:=(.node (RD P) (.node (Ra P) (aK (yL P)) .nil) (.node (H5 P) (aK (f 21)) .nil))
noncomputable def w38(P:ag)(f:Nat->Obj):BT:=(.node (RI P) (.node (Rj P) (aK (HK P)) .nil) (.node (Ia P) (aK (f 13)) .nil))
noncomputable def w39(P:ag)(f:Nat->Obj):BT:=(.node (Hi P) (.node (Q3 P) (aK (Hu P)) .nil) (.node (HW P) (aK (f 29)) .nil))
noncomputable def w40(P:ag)(f:Nat->Obj):BT:=(.node (boot_o_9 P) (.node (R9 P) (w32 P f) (w33 P f)) (.node (RZ P) (w34 P f) (w35 P f)))
noncomputable def w41(P:ag)(f:Nat->Obj):BT:=(.node (LJ P) (.node (R5 P) (w36 P f) (w37 P f)) (.node (LF P) (w38 P f) (w39 P f)))
noncomputable def w42(P:ag)(f:Nat->Obj):BT:=(.node (LC P) (.node (Ru P) (aK (HT P)) (aK (f 32))) (.node (Hb P) (aK (f 0)) .nil))
noncomputable def w43(P:ag)(f:Nat->Obj):BT:=(.node (Hk P) (.node (He P) (aK (HH P)) .nil) (.node (H_ P) (aK (f 16)) .nil))
noncomputable def w44(P:ag)(f:Nat->Obj):BT:=(.node (LA P) (.node (Rm P) (aK (CE P)) .nil) (.node (yQ P) (aK (f 8)) .nil))
noncomputable def w45(P:ag)(f:Nat->Obj):BT:=(.node (Lv P) (.node (Q8 P) (aK (Hz P)) .nil) (.node (H2 P) (aK (f 24)) .nil))
noncomputable def w46(P:ag)(f:Nat->Obj):BT:=(.node (RO P) (.node (Rq P) (aK (HP P)) (aK (f 36))) (.node (Ij P) (aK (f 4)) .nil))
noncomputable def w47(P:ag)(f:Nat->Obj):BT:=(.node (RE P) (.node (Rb P) (aK (HD P)) .nil) (.node (H6 P) (aK (f 20)) .nil))
noncomputable def w48(P:ag)(f:Nat->Obj):BT:=(.node (RJ P) (.node (Rk P) (aK (HL P)) .nil) (.node (Ib P) (aK (f 12)) .nil))
noncomputable def w49(P:ag)(f:Nat->Obj):BT:=(.node (Rx P) (.node (Q4 P) (aK (Hv P)) .nil) (.node (HX P) (aK (f 28)) .nil))
noncomputable def w50(P:ag)(f:Nat->Obj):BT:=(.node (boot_o_8 P) (.node (R_ P) (w42 P f) (w43 P f)) (.node (R0 P) (w44 P f) (w45 P f)))
noncomputable def w51(P:ag)(f:Nat->Obj):BT:=(.node (Xe P) (.node (R6 P) (w46 P f) (w47 P f)) (.node (RW P) (w48 P f) (w49 P f)))
noncomputable def w52(P:ag)(f:Nat->Obj):BT:=(.node (RT P) (.node (Hh P) (aK (HR P)) (aK (f 34))) (.node (Q0 P) (aK (f 2)) .nil))
noncomputable def w53(P:ag)(f:Nat->Obj):BT:=(.node (Lw P) (.node (Rg P) (aK (HF P)) .nil) (.node (H8 P) (aK (f 18)) .nil))
noncomputable def w54(P:ag)(f:Nat->Obj):BT:=(.node (RL P) (.node (Hf P) (aK (HN P)) .nil) (.node (Ie P) (aK (f 10)) .nil))
noncomputable def w55(P:ag)(f:Nat->Obj):BT:=(.node (Rz P) (.node (Q6 P) (aK (Hx P)) .nil) (.node (HZ P) (aK (f 26)) .nil))
noncomputable def w56(P:ag)(f:Nat->Obj):BT:=(.node (LB P) (.node (Ro P) (aK (yN P)) (aK (f 38))) (.node (Ih P) (aK (f 6)) .nil))
noncomputable def w57(P:ag)(f:Nat->Obj):BT:=(.node (RC P) (.node (Q_ P) (aK (HC P)) .nil) (.node (H4 P) (aK (f 22)) .nil))
noncomputable def w58(P:ag)(f:Nat->Obj):BT:=(.node (RH P) (.node (Ri P) (aK (HJ P)) .nil) (.node (vt P) (aK (f 14)) .nil))
noncomputable def w59(P:ag)(f:Nat->Obj):BT:=(.node (Rw P) (.node (Q2 P) (aK (CD P)) .nil) (.node (HV P) (aK (f 30)) .nil))
noncomputable def w60(P:ag)(f:Nat->Obj):BT:=(.node (boot_o_10 P) (.node (R8 P) (w52 P f) (w53 P f)) (.node (RY P) (w54 P f) (w55 P f)))
noncomputable def w61(P:ag)(f:Nat->Obj):BT:=(.node (LI P) (.node (LH P) (w56 P f) (w57 P f)) (.node (Hm P) (w58 P f) (w59 P f)))
noncomputable def w62(P:ag)(f:Nat->Obj)(kt:Nat):BT:=(.node (boot_o_1 P) (.node (Z3 P kt) (w30 P f) (w31 P f)) (.node (boot_o_5 P) (w40 P f) (w41 P f)))
noncomputable def w63(P:ag)(f:Nat->Obj):BT:=(.node (boot_o_2 P) (.node (boot_o_4 P) (w50 P f) (w51 P f)) (.node (boot_o_6 P) (w60 P f) (w61 P f)))
noncomputable def Td(P:ag)(f:Nat->Obj)(kt:Nat):BT:=(.node (Zy P) (w62 P f kt) (w63 P f))
noncomputable def nd:Nat:=199
noncomputable def o3e(P:ag)(kt tk:Nat):Obj:=⟨(.type "dict"),none,.dict #[De P OQ 165 (Sk Nh (tk+8)),De P Ko 166 N,De P OV 167 N,De P OU 168 (.builtin "__main__.__loader__#opaque"),De P OO 169 N,De P OX 170 (R 6),De P OW 171 (R 4),De P OR 173 (Sk kC 172),De P OS 174 N,De P vV 193 (R 21),De P Kq 208 (R 30),De P Kp 222 (R 39),De P Kn 235 (R 48),De P Km 249 (R 57),De P OT 253 (Sk (Sx []) 252),De P J8 348 (R 137),De P ON 410 (R 149),De P Ki 417 (R 159),De P UJ kt (R 160),De P OJ (tk+7) (R 205),De P Ak (tk+15) (R 210),De P Al (tk+33) (R 217),De P Aj (tk+51) (R 224),De P Ai (tk+64) (R 231),De P Am (tk+70) (R 236),De P Ah (tk+83) (R 243),De P Ag (tk+89) (R 248)] 27,#[]⟩
noncomputable def abj(P:ag)(kt tk:Nat):Obj:=⟨N,none,.fields #[(Ik 1),(Ik 0),(R 20),(Ik 5),(Ik 0),(R 29),(Ik 11),(Ik 0),(R 38),(Ik 31),(Ik 0),(R 47),(Ik 37),(Ik 0),(R 56),(Ik 59),(Ik 0),(R 64),(Ik 92),(Ik 0),(R 158),(Ik 95),(Ik 0),(R 204),(Ik 101),(Ik 0),(R 209),(Ik 111),(Ik 0),(R 216),(Ik 125),(Ik 0),(R 223),(Ik 145),(Ik 0),(R 230),(Ik 157),(Ik 0),(R 235),(Ik 171),(Ik 0),(R 242),(Ik 183),(Ik 0),(R 247)],#[]⟩
noncomputable def Xd(P:ag)(kt tk:Nat):Obj:=To #[]
noncomputable def Xc(P:ag)(kt tk:Nat):Obj:=Eo
noncomputable def Xb(P:ag)(kt tk:Nat):Obj:=To #[(Sk OK (tk+3)),(Sk (Sx [114]) (tk+4))]
noncomputable def Xa(P:ag)(kt tk:Nat):Obj:=To #[]
noncomputable def W_(P:ag)(kt tk:Nat):Obj:=⟨N,none,Fn OJ OJ Qa 0 [] N N N N N N 0,#[]⟩
noncomputable def NR(P:ag)(kt tk:Nat):Obj:=Co #[(Sk OJ (tk+0)),(Sk OJ (tk+1)),(Sk kC (tk+2)),(Ik 95),(Ik 1),(Ik 0),(Ik 0),(Ik 3),(R 199),(.bool af),(Ik 181),(R 200),N,(R 201),(R 202),(R 203),(.int (Int.ofNat (tk+5)) 0),(Ik 95),(Sk kC (tk+6))]
noncomputable def NQ(P:ag)(kt tk:Nat):Obj:=Fo (Fn OJ OJ Qa 3 [] N N N (Sk Ks 349) (R 204) N 0)
noncomputable def W9(P:ag)(kt tk:Nat):Obj:=To #[]
noncomputable def W8(P:ag)(kt tk:Nat):Obj:=Eo
noncomputable def W7(P:ag)(kt tk:Nat):Obj:=⟨N,none,Fn Ak Ak P_ 0 [] N N N N N N 0,#[]⟩
noncomputable def NP(P:ag)(kt tk:Nat):Obj:=Co #[(Sk Ak (tk+10)),(Sk Ak (tk+11)),(Sk kC (tk+12)),(Ik 101),(Ik 1),(Ik 0),(Ik 0),(Ik 3),(R 206),(.bool af),(Ik 181),(R 207),N,N,N,(R 208),(.int (Int.ofNat (tk+13)) 0),(Ik 101),(Sk kC (tk+14))]
noncomputable def Ht(P:ag)(kt tk:Nat):Obj:=Fo (Fn Ak Ak P_ 3 [] N N N (Sk Nh (tk+8)) (R 209) N 0)
noncomputable def W6(P:ag)(kt tk:Nat):Obj:=To #[]
noncomputable def W5(P:ag)(kt tk:Nat):Obj:=Eo
noncomputable def W4(P:ag)(kt tk:Nat):Obj:=To #[(Sk OM (tk+19)),(Sk (Sx [100,114,101,115,115]) (tk+20)),(Sk (Sx [112,97,99,101]) (tk+21)),(Sk (Sx [119,105,100,101]) (tk+22)),(Sk (Sx [117,110,115,101,101,110]) (tk+23)),(Sk (Sx [116,101,120,116]) (tk+24)),(Sk (Sx [112,108,97,99,101]) (tk+25)),(Sk (Sx [107,105,110,100]) (tk+26)),(Sk (Sx [115,105,122,101]) (tk+27)),(Sk OK (tk+28)),(Sk (Sx [109,111,118,101]) (tk+29)),(Sk (Sx [109,97,110,121]) (tk+30))]
noncomputable def W3(P:ag)(kt tk:Nat):Obj:=To #[]
noncomputable def W0(P:ag)(kt tk:Nat):Obj:=⟨N,none,Fn Al Al P9 0 [] N N N N N N 0,#[]⟩
noncomputable def NO(P:ag)(kt tk:Nat):Obj:=Co #[(Sk Al (tk+16)),(Sk Al (tk+17)),(Sk kC (tk+18)),(Ik 111),(Ik 3),(Ik 0),(Ik 0),(Ik 3),(R 211),(.bool af),(Ik 181),(R 212),N,(R 213),(R 214),(R 215),(.int (Int.ofNat (tk+31)) 0),(Ik 111),(Sk kC (tk+32))]
noncomputable def Hs(P:ag)(kt tk:Nat):Obj:=Fo (Fn Al Al P9 3 [] N N N (Sk Nh (tk+8)) (R 216) N 0)
noncomputable def WZ(P:ag)(kt tk:Nat):Obj:=To #[]
noncomputable def WY(P:ag)(kt tk:Nat):Obj:=Eo
noncomputable def WX(P:ag)(kt tk:Nat):Obj:=To #[(Sk OM (tk+37)),(Sk (Sx [112,105,108,101]) (tk+38)),(Sk (Sx [116,114,97,105,108]) (tk+39)),(Sk (Sx [119,97,105,116]) (tk+40)),(Sk UC (tk+41)),(Sk (Sx [111,116,104,101,114]) (tk+42)),(Sk (Sx [97,104,101,97,100]) (tk+43)),(Sk (Sx [108,97,115,116]) (tk+44)),(Sk (Sx [110,101,97,114]) (tk+45)),(Sk (Sx [102,97,114]) (tk+46)),(Sk (Sx [109,105,100,100,108,101]) (tk+47)),(Sk (Sx [112,105,101,99,101]) (tk+48))]
noncomputable def WW(P:ag)(kt tk:Nat):Obj:=To #[]
noncomputable def WV(P:ag)(kt tk:Nat):Obj:=⟨N,none,Fn Aj Aj P8 0 [] N N N N N N 0,#[]⟩
noncomputable def NN(P:ag)(kt tk:Nat):Obj:=Co #[(Sk Aj (tk+34)),(Sk Aj (tk+35)),(Sk kC (tk+36)),(Ik 125),(Ik 2),(Ik 0),(Ik 0),(Ik 3),(R 218),(.bool af),(Ik 181),(R 219),N,(R 220),(R 221),(R 222),(.int (Int.ofNat (tk+49)) 0),(Ik 125),(Sk kC (tk+50))]
noncomputable def Hr(P:ag)(kt tk:Nat):Obj:=Fo (Fn Aj Aj P8 3 [] N N N (Sk Nh (tk+8)) (R 223) N 0)
noncomputable def WU(P:ag)(kt tk:Nat):Obj:=To #[]
noncomputable def WT(P:ag)(kt tk:Nat):Obj:=Eo
noncomputable def WS(P:ag)(kt tk:Nat):Obj:=To #[(Sk OM (tk+55)),(Sk (Sx [115,104,101,101,116]) (tk+56)),(Sk E7 (tk+57)),(Sk (Sx [121]) (tk+58)),(Sk (Sx [116,111,116,97,108]) (tk+59)),(Sk UC (tk+60)),(Sk (Sx [119,97,121]) (tk+61))]
noncomputable def WR(P:ag)(kt tk:Nat):Obj:=To #[]
noncomputable def WQ(P:ag)(kt tk:Nat):Obj:=⟨N,none,Fn Ai Ai P7 0 [] N N N N N N 0,#[]⟩
noncomputable def NM(P:ag)(kt tk:Nat):Obj:=Co #[(Sk Ai (tk+52)),(Sk Ai (tk+53)),(Sk kC (tk+54)),(Ik 145),(Ik 1),(Ik 0),(Ik 0),(Ik 3),(R 225),(.bool af),(Ik 181),(R 226),N,(R 227),(R 228),(R 229),(.int (Int.ofNat (tk+62)) 0),(Ik 145),(Sk kC (tk+63))]
noncomputable def Hq(P:ag)(kt tk:Nat):Obj:=Fo (Fn Ai Ai P7 3 [] N N N (Sk Nh (tk+8)) (R 230) N 0)
noncomputable def WO(P:ag)(kt tk:Nat):Obj:=To #[]
noncomputable def WN(P:ag)(kt tk:Nat):Obj:=Eo
noncomputable def WL(P:ag)(kt tk:Nat):Obj:=⟨N,none,Fn Am Am P6 0 [] N N N N N N 0,#[]⟩
noncomputable def NL(P:ag)(kt tk:Nat):Obj:=Co #[(Sk Am (tk+65)),(Sk Am (tk+66)),(Sk kC (tk+67)),(Ik 157),(Ik 2),(Ik 0),(Ik 0),(Ik 3),(R 232),(.bool af),(Ik 181),(R 233),N,N,N,(R 234),(.int (Int.ofNat (tk+68)) 0),(Ik 157),(Sk kC (tk+69))]
noncomputable def Hp(P:ag)(kt tk:Nat):Obj:=Fo (Fn Am Am P6 3 [] N N N (Sk Nh (tk+8)) (R 235) N 0)
noncomputable def WK(P:ag)(kt tk:Nat):Obj:=To #[]
noncomputable def WJ(P:ag)(kt tk:Nat):Obj:=Eo
noncomputable def WI(P:ag)(kt tk:Nat):Obj:=To #[(Sk (Sx [114,111,119]) (tk+74)),(Sk (Sx [119,111,114,100,115]) (tk+75)),(Sk (Sx [101,97,114,108,121]) (tk+76)),(Sk (Sx [108,97,116,101]) (tk+77)),(Sk (Sx [115,101,97,114,99,104]) (tk+78)),(Sk (Sx [101,114,114,111,114]) (tk+79)),(Sk (Sx [108,97,105,100]) (tk+80))]
noncomputable def WH(P:ag)(kt tk:Nat):Obj:=To #[]
noncomputable def WG(P:ag)(kt tk:Nat):Obj:=⟨N,none,Fn Ah Ah P5 0 [] N N N N N N 0,#[]⟩
noncomputable def NK(P:ag)(kt tk:Nat):Obj:=Co #[(Sk Ah (tk+71)),(Sk Ah (tk+72)),(Sk kC (tk+73)),(Ik 171),(Ik 1),(Ik 0),(Ik 0),(Ik 3),(R 237),(.bool af),(Ik 181),(R 238),N,(R 239),(R 240),(R 241),(.int (Int.ofNat (tk+81)) 0),(Ik 171),(Sk kC (tk+82))]
noncomputable def Ho(P:ag)(kt tk:Nat):Obj:=Fo (Fn Ah Ah P5 3 [] N N N (Sk Nh (tk+8)) (R 242) N 0)
noncomputable def WE(P:ag)(kt tk:Nat):Obj:=To #[]
noncomputable def WD(P:ag)(kt tk:Nat):Obj:=Eo
noncomputable def WC(P:ag)(kt tk:Nat):Obj:=⟨N,none,Fn Ag Ag P4 0 [] N N N N N N 0,#[]⟩
noncomputable def NJ(P:ag)(kt tk:Nat):Obj:=Co #[(Sk Ag (tk+84)),(Sk Ag (tk+85)),(Sk kC (tk+86)),(Ik 183),(Ik 1),(Ik 0),(Ik 0),(Ik 3),(R 244),(.bool af),(Ik 181),(R 245),N,N,N,(R 246),(.int (Int.ofNat (tk+87)) 0),(Ik 183),(Sk kC (tk+88))]
noncomputable def Hn(P:ag)(kt tk:Nat):Obj:=Fo (Fn Ag Ag P4 3 [] N N N (Sk Nh (tk+8)) (R 247) N 0)
noncomputable def w64(P:ag)(f:Nat->Obj)(kt tk:Nat):BT:=(.node (LD P) (.node (Rv P) (aK (HU P)) (aK (f 31))) (.node (Q1 P) (aK (CC P)) (aK (NN P kt tk))))
noncomputable def w65(P:ag)(f:Nat->Obj)(kt tk:Nat):BT:=(.node (Ly P) (.node (Rh P) (aK (HI P)) (aK (W8 P kt tk))) (.node (yP P) (aK (f 15)) (aK (WI P kt tk))))
noncomputable def w66(P:ag)(f:Nat->Obj)(kt tk:Nat):BT:=(.node (Hl P) (.node (Rn P) (aK (HO P)) (aK (Xd P kt tk))) (.node (vw P) (aK (f 7)) (aK (Hq P kt tk))))
noncomputable def w67(P:ag)(f:Nat->Obj)(kt tk:Nat):BT:=(.node (RA P) (.node (Q9 P) (aK (HA P)) (aK (W0 P kt tk))) (.node (H3 P) (aK (f 23)) (aK (NJ P kt tk))))
noncomputable def w68(P:ag)(f:Nat->Obj)(kt tk:Nat):BT:=(.node (RQ P) (.node (Rr P) (aK (HQ P)) (aK (f 35))) (.node (QZ P) (aK (f 3)) (aK (WS P kt tk))))
noncomputable def w69(P:ag)(f:Nat->Obj)(kt tk:Nat):BT:=(.node (RG P) (.node (Rf P) (aK (HE P)) (aK (W6 P kt tk))) (.node (H7 P) (aK (f 19)) (aK (Ho P kt tk))))
noncomputable def w70(P:ag)(f:Nat->Obj)(kt tk:Nat):BT:=(.node (RK P) (.node (Rl P) (aK (HM P)) (aK (W_ P kt tk))) (.node (Ic P) (aK (f 11)) (aK (NL P kt tk))))
noncomputable def w71(P:ag)(f:Nat->Obj)(kt tk:Nat):BT:=(.node (Ry P) (.node (Q5 P) (aK (Hw P)) (aK (WY P kt tk))) (.node (HY P) (aK (f 27)) .nil))
noncomputable def w72(P:ag)(f:Nat->Obj)(kt tk:Nat):BT:=(.node (boot_o_7 P) (.node (R' P) (w64 P f kt tk) (w65 P f kt tk)) (.node (LG P) (w66 P f kt tk) (w67 P f kt tk)))
noncomputable def w73(P:ag)(f:Nat->Obj)(kt tk:Nat):BT:=(.node (LK P) (.node (R7 P) (w68 P f kt tk) (w69 P f kt tk)) (.node (RX P) (w70 P f kt tk) (w71 P f kt tk)))
noncomputable def w74(P:ag)(f:Nat->Obj)(kt tk:Nat):BT:=(.node (RV P) (.node (Rt P) (aK (HS P)) (aK (f 33))) (.node (Ha P) (aK (f 1)) (aK (WU P kt tk))))
noncomputable def w75(P:ag)(f:Nat->Obj)(kt tk:Nat):BT:=(.node (Lx P) (.node (Hc P) (aK (HG P)) (aK (NP P kt tk))) (.node (H9 P) (aK (f 17)) (aK (WG P kt tk))))
noncomputable def w76(P:ag)(f:Nat->Obj)(kt tk:Nat):BT:=(.node (Lz P) (.node (Hg P) (aK (yM P)) (aK (Xb P kt tk))) (.node (Ig P) (aK (f 9)) (aK (WN P kt tk))))
noncomputable def w77(P:ag)(f:Nat->Obj)(kt tk:Nat):BT:=(.node (Hj P) (.node (Q7 P) (aK (Hy P)) (aK (Hs P kt tk))) (.node (H0 P) (aK (f 25)) .nil))
noncomputable def w78(P:ag)(f:Nat->Obj)(kt tk:Nat):BT:=(.node (RM P) (.node (Rp P) (aK (yO P)) (aK (f 37))) (.node (Ii P) (aK (f 5)) (aK (WQ P kt tk))))
noncomputable def w79(P:ag)(f:Nat->Obj)(kt tk:Nat):BT:=(.node (RD P) (.node (Ra P) (aK (yL P)) (aK (W4 P kt tk))) (.node (H5 P) (aK (f 21)) (aK (WD P kt tk))))
noncomputable def w80(P:ag)(f:Nat->Obj)(kt tk:Nat):BT:=(.node (RI P) (.node (Rj P) (aK (HK P)) (aK (NQ P kt tk))) (.node (Ia P) (aK (f 13)) (aK (WK P kt tk))))
noncomputable def w81(P:ag)(f:Nat->Obj)(kt tk:Nat):BT:=(.node (Hi P) (.node (Q3 P) (aK (Hu P)) (aK (WW P kt tk))) (.node (HW P) (aK (f 29)) .nil))
noncomputable def w82(P:ag)(f:Nat->Obj)(kt tk:Nat):BT:=(.node (boot_o_9 P) (.node (R9 P) (w74 P f kt tk) (w75 P f kt tk)) (.node (RZ P) (w76 P f kt tk) (w77 P f kt tk)))
noncomputable def w83(P:ag)(f:Nat->Obj)(kt tk:Nat):BT:=(.node (LJ P) (.node (R5 P) (w78 P f kt tk) (w79 P f kt tk)) (.node (LF P) (w80 P f kt tk) (w81 P f kt tk)))
noncomputable def w84(P:ag)(f:Nat->Obj)(kt tk:Nat):BT:=(.node (LC P) (.node (Ru P) (aK (HT P)) (aK (f 32))) (.node (Hb P) (aK (f 0)) (aK (Hr P kt tk))))
noncomputable def w85(P:ag)(f:Nat->Obj)(kt tk:Nat):BT:=(.node (Hk P) (.node (He P) (aK (HH P)) (aK (W7 P kt tk))) (.node (H_ P) (aK (f 16)) (aK (WH P kt tk))))
noncomputable def w86(P:ag)(f:Nat->Obj)(kt tk:Nat):BT:=(.node (LA P) (.node (Rm P) (aK (CE P)) (aK (Xc P kt tk))) (.node (yQ P) (aK (f 8)) (aK (WO P kt tk))))
noncomputable def w87(P:ag)(f:Nat->Obj)(kt tk:Nat):BT:=(.node (Lv P) (.node (Q8 P) (aK (Hz P)) (aK (NO P kt tk))) (.node (H2 P) (aK (f 24)) (aK (Hn P kt tk))))
noncomputable def w88(P:ag)(f:Nat->Obj)(kt tk:Nat):BT:=(.node (RO P) (.node (Rq P) (aK (HP P)) (aK (f 36))) (.node (Ij P) (aK (f 4)) (aK (WR P kt tk))))
noncomputable def w89(P:ag)(f:Nat->Obj)(kt tk:Nat):BT:=(.node (RE P) (.node (Rb P) (aK (HD P)) (aK (W5 P kt tk))) (.node (H6 P) (aK (f 20)) (aK (WE P kt tk))))
noncomputable def w90(P:ag)(f:Nat->Obj)(kt tk:Nat):BT:=(.node (RJ P) (.node (Rk P) (aK (HL P)) (aK (NR P kt tk))) (.node (Ib P) (aK (f 12)) (aK (Hp P kt tk))))
noncomputable def w91(P:ag)(f:Nat->Obj)(kt tk:Nat):BT:=(.node (Rx P) (.node (Q4 P) (aK (Hv P)) (aK (WX P kt tk))) (.node (HX P) (aK (f 28)) .nil))
noncomputable def w92(P:ag)(f:Nat->Obj)(kt tk:Nat):BT:=(.node (boot_o_8 P) (.node (R_ P) (w84 P f kt tk) (w85 P f kt tk)) (.node (R0 P) (w86 P f kt tk) (w87 P f kt tk)))
noncomputable def w93(P:ag)(f:Nat->Obj)(kt tk:Nat):BT:=(.node (abj P kt tk) (.node (R6 P) (w88 P f kt tk) (w89 P f kt tk)) (.node (RW P) (w90 P f kt tk) (w91 P f kt tk)))
noncomputable def w94(P:ag)(f:Nat->Obj)(kt tk:Nat):BT:=(.node (RT P) (.node (Hh P) (aK (HR P)) (aK (f 34))) (.node (Q0 P) (aK (f 2)) (aK (WT P kt tk))))
noncomputable def w95(P:ag)(f:Nat->Obj)(kt tk:Nat):BT:=(.node (Lw P) (.node (Rg P) (aK (HF P)) (aK (Ht P kt tk))) (.node (H8 P) (aK (f 18)) (aK (NK P kt tk))))
noncomputable def w96(P:ag)(f:Nat->Obj)(kt tk:Nat):BT:=(.node (RL P) (.node (Hf P) (aK (HN P)) (aK (Xa P kt tk))) (.node (Ie P) (aK (f 10)) (aK (WL P kt tk))))
noncomputable def w97(P:ag)(f:Nat->Obj)(kt tk:Nat):BT:=(.node (Rz P) (.node (Q6 P) (aK (Hx P)) (aK (WZ P kt tk))) (.node (HZ P) (aK (f 26)) .nil))
noncomputable def w98(P:ag)(f:Nat->Obj)(kt tk:Nat):BT:=(.node (LB P) (.node (Ro P) (aK (yN P)) (aK (f 38))) (.node (Ih P) (aK (f 6)) (aK (NM P kt tk))))
noncomputable def w99(P:ag)(f:Nat->Obj)(kt tk:Nat):BT:=(.node (RC P) (.node (Q_ P) (aK (HC P)) (aK (W3 P kt tk))) (.node (H4 P) (aK (f 22)) (aK (WC P kt tk))))
noncomputable def aat(P:ag)(f:Nat->Obj)(kt tk:Nat):BT:=(.node (RH P) (.node (Ri P) (aK (HJ P)) (aK (W9 P kt tk))) (.node (vt P) (aK (f 14)) (aK (WJ P kt tk))))
noncomputable def aas(P:ag)(f:Nat->Obj)(kt tk:Nat):BT:=(.node (Rw P) (.node (Q2 P) (aK (CD P)) (aK (WV P kt tk))) (.node (HV P) (aK (f 30)) .nil))
noncomputable def aar(P:ag)(f:Nat->Obj)(kt tk:Nat):BT:=(.node (boot_o_10 P) (.node (R8 P) (w94 P f kt tk) (w95 P f kt tk)) (.node (RY P) (w96 P f kt tk) (w97 P f kt tk)))
noncomputable def aaq(P:ag)(f:Nat->Obj)(kt tk:Nat):BT:=(.node (LI P) (.node (LH P) (w98 P f kt tk) (w99 P f kt tk)) (.node (Hm P) (aat P f kt tk) (aas P f kt tk)))
noncomputable def aap(P:ag)(f:Nat->Obj)(kt tk:Nat):BT:=(.node (boot_o_1 P) (.node (o3e P kt tk) (w72 P f kt tk) (w73 P f kt tk)) (.node (boot_o_5 P) (w82 P f kt tk) (w83 P f kt tk)))
noncomputable def aao(P:ag)(f:Nat->Obj)(kt tk:Nat):BT:=(.node (boot_o_2 P) (.node (boot_o_4 P) (w92 P f kt tk) (w93 P f kt tk)) (.node (boot_o_6 P) (aar P f kt tk) (aaq P f kt tk)))
noncomputable def Te(P:ag)(f:Nat->Obj)(kt tk:Nat):BT:=(.node (Zy P) (aap P f kt tk) (aao P f kt tk))
noncomputable def ne:Nat:=249
noncomputable def kte:Nat:=90
noncomputable abbrev Wj:Pos:=⟨92,0,93,30⟩
noncomputable abbrev Wi:Pos:=⟨183,0,213,20⟩
@[irreducible] noncomputable def env:Env:={scope:=msc,locals:=kV,globals:=kV,cells:=[],code:=.ref 13,frame:=aa 14}
@[irreducible] noncomputable def body:List Stmt:=pw.main.body
@[irreducible] noncomputable def cd:Code:=.body body env
noncomputable abbrev p0:Pos:=⟨0,0,0,0⟩
noncomputable abbrev ann:Option aq:=aa (.ref 6)
noncomputable def aan(P:ag):BT:=(.node (boot_o_1 P) (.node (boot_o_3 P) (aK (boot_o_7 P)) .nil) (.node (boot_o_5 P) (aK (boot_o_9 P)) .nil))
noncomputable def aam(P:ag):BT:=(.node (boot_o_2 P) (.node (boot_o_4 P) (aK (boot_o_8 P)) .nil) (.node (boot_o_6 P) (aK (boot_o_10 P)) .nil))
noncomputable def T0(P:ag):BT:=(.node (Zy P) (aan P) (aam P))
@[irreducible] noncomputable def S0(w:cW)(os:dc):iB:=⟨T0 w.params,11,{},#[],{},boot_toks,os⟩
noncomputable def x0:Sem (aq×Addr):=do
 let code ←moduleCode pw.main
 let frame ←newBodyFrame code kV kV
 pure (code,frame)
noncomputable def Lc(a:aq×Addr):Flow:=match br a.2 14 with
 |true=>.ret a.1
 |false=>.next
@[irreducible] noncomputable def Sb(w:cW)(os:dc):iB:=⟨Tb w.params,nb,{},#[],{},kb,os⟩
@[irreducible] noncomputable def Sc(w:cW)(os:dc):iB:=⟨Tc w.params,nc,{},#[],{},kc,os⟩
@[irreducible] noncomputable def Sd(f:Nat->Obj)(kt tk:Nat)(w:cW)(os:dc):iB:=⟨Td w.params f kt,nd,{},#[],{},tk,os⟩
@[irreducible] noncomputable def Se(f:Nat->Obj)(kt tk:Nat)(w:cW)(os:dc):iB:=⟨Te w.params f kt tk,ne,{},#[],{},tk+kte,os⟩
@[irreducible] noncomputable def Gf:List Stmt:=[sv0,sv1,sv2,sv3,sv4,sv5,sv6,sv7,sv8,sv9,aaD,Qb]
@[irreducible] noncomputable def DF:List Stmt:=[Qa,aaC,P_,P9,P8,P7,P6,P5,P4]
noncomputable def xb(b:List Stmt):Sem (aq×Addr):=do
 let code ←moduleCode (mm b)
 let frame ←newBodyFrame code kV kV
 pure (code,frame)
noncomputable def runC'(p:cY)(b:List Stmt)(q r:Pos)(w:cW)(os:dc):Option (Flow×iB×Code×Pos):=segRunT treeTable p w 11 ann 1 1800 (Sb w os) (piecesOf Gf env (.body b env) r [ib q])
noncomputable def resC'(b:List Stmt)(w:cW)(os:dc):Option (Flow×iB×Code×Pos):=aa (.next,Sc w os,.body b env,Wj)
noncomputable def runE'(p:cY)(b:List Stmt)(q r:Pos)(f:Nat->Obj)(kt tk:Nat)(w:cW)(os:dc):Option (Flow×iB×Code×Pos):=segRunT treeTable p w 11 ann 1 400 (Sd f kt tk w os) (piecesOf DF env (.body b env) r [ib q])
noncomputable def resE'(b:List Stmt)(f:Nat->Obj)(kt tk:Nat)(w:cW)(os:dc):Option (Flow×iB×Code×Pos):=aa (.next,Se f kt tk w os,.body b env,Wi)
noncomputable def run0'(p:cY)(b:List Stmt)(w:cW)(os:dc):Option (Flow×iB×Code×Pos):=segRunT treeTable p w 11 ann 0 40 (S0 w os) ⟨(xb b).wrap (λa=>.pure (.done (Lc a))) deadEnd id id,.builtin "claim.caller" {},default,[]⟩
noncomputable def out0(w:cW)(os:dc):Option (Flow×iB×Code×Pos):=aa (.ret (.ref 13),Sb w os,.builtin "claim.caller" {},default)
theorem runC_self:runC'=runC':=rfl
theorem resC_self:resC'=resC':=rfl
theorem runE_self:runE'=runE':=rfl
theorem resE_self:resE'=resE':=rfl
theorem run0_self:run0'=run0':=rfl
theorem out0_self:out0=out0:=rfl
end Mine.Internal
lay_quick Mine.Internal.run0' Mine.Internal.out0 Mine.Internal.runC' Mine.Internal.resC' Mine.Internal.runE' Mine.Internal.resE'
name_quick run0Q for Mine.Internal.run0' by Mine.Internal.run0_self
name_quick out0Q for Mine.Internal.out0 by Mine.Internal.out0_self
name_quick runCQ for Mine.Internal.runC' by Mine.Internal.runC_self
name_quick resCQ for Mine.Internal.resC' by Mine.Internal.resC_self
name_quick runEQ for Mine.Internal.runE' by Mine.Internal.runE_self
name_quick resEQ for Mine.Internal.resE' by Mine.Internal.resE_self
namespace Mine.Internal
theorem Li(p:cY)(b:List Stmt)(w:cW)(os:dc):run0' p b w os=out0 w os:=by
 rw[PySem.W.Fast.run0Q_eq,PySem.W.Fast.out0Q_eq];kernel_rfl
theorem Lg(p:cY)(b:List Stmt)(q r:Pos)(f:Nat->Obj)(kt tk:Nat)(w:cW)(os:dc):runE' p b q r f kt tk w os=resE' b f kt tk w os:=by
 rw[PySem.W.Fast.runEQ_eq,PySem.W.Fast.resEQ_eq];kernel_rfl
theorem Lh(p:cY)(b:List Stmt)(q r:Pos)(w:cW):∀os:dc,runC' p b q r w os=resC' b w os:=by
 rw[PySem.W.Fast.runCQ_eq,PySem.W.Fast.resCQ_eq];refine byRow2 "set-order" (P:=λw=>∀os:dc,PySem.W.Fast.runCQ p b q r w os=PySem.W.Fast.resCQ b w os) (λw=>?_) (λw=>?_) w
 ·refine byRow2 "special-get-raises" (P:=λw=>∀os:dc,PySem.W.Fast.runCQ p b q r (w.withFollow "set-order" false) os=PySem.W.Fast.resCQ b (w.withFollow "set-order" false) os) (λw os=>?_) (λw os=>?_) w
  ·kernel_rfl
  ·kernel_rfl
 ·refine byRow2 "special-get-raises" (P:=λw=>∀os:dc,PySem.W.Fast.runCQ p b q r (w.withFollow "set-order" af) os=PySem.W.Fast.resCQ b (w.withFollow "set-order" af) os) (λw os=>?_) (λw os=>?_) w
  ·kernel_rfl
  ·kernel_rfl
noncomputable def runC(q r:Pos)(w:cW)(os:dc):Option (Flow×iB×Code×Pos):=segRunT treeTable pw w 11 ann 1 1800 (Sb w os) (piecesOf Gf env cd r [ib q])
noncomputable def resC(q r:Pos)(w:cW)(os:dc):Option (Flow×iB×Code×Pos):=aa (.next,Sc w os,cd,Wj)
noncomputable def runE(q r:Pos)(f:Nat->Obj)(kt tk:Nat)(w:cW)(os:dc):Option (Flow×iB×Code×Pos):=segRunT treeTable pw w 11 ann 1 400 (Sd f kt tk w os) (piecesOf DF env cd r [ib q])
noncomputable def resE(q r:Pos)(f:Nat->Obj)(kt tk:Nat)(w:cW)(os:dc):Option (Flow×iB×Code×Pos):=aa (.next,Se f kt tk w os,cd,Wi)
noncomputable def run0(w:cW)(os:dc):Option (Flow×iB×Code×Pos):=segRunT treeTable pw w 11 ann 0 40 (S0 w os) ⟨x0.wrap (λa=>.pure (.done (Lc a))) deadEnd id id,.builtin "claim.caller" {},default,[]⟩
theorem Ow:Code.body body env=cd:=by unfold cd;rfl
theorem UT:xb body=x0:=by
 have:mm body=pw.main:=by kernel_rfl
 unfold xb x0;rw[this]
theorem QM(w:cW)(os:dc):run0 w os=out0 w os:=by
 unfold run0;rw[←UT];exact Li pw body w os
theorem QJ(q r:Pos)(f:Nat->Obj)(kt tk:Nat)(w:cW)(os:dc):runE q r f kt tk w os=resE q r f kt tk w os:=by
 unfold runE resE;rw[←Ow];exact Lg pw body q r f kt tk w os
theorem QL(q r:Pos)(w:cW)(os:dc):runC q r w os=resC q r w os:=by
 unfold runC resC;rw[←Ow];exact Lh pw body q r w os
end Mine.Internal
end
namespace Mine.Internal
section
set_option backward.match.sparseCases false
variable{l:List Int}
noncomputable def TS(s:Stmt):Expr:=(ym s).2.2.2.1
noncomputable def acv(s:Stmt):Pos:=(ym s).2.2.2.2
noncomputable def vN:Expr->(List (Option Expr)×List Expr)×Int×Str×Pos
 |.Dict ks vs p=>((ks,vs),0,⟨#[]⟩,p)
 |.Constant (.int i) _ p=>(([],[]),i,⟨#[]⟩,p)
 |.Constant (.str x) _ p=>(([],[]),0,x,p)
 |_=>(([],[]),0,⟨#[]⟩,⟨0,0,0,0⟩)
noncomputable def Y_(e:Expr):List (Option Expr):=(vN e).1.1
noncomputable def Y9(e:Expr):List Expr:=(vN e).1.2
noncomputable def ab5:Expr->Pos:=Expr.pos
@[irreducible] noncomputable def dK:List (Option Expr):=Y_ (TS (st 12))
@[irreducible] noncomputable def dV:List Expr:=Y9 (TS (st 12))
noncomputable abbrev mL:Str:=Sx [98,51,95,101,120,99,101,112,116,105,111,110,115]
noncomputable def kOf(o:Option Expr):Int×Pos:=o.elim (0,⟨0,0,0,0⟩) λe=>((vN e).2.1,(vN e).2.2.2)
noncomputable def vOf(e:Expr):Str×Pos:=((vN e).2.2.1,(vN e).2.2.2)
noncomputable def N2(q:Int×Pos):Option Expr:=aa (.Constant (.int q.1) 0 q.2)
noncomputable def Nk(q:Str×Pos):Expr:=.Constant (.str q.1) 0 q.2
theorem Zl:dK=(dK.map kOf).map N2:=by kernel_rfl
theorem Zh:dV=(dV.map vOf).map Nk:=by kernel_rfl
@[irreducible] noncomputable def m9:List (Int×Str):=(dK.map λx=>(kOf x).1).zip (dV.map λx=>(vOf x).1)
theorem KZ:st 12=.Assign [.Name mL ⟨94,0,94,13⟩] (.Dict dK dV (ab5 (TS (st 12)))) (acv (st 12)):=by kernel_rfl
noncomputable def u':List Int->Bool
 |[]=>af
 |[_]=>af
 |a::b::r=>decide (a<b)&&u' (b::r)
theorem JT:u' (m9.map (·.1))=af:=by kernel_rfl
theorem xG:m9.length=650:=by kernel_rfl
theorem GI:∀{a:Int},u' (a::l)=af->∀x∈l,a<x:=by
 induction l with
 |nil=>intro a _ x h;cases h
 |cons b r ih =>
  intro a h x hx;have h:=Bool.and_eq_true_iff.mp (show(decide (a<b)&&u' (b::r))=af from h);rcases List.mem_cons.mp hx with rfl|hx
  ·exact of_decide_eq_true h.1
  ·exact Int.lt_trans (of_decide_eq_true h.1) (ih h.2 x hx)
theorem yx:u' l=af->l.Nodup:=by
 induction l with
 |nil=>exact λzz=>List.nodup_nil
 |cons a l ih =>
  refine λh=>List.nodup_cons.mpr ⟨λha=>Int.lt_irrefl _ (GI h a ha),ih ?_⟩;cases l with
  |nil=>rfl
  |cons b r=>exact(Bool.and_eq_true_iff.mp (show(decide (a<b)&&u' (b::r))=af from h)).2
noncomputable def pairsOf(env:Env)(pos:Pos)(ks:List (Int×Pos))(vs:List (Str×Pos)):List (Sem aq×Sem aq):=
 (ks.zip vs).map λq=>(eval (.Constant (.int q.1.1) 0 q.1.2) env,do let x ←eval (.Constant (.str q.2.1) 0 q.2.2) env;f6 pos;pure x)
theorem yD(env:Env)(pos:Pos)(ks:List (Int×Pos)):∀(vs:List (Str×Pos)),
  (evalEachOpt (ks.map N2) env).zip ((evalEach (vs.map Nk) env).map λv=>do let x ←v;f6 pos;pure x)=(pairsOf env pos ks vs).map λp=>(aa p.1,p.2):=by
 induction ks with
 |nil=>exact λzz=>U
 |cons k ks ih =>
  intro vs;cases vs with
  |nil=>rfl
  |cons v vs=>exact congrArg (List.cons _) (ih vs)
theorem yF(env:Env)(pos:Pos):∀(ks:List (Int×Pos)) (vs:List (Str×Pos)),jw (pairsOf env pos ks vs) ((ks.map (·.1)).zip (vs.map (·.1)))
 |[],_=>.nil
 |_::_,[]=>.nil
 |k::ks,v::vs=>by
  refine .cons ⟨λh=>?_,λh=>?_⟩ (yF env pos ks vs)
  ·exact wpAny_mkInt h
  ·exact ae (wpAny_mkText (ae (de (av h))))
theorem XB:m9=((dK.map kOf).map (·.1)).zip ((dV.map vOf).map (·.1)):=by
 unfold m9;simp[Function.comp_def]
section
variable{w:cW}{A:bZ}{E:aq->aA->Prop}{s:aA}
theorem Kv{env: Env}{pos: Pos}{Q:aq->aA->Prop}(hb:2<=s.heap.objs.size)
  (hQ:∀es ep l tk,EA es.toList m9->l[0]?=aa (dO es ep)->l.length=39->Q (.ref (s.heap.objs.size+0)) {s with heap:=HB s.heap l,toks:=tk}):
  aH (ba pw w) A (eval (.Dict dK dV pos) env) Q E s:=by
 rw[arm_eval_Dict,Zl,Zh,yD];refine ae (de ?_);refine display (qs:=m9) hb (XB▸yF env pos _ _) ?_ (yx JT) (by rw[xG];lia) (by rw[xG];lia) ?_
 ·intro h
  have e:=xG;rw[h]at e;exact absurd e ay
 ·intro es ep l tk he h0 hl
  exact hQ es ep l tk he h0 (by rw[hl,xG])
end
theorem Iw(P:ag)(kt:Nat):lh mL (gu P mL) (.str mL kt) (.ref nc) (E6 P)=Z3 P kt:=by kernel_rfl
theorem D_(P:ag):(match(E6 P).data with | .dict es _=>aRefKeyMayBeTheName mL es|_=>af)=false:=by kernel_rfl
theorem yT(P:ag):(Tc P).get 3=aa (E6 P):=by kernel_rfl
theorem IA(P:ag)(f:Nat->Obj)(kt:Nat):
  (((bc nc).map λi=>((Tc P).get i).getD default)++(bc 39).map f).set 3 (Z3 P kt)=(bc nd).map λi=>((Td P f kt).get i).getD default:=by
 kernel_rfl
end
section
variable{l:List Obj}
theorem T3{b: Heap}{a: Nat}(h:a<b.objs.size):(HB b l).get? a=b.get? a:=by
 unfold Heap.get?;rw[show(HB b l).objs[a]?=b.objs[a]? from Array.getElem?_append_left h]
theorem A_{i: Nat}{o o': Obj}{F:Obj->Obj}(h:l[i]?=aa o)(e:F o=o'):l.modify i F=l.set i o':=by
 apply List.ext_getElem?;intro j;rw[List.getElem?_modify,List.getElem?_set];by_cases q:i=j
 ·subst q
  obtain⟨i8,hv⟩:=List.getElem?_eq_some_iff.mp h;simp[i8,hv,e]
 ·simp[q]
theorem S9(l:List Obj)(h:l.length=39):(bc 39).map (λi=>l.getD i default)=l:=by
 apply List.ext_getElem?;intro i;rw[cM];by_cases q:i<39
 ·rw[iT q]
  have:i<l.length:=by lia
  simp[List.getD,aP this]
 ·rw[d9 (by simp;lia),d9 (by lia)]
  rfl
theorem SR(P:ag)(l:List Obj)(hl:l.length=39)(kt:Nat)(F:Obj->Obj)(hF:F (E6 P)=Z3 P kt):
  (HB (absHeap (Tc P) nc {}) l).update 3 F=absHeap (Td P (λi=>l.getD i default) kt) nd {}:=by
 have e:=IA P (λi=>l.getD i default) kt;rw[S9 l hl]at e;show Heap.mk (((absHeap (Tc P) nc {}).objs++l.toArray).modify 3 F) {}=Heap.mk ((bc nd).map λi=>((Td P (λi=>l.getD i default) kt).get i).getD default).toArray {}
 congr 1
 apply Array.ext';rw[←e,Array.toList_modify,Array.toList_append];show List.modify (((bc nc).map λi=>((Tc P).get i).getD default)++l) 3 F=_;refine A_ ?_ hF;rw[mQ (by simp[nc]),cM,iT (by simp[nc])];rw[Option.map_some,yT];rfl
theorem Bg(P:ag):alive (E6 P)=aa (E6 P):=by kernel_rfl
theorem BG:env.locals=3:=by kernel_rfl
theorem L':env.kindOf mL=aa .local:=by kernel_rfl
theorem LP:(env.scope.kind==.class || (env.scope.kind==.module&&env.locals != env.globals))=false:=by kernel_rfl
section
variable{w:cW}{os:dc}{A:bZ}{E:aq->aA->Prop}
theorem QK{Q:Flow->aA->Prop}(hQ:∀f kt tk es ep,EA es.toList m9->f 0=dO es ep->Q .next (Sd f kt tk w os).abs):
  aH (ba pw w) A (exec (st 12) env) Q E (Sc w os).abs:=by
 rw[KZ];have hsc:(Sc w os).abs=⟨absHeap (Tc w.params) nc {},#[],{},kc,os⟩:=by unfold Sc;rfl
 rw[hsc];have hsz:(absHeap (Tc w.params) nc {}).objs.size=nc:=absHeap_size _ _ _;refine wpAny_Assign_Name ?_;refine Kv (by show 2<=(absHeap (Tc w.params) nc {}).objs.size;rw[hsz];decide) λes ep l tk he h0 hl=>?_;dsimp only;rw[hsz,storeName_local L' LP,BG];have hg:(HB (absHeap (Tc w.params) nc {}) l).get? 3=aa (E6 w.params):=by
  rw[T3 (by rw[hsz];decide)];rw[abs_get ay (yT _),Bg]
 refine dH λlg eS=>?_;obtain⟨rR,CZ,hd,Yj⟩:∃rR CZ,(E6 w.params).data=.dict rR CZ/\aRefKeyMayBeTheName mL rR=false:=by
  have:=D_ w.params;cases Ut:(E6 w.params).data with
  |dict rR CZ=>rw[Ut]at this;exact⟨rR,CZ,U,this⟩
  |_=>rw[Ut]at this;cases this
 refine eS ?_;unfold nsSet;refine ae ?_;unfold strHash;refine ae (wpAny_askSetting (av ?_));refine ae (wpAny_mkText ?_);refine ae (fV (o:=E6 w.params) hg ?_);rw[hd];dsimp only;rw[Yj];simp only[dG,if_false];refine wpAny_updatePart (o:=E6 w.params) hg ?_;have:=hQ (λi=>l.getD i default) tk (tk+1) es ep he (by simp[List.getD,h0]);unfold Sd SharedT.abs at this;rw[←SR w.params l hl tk (lh mL (gu w.params mL) (.str mL tk) (.ref (nc+0))) (Iw w.params tk)]at this;exact this
end
end
section
theorem BN:body=Gf++st 12::DF:=by kernel_rfl
theorem TA:blockStart body env=.pure ():=by kernel_rfl
theorem EH(l c8:List Stmt)(e:Env):jI (l++c8) e=(jI l e).bind (λf=>match f with | .next=>jI c8 e|f=>.pure f):=by
 have h:=execs_app_wrap (env:=e) l c8 doneF (λx=>.raise x) id id
 induction l with
 |nil=>rfl
 |cons s l ih =>
  show Sem.bind (exec s e) (λf=>match f with | .next=>jI (l++c8) e|f=>pure f)=Sem.bind (Sem.bind (exec s e) (λf=>match f with | .next=>jI l e|f=>pure f)) _;rw[Sem.bind_assoc]
  congr 1
  funext f
  cases f<;>first|exact ih (execs_app_wrap l c8 _ _ _ _)|rfl
section
variable{w:cW}{os:dc}
noncomputable abbrev G1(q:Pos):Ctx:=Ctx.of cd [ib q]
noncomputable def aroundOf(Γ:Ctx):bZ:=⟨Γ.handled,frameCount Γ.below+Γ.code.weight,none,none,Γ.units⟩
theorem Em(Γ:Ctx):Γ.In (aroundOf Γ):=⟨U,aW _,λzz h=>(nomatch h),λzz h=>(nomatch h),aW _⟩
theorem wpC(q r:Pos):Sem.wp (ba pw w) (G1 q) (jI Gf env) (λf zz cZ=>f=.next/\cZ=(Sc w os).abs) (λzz zz zz=>False) r (Sb w os).abs:=by
 have h0:=QL q r w os;unfold runC resC at h0;have h:=segRun_of h0;rw[←table_eq_tree]at h;have hg:((Sc w os).abs).gens=#[]:=by unfold Sc;rfl
 exact AW (res:=id) (B:=[ib q]) (N:=3) U hg (λc q'=>C1 _ c q' q) (λh=>zN h) h
theorem wpE(q r:Pos)(f:Nat->Obj)(kt tk:Nat):Sem.wp (ba pw w) (G1 q) (jI DF env) (λg zz cZ=>g=.next/\cZ=(Se f kt tk w os).abs) (λzz zz zz=>False) r (Sd f kt tk w os).abs:=by
 have h0:=QJ q r f kt tk w os;unfold runE resE at h0;have h:=segRun_of h0;rw[←table_eq_tree]at h;have hg:((Se f kt tk w os).abs).gens=#[]:=by unfold Se;rfl
 have he:=λ(c:Code)(q':Pos)=>C1 (p:=pw) (w:=w) (n₀:=11) (ann:=ann) (Se f kt tk w os).abs c q' q;generalize (Se f kt tk w os).abs=sE at h hg he ⊢;generalize (Sd f kt tk w os).abs=sD at h ⊢;exact AW (res:=id) (B:=[ib q]) (N:=3) U hg he (λh=>zN h) h
def J2(w:cW)(os:dc)(s:aA):Prop:=∃f kt tk es ep,EA es.toList m9/\f 0=dO es ep/\s=(Se f kt tk w os).abs
theorem PC(q r:Pos):Sem.wp (ba pw w) (G1 q) (jI body env) (λf zz cZ=>f=.next/\J2 w os cZ) (λzz zz zz=>False) r (Sb w os).abs:=by
 have e:jI body env=(jI Gf env).bind (λf=>match f with | .next=>jI (st 12::DF) env|f=>.pure f):=by
  rw[BN];exact EH _ _ _
 rw[e,Sem.wp_bind];refine jE _ _ _ (λf r cZ h=>?_) (λzz zz zz h=>h) _ _ (wpC q r);have h1:f=.next:=h.1;have h2:cZ=(Sc w os).abs:=h.2;clear h;subst h1;rw[h2];show Sem.wp (ba pw w) (G1 q) (jI (st 12::DF) env) _ _ _ _;rw[execs_cons,Sem.wp_bind'];have hD:=QK (A:=aroundOf (G1 q)) (E:=λzz zz=>False) (w:=w) (os:=os) (Q:=λf s'=>f=.next/\∃g kt tk es ep,EA es.toList m9/\g 0=dO es ep/\s'=(Sd g kt tk w os).abs)
  (λg kt tk es ep he h0=>⟨U,g,kt,tk,es,ep,he,h0,U⟩) (G1 q) r (Em (G1 q))
 refine jE _ _ _ (λf q' cZ h=>?_) (λzz zz zz h=>h) _ _ hD;refine dH λlg eS=>?_;obtain⟨h1,g,kt,tk,es,ep,he,h0,h3⟩:=h;refine eS ?_;rw[h1,h3];exact jE _ _ _ (λf q'' ie h=>⟨h.1,g,kt,tk,es,ep,he,h0,h.2⟩) (λzz zz zz h=>h) _ _ (wpE q q' g kt tk)
theorem wp0:Sem.wp (ba pw w) Tx x0 (λa zz cZ=>a=(.ref 13,14)/\cZ=(Sb w os).abs) (λzz zz zz=>False) default (S0 w os).abs:=by
 have h0:=QM w os;unfold run0 out0 at h0;have h:=segRun_of h0;rw[←table_eq_tree]at h;have hg:((Sb w os).abs).gens=#[]:=by unfold Sb;rfl
 have h1:=AW (res:=Lc) (B:=[]) (N:=1) U hg (λc q=>MC _ c q) (λh=>JQ h) h;refine jE _ _ _ (λa zz cZ h=>⟨?_,h.2⟩) (λzz zz zz h=>h) _ _ h1;obtain⟨v,n⟩:=a;have h2:=h.1;unfold Lc at h2;dsimp only at h2;cases hb:br n 14 with
 |false=>rw[hb]at h2;cases h2
 |true =>
  rw[hb]at h2;cases h2;have:=a9 hb;rw[this]
theorem ER:behindTheImports pw=body:=by kernel_rfl
theorem Tg:({scope:=pw.main.scope,locals:=kV,globals:=kV,cells:=[],code:=.ref 13,frame:=aa 14}:Env)=env:=by kernel_rfl
theorem KR:(topStub pw).cur=x0.bind (λa=>(run (.body (behindTheImports pw) {scope:=pw.main.scope,locals:=kV,globals:=kV,cells:=[],code:=a.1,frame:=aa a.2})).bind λzz=>ret .none):=by
 unfold topStub x0;show Sem.bind (moduleCode pw.main) _=Sem.bind (Sem.bind (moduleCode pw.main) _) _;rw[Sem.bind_assoc]
 congr 1
 funext code
 show Sem.bind (newBodyFrame code kV kV) _=Sem.bind (Sem.bind (newBodyFrame code kV kV) _) _;rw[Sem.bind_assoc];rfl
theorem Jr(q:Pos):Tx.enter (.body body env) none q=G1 q:=by unfold G1 cd;rfl
theorem Vb:Sem.wp (ba pw w) Tx (topStub pw).cur (Sem.finPost (ba pw w) Tx λr s'=>(∃f,r=.ok f)/\J2 w os s'/\s'.gens=#[]) (λzz zz zz=>False) default (S0 w os).abs:=by
 rw[KR,Sem.wp_bind];refine jE _ _ _ (λa q cZ h=>?_) (λzz zz zz h=>h) _ _ wp0;rw[h.1,h.2];dsimp only;rw[ER,Tg,Sem.wp_bind];show Sem.wp (ba pw w) Tx (.call (.body body env) none false [] fun | .ok f=>.pure f | .error e=>.raise e) _ _ _ _;rw[Sem.wp_call,Jr,wpCode_iff_wp];have abS:(ba pw w).den (G1 q).code=(blockStart body env).bind (λzz=>((jI body env).onRaise («leaving» env)).bind λf=>(Sem.pure (Fin.done f):Sem Fin)):=by
  show kY g_ cd=_;unfold cd;rfl
 rw[abS,TA,Sem.wp_bind,Sem.wp_pure,Sem.wp_bind,Sem.wp_onRaise];refine jE _ _ _ (λf r ie h=>?_) (λzz zz zz h=>h.elim) _ _ (PC q q);rw[h.1,Sem.wp_pure];simp only[Sem.finPost,Sem.wp_pure];show(∃f,(Except.ok (Flow.ret ji):Result)=Except.ok f)/\J2 w os ie/\ie.gens=#[];refine⟨⟨_,U⟩,h.2,?_⟩;refine B1 (h.2) λg kt tk es ep he h0 Pg=>?_;obtain rfl:=Pg;unfold Se;rfl
end
end
end Mine.Internal
namespace Mine.Internal
@[irreducible] noncomputable def xd(P:ag):Heap:=absHeap (T0 P) 11 {}
@[irreducible] noncomputable def fq(P:ag)(f:Nat->Obj)(kt tk:Nat):Heap:=absHeap (Te P f kt tk) ne {}
noncomputable def bn0:List Str:=[Sx [95,119,97,108,108],Sx [95,95,110,97,109,101,95,95],Sx [105,110,115,111,114,116,95,114,105,103,104,116],Sx [98,105,115,101,99,116,95,114,105,103,104,116],Sx [105,110,115,111,114,116,95,108,101,102,116],Sx [98,105,115,101,99,116,95,108,101,102,116],Sx [69,77,80,84,89,83,84,82,73,78,71],Sx [95,65,99,99,117,109,117,108,97,116,111,114],Sx [98,49,95,115,101,116],Sx [105,110,95,116,97,98,108,101,95,98,49],Sx [98,51,95,101,120,99,101,112,116,105,111,110,115],Sx [109,97,112,95,116,97,98,108,101,95,98,51],Sx [95,108,97,119,95,100,114,97,119,110],Sx [95,108,97,119,95,116,121,112,101,100],Sx [95,108,97,119,95,114,101,115,116],Sx [95,108,97,119,95,116,117,114,110],Sx [95,108,97,119,95,106,117,100,103,101,100],Sx [95,108,97,119,95,104,101,108,100],Sx [108,97,119]]
theorem Zz:pw.boundNames=bn0:=by kernel_rfl
theorem NT:importedModules pw.main.body=[]:=by kernel_rfl
noncomputable def A9(l:List Str)(h:Heap):Bool:=h.isNs dk&&(h.nsKeys dk).all λk=>startupNames.contains k || l.contains k
theorem Xl(h:Heap)(c:A9 bn0 h=af):namesBound pw h=af:=by
 unfold A9 at c;unfold namesBound;rw[Zz];exact c
noncomputable def chk1(P:ag)(f:Nat->Obj)(kt tk:Nat):Bool:=
 staticsOk [] (xd P) (fq P f kt tk)&&A9 bn0 (fq P f kt tk)&&laidKept (xd P) (fq P f kt tk)&&(fq P f kt tk).accountedOkI [] &&
 (fq P f kt tk).isNs dk&&(fq P f kt tk).isNs builtinsNs&&(fq P f kt tk).bmainOk
theorem chk1_self:chk1=chk1:=rfl
noncomputable def bltL(P:ag)(f:Nat->Obj)(kt tk:Nat):Option Str×List (Str×aq):=(fq P f kt tk).bltView
noncomputable def bltR(P:ag)(f:Nat->Obj)(kt tk:Nat):Option Str×List (Str×aq):=bltViewBooted
theorem bltL_self:bltL=bltL:=rfl
theorem bltR_self:bltR=bltR:=rfl
end Mine.Internal
lay_quick Mine.Internal.chk1 Mine.Internal.bltL Mine.Internal.bltR
name_quick chk1Q for Mine.Internal.chk1 by Mine.Internal.chk1_self
name_quick bltLQ for Mine.Internal.bltL by Mine.Internal.bltL_self
name_quick bltRQ for Mine.Internal.bltR by Mine.Internal.bltR_self
namespace Mine.Internal
theorem vR(P:ag)(f:Nat->Obj)(kt tk:Nat):chk1 P f kt tk=af:=by
 rw[PySem.W.Fast.chk1Q_eq];kernel_rfl
theorem JL(P:ag)(f:Nat->Obj)(kt tk:Nat):bltL P f kt tk=bltR P f kt tk:=by
 rw[PySem.W.Fast.bltLQ_eq,PySem.W.Fast.bltRQ_eq];kernel_rfl
theorem xE(P:ag):boot_heap P=xd P:=by kernel_rfl
end Mine.Internal
namespace Mine.Internal
section
section
variable{w:cW}{os:dc}
theorem xO:(S0 w os).abs=⟨xd w.params,#[],{},boot_toks,os⟩:=by unfold S0 xd;rfl
theorem BQ(f:Nat->Obj)(kt tk:Nat):(Se f kt tk w os).abs=⟨fq w.params f kt tk,#[],{},tk+kte,os⟩:=by unfold Se fq;rfl
theorem I0(P:ag):(xd P).objs.size=11:=by unfold xd;exact absHeap_size _ _ _
theorem y_(P:ag)(f:Nat->Obj)(kt tk:Nat):(fq P f kt tk).objs.size=ne:=by unfold fq;exact absHeap_size _ _ _
theorem abc(P:ag)(f:Nat->Obj)(kt tk:Nat):(fq P f kt tk).get? 0=(xd P).get? 0:=by kernel_rfl
theorem abb(P:ag)(f:Nat->Obj)(kt tk:Nat):(fq P f kt tk).get? 1=(xd P).get? 1:=by kernel_rfl
theorem aba(P:ag)(f:Nat->Obj)(kt tk:Nat):(fq P f kt tk).get? 2=(xd P).get? 2:=by kernel_rfl
theorem aa9(P:ag)(f:Nat->Obj)(kt tk:Nat):(fq P f kt tk).get? 4=(xd P).get? 4:=by kernel_rfl
theorem aa8(P:ag)(f:Nat->Obj)(kt tk:Nat):(fq P f kt tk).get? 5=(xd P).get? 5:=by kernel_rfl
theorem aa7(P:ag)(f:Nat->Obj)(kt tk:Nat):(fq P f kt tk).get? 6=(xd P).get? 6:=by kernel_rfl
theorem aa6(P:ag)(f:Nat->Obj)(kt tk:Nat):(fq P f kt tk).get? 7=(xd P).get? 7:=by kernel_rfl
theorem aa5(P:ag)(f:Nat->Obj)(kt tk:Nat):(fq P f kt tk).get? 8=(xd P).get? 8:=by kernel_rfl
theorem aa4(P:ag)(f:Nat->Obj)(kt tk:Nat):(fq P f kt tk).get? 9=(xd P).get? 9:=by kernel_rfl
theorem Wv(P:ag)(f:Nat->Obj)(kt tk:Nat):(fq P f kt tk).get? 10=(xd P).get? 10:=by kernel_rfl
theorem old_kept(P:ag)(f:Nat->Obj)(kt tk:Nat)(b:Nat)(o:Obj)(h:(xd P).get? b=aa o)(h3:b≠3):(fq P f kt tk).get? b=aa o:=by
 have i8:@LT.lt Nat _ b 11:=by
  have:=bx h;rw[I0]at this;exact this
 have h3':@Ne Nat b 3:=h3;have:b=0∨b=1∨b=2∨b=4∨b=5∨b=6∨b=7∨b=8∨b=9∨b=10:=(by decide:∀b:Nat,b<11->b≠3->b=0∨b=1∨b=2∨b=4∨b=5∨b=6∨b=7∨b=8∨b=9∨b=10) b i8 h3';rcases this with rfl|rfl|rfl|rfl|rfl|rfl|rfl|rfl|rfl|rfl
 ·exact(abc ..).trans h
 ·exact(abb ..).trans h
 ·exact(aba ..).trans h
 ·exact(aa9 ..).trans h
 ·exact(aa8 ..).trans h
 ·exact(aa7 ..).trans h
 ·exact(aa6 ..).trans h
 ·exact(aa5 ..).trans h
 ·exact(aa4 ..).trans h
 ·exact(Wv ..).trans h
theorem F4:∃cZ,TopRan pw w (S0 w os).abs cZ/\J2 w os cZ/\cZ.gens=#[]/\cZ.asleep:=by
 have hz:(S0 w os).abs.asleep:=by rw[xO];unfold xd;exact⟨U,U⟩
 refine Fs (KL (t:=(topStub pw).cur) hz (Vb (w:=w) (os:=os))) λcZ hL hg Ep Ob=>?_;refine⟨cZ,?_,hL,hg,Shared.asleep_of_life Ob hz⟩;refine B1 (hL) λf kt tk es ep he h0 U2=>?_;obtain rfl:=U2;have hc:=vR w.params f kt tk;unfold chk1 at hc;simp only[aV]at hc;refine lA (hc) λUX c7=>?_;refine dH λlg eS=>?_;obtain⟨⟨⟨⟨⟨c1,c2⟩,c3⟩,c4⟩,c5⟩,c6⟩:=UX;refine eS ?_;have hb:(fq w.params f kt tk).bltView=bltViewBooted:=JL w.params f kt tk;rw[BQ,xO]at *;refine⟨Ep,Ob,Shared.rest_eq U,λb o h hn=>?_,(NT▸Heap.accountedI_of_ok c4),(NT▸statics_of_ok c1),Pin.keysAreStrs_of c5,λx hx=>(Pin.builtinOf_eq c6 x).trans (Heap.of_bltView c6 hb x hx),?_,λg hg=>(by simp at hg),names_of_bound (Xl _ c2),laid_of_kept c3⟩
 ·exact old_kept _ _ _ _ b o h λe=>hn (.inl e)
 ·refine Fq (Heap.bmainOk_spec c7) λbm ob h1 zz h2 h3 h4 zz=>?_
  exact Aa bm ob ⟨(Pin.globalOf_eq c5 _).trans h1,h2,h3,h4⟩
end
theorem A5:opening pw=plainProg pw.main.scope.names:=by kernel_rfl
theorem Jj(s:aA):fenceModules? pw s=aa s:=by kernel_rfl
theorem uf(w:cW):(∃s,AfterRun (opening pw) w s)/\∀s,AfterRun (opening pw) w s->∃mY,fenceModules? pw s=aa mY/\mY.gens=#[] /\
  ∃cZ os,TopRan pw w mY cZ/\J2 w os cZ/\cZ.gens=#[]/\cZ.asleep/\mY=(S0 w os).abs:=by
 have h:=boot_open (p:=pw) (N:=1000) A5 U Jj w;rw[←table_eq_tree]at h;refine aR (Option.map_eq_some_iff.mp h) λmY h1 e=>?_;refine aR (Option.bind_eq_some_iff.mp h1) λs h4 h5=>?_;have A:=AfterImport.of_importEnds h4;refine⟨⟨s,A⟩,λs' xc=>?_⟩;obtain rfl:s'=s:=AfterImport.unique xc A;have e0:mY=(S0 w mY.os).abs:=by
  obtain⟨hp,gs,d,k,os⟩:=mY;simp only[gP]at e;obtain⟨e1,e2,e3,e4⟩:=e;rw[xO,←xE,←e1,←e4];subst e2 e3;rfl
 refine⟨mY,h5,by rw[e0,xO],?_⟩;refine Fs (F4 (w:=w) (os:=mY.os)) λcZ hT hL hg hz=>?_;rw[←e0]at hT;exact Aa cZ mY.os ⟨hT,hL,hg,hz,e0⟩
end
def uq:Prop:=∀(w:cW)(f:Nat->Obj)(kt tk:Nat)(es:Array bI)(ep:Nat),EA es.toList m9->f 0=dO es ep ->
 ∀(s:aA)(ns:List Int)(vs:List aq),ns.length<=63->IntsAre vs ns->s.heap=(fq w.params f kt tk).push {cls:=.type "list",data:=.seq vs.toArray}->s.gens=#[] ->
 aH (ba pw w) callerA (call (.ref 248) [.ref ne]) (λv s'=>v=.bool af/\OldK s.heap s'.heap/\s'.os=s.os/\AllBare s'.gens) (λzz zz=>False) s
theorem Sq(P:ag)(f:Nat->Obj)(kt tk:Nat):(fq P f kt tk).get? 248=aa ⟨.type "function",none,Fn (Sx [108,97,119]) (Sx [108,97,119]) (st 21) 3 [] N N N (.str (Sx [108,97,119,95,119,99,48,48,50,49,95,48,50]) (tk+8)) (R 247) N 0,#[]⟩:=by kernel_rfl
theorem vC(P:ag)(f:Nat->Obj)(kt tk:Nat):(fq P f kt tk).nsMap dk (aF "law")=aa (.ref 248):=by kernel_rfl
theorem L_:pw.theDef (aF "law")=aa (fA (st 21),fB (st 21),fS (st 21)):=by kernel_rfl
theorem IH:(fA (st 21)).defaults=[]:=by kernel_rfl
theorem Sl:kwWritten? (fA (st 21)).kwonlyargs (fA (st 21)).kw_defaults=aa []:=by kernel_rfl
theorem yY:(aF "law")=Sx [108,97,119]:=by kernel_rfl
theorem vE(P:ag)(f:Nat->Obj)(kt tk:Nat):(fq P f kt tk).isNs dk=af:=by
 have hc:=vR P f kt tk;unfold chk1 at hc;simp only[aV]at hc;exact hc.1.1.2
theorem Bo(P:ag)(f:Nat->Obj)(kt tk:Nat):isTheDefsW pw (fq P f kt tk) (aF "law"):=by
 refine⟨248,_,_,_,_,_,(Pin.globalOf_eq (vE P f kt tk) _).trans (vC P f kt tk),Sq P f kt tk,U,L_,yY.symm,yY.symm,U,U,U,U,U,U,.inl ⟨IH,U⟩,[],Sl,.inl ⟨U,U⟩⟩
theorem Xf{b:Bool}{P:Prop}(h:b=af)(e:b=false):P:=Bool.noConfusion (e.symm.trans h)
theorem has_int{R:WRecords}{x:WData}(h:WShape.has R x .int=af):∃i,x=.int i:=by
 cases x with
 |int i=>exact⟨i,U⟩
 |_=>exact Xf h ak
theorem I'{R:WRecords}{x:WData}(h:WShape.has R x (.list .int)=af):∃xs,x=.list xs/\k6 R xs .int=af:=by
 cases x with
 |list xs=>exact⟨xs,U,(Bool.or_false _).symm.trans ((by kernel_rfl:WShape.has R (.list xs) (.list .int)=(k6 R xs .int || false)).symm.trans h)⟩
 |_=>exact Xf h ak
theorem Br{R:WRecords}{xs:List WData}:k6 R xs .int=af->∃ns:List Int,xs=ns.map WData.int:=by
 induction xs with
 |nil=>exact λzz=>⟨[],U⟩
 |cons x xs ih =>
  intro h;have h:=Bool.and_eq_true_iff.mp ((by kernel_rfl:k6 R (x::xs) .int=(WShape.has R x .int&&k6 R xs .int)).symm.trans h);obtain⟨ns,rfl⟩:=ih h.2;obtain⟨i,rfl⟩:=has_int h.1;exact⟨i::ns,U⟩
theorem EW{args:List WData}(h:PySem.Challenge.rw_wc0021_02.row.toRowW.claim.pre args=af):∃ns:List Int,args=[.list (ns.map WData.int)]/\ns.length<=63:=by
 refine lA (pre_splitW h) λh1 h2=>?_;refine f5 (hasAllW_cons (e:=.list .int) (es:=[]) h1) λd r mV h3 h4=>?_;obtain rfl:=mV;obtain rfl:=hasAllW_nil h4;refine aR (I' h3) λxs sL h5=>?_;obtain rfl:=sL;obtain⟨ns,rfl⟩:=Br h5;refine⟨ns,U,dm λhl=>?_⟩;have e:less? (WData.int 63) (WData.int (ns.length:Int))=aa af:=congrArg aa (decide_eq_true (Int.ofNat_lt.mpr hl));have h6:(WTm.and (.not (.lt (.lit (.int 63)) (.len (.arg 0)))) (.lit (.bool af))).holds [] {args:=[.list (ns.map WData.int)]}=af:=h2
 revert h6
 simp[WTm.holds,WTm.value,e]
theorem vA{R:WRecords}{cl:Str->Option Addr}{P:ag}{ord:List bI->List bI}:∀(ns:List Int)(s:aA),∃vs tk,layAllW R cl P ord (ns.map WData.int) s=aa (vs,{s with toks:=tk})/\IntsAre vs ns
 |[],s=>⟨[],s.toks,by simp[layAllW],.nil⟩
 |n::ns,s=>by
  refine mU (vA (R:=R) (cl:=cl) (P:=P) (ord:=ord) ns {s with toks:=s.toks+1}) λvs tk h hi=>?_;exact⟨.int n s.toks::vs,tk,by simp[layAllW,layW,h],.cons n _ hi⟩
theorem LX(MW:uq):ClaimW.HoldsOpenBy (callStub (aF "law")) [aF "law"] PySem.Challenge.rw_wc0021_02.row.keeps false PySem.Challenge.rw_wc0021_02.row.toRowW.claim:=by
 have hw:PySem.Challenge.rw_wc0021_02.row.toRowW.promised:=by w_witness2
 refine⟨⟨⟨U,U,U,U,U,by decide +kernel⟩,ak,U⟩,hw.witness,λw=>⟨(uf w).1,λs hs=>?_⟩⟩;refine dH λlg eS=>?_;obtain⟨mY,hf,hg0,cZ,os,hT,hL,hg,hz,e0⟩:=(uf w).2 s hs;refine eS ?_;refine⟨mY,hf,hg0,cZ,hT,?_,λx hx=>(nomatch hx),λx hx=>(nomatch hx),?_⟩
 ·refine B1 (hL) λf kt tk es ep he h0 U0=>?_
  obtain rfl:=U0;intro n hn;obtain rfl:=List.mem_singleton.mp hn;rw[BQ];exact Bo w.params f kt tk
 ·refine ClaimW.callFrom_of_specG (c:=PySem.Challenge.rw_wc0021_02.row.toRowW.claim) (tree:=λvs=>do match ←nsGet kV (aF "law")with
   |some f=>do ret (←PySem.call f vs)
   |none=>unsupported "claim.caller:no-such-global") hz hg λargs abG abN ord X7=>?_
  refine aR (EW abG) λns Pn dw=>?_;obtain rfl:=Pn;refine B1 (hL) λf kt tk es ep he h0 Pl=>?_;obtain rfl:=Pl;refine mU (vA (R:=PySem.Challenge.rw_wc0021_02.row.toRowW.claim.records) (cl:=classAt (Se f kt tk w os).abs.heap) (P:=w.params) (ord:=ord) ns (Se f kt tk w os).abs) λvs Ab hl hi=>?_;have za:layAllW PySem.Challenge.rw_wc0021_02.row.toRowW.claim.records (classAt (Se f kt tk w os).abs.heap) w.params ord [.list (ns.map WData.int)] (Se f kt tk w os).abs =
    aa ([.ref ne],⟨(fq w.params f kt tk).push {cls:=.type "list",data:=.seq vs.toArray},#[],{},Ab,os⟩):=by
   simp only[layAllW,layW,hl];rw[BQ];dsimp only;rw[y_]
  refine Aa _ _ ⟨za,?_⟩;have keeps:=layAllW_keeps _ _ _ za;have uN:=layAllW_rest _ _ _ za;refine nJ (reads_layAllW X7 _ _ _ za abN _ (λzz zz e=>e)) λas hrd hin hold=>?_;have L:Laid PySem.Challenge.rw_wc0021_02.row.toRowW.claim.records w (Se f kt tk w os).abs _ _ _ as:=⟨⟨ord,X7,za⟩,hrd,hin,hold,keeps,uN.1.trans hg,uN.2.2.1⟩;have tU:((fq w.params f kt tk).push {cls:=.type "list",data:=.seq vs.toArray}:Heap).Ns kV ((fq w.params f kt tk).nsMap dk):=(gJ (vE w.params f kt tk)).push _;refine ae (wpAny_nsGet tU ?_);rw[vC];refine ae (dz (MW w f kt tk es ep he h0 _ ns vs dw hi U U) (λv s' h=>?_) λzz zz h=>h.elim);refine Ni (h) λPd hK hos YD=>?_;obtain rfl:=Pd;refine av ⟨_,U,?_⟩;have g:GoodWG PySem.Challenge.rw_wc0021_02.row.toRowW.claim (classAt (Se f kt tk w os).abs.heap) (ExcName.means (Se f kt tk w os).abs.heap) [.list (ns.map WData.int)] _ (.ok (.ret (.bool af))) s':=
   ⟨.inl ⟨_,_,[],U,λzz=>U,ReadsW.bool af,?_,λzz=>⟨List.nodup_nil,λzz hm=>(nomatch hm)⟩⟩,hK,hos,YD⟩
  ·have z:=g.laid (c:=PySem.Challenge.rw_wc0021_02.row.toRowW.claim) U U (ident_freeW U U U) L
   exact⟨z.1,z.2.1,z.2.2,λq=>(nomatch q)⟩
  ·kernel_rfl
theorem VZ:OpenLaw.wellSaid PySem.Challenge.rw_wc0021_02=af:=by kernel_rfl
theorem I3(MW:uq):PySem.Challenge.rw_wc0021_02.Holds:=by
 refine holds_law VZ λacy=>?_;refine⟨by assumption,?hw,LX MW⟩
 case hw=>w_witness2
section
variable{cs:List CV}
set_option genSizeOf false in
inductive CV where
 |none
 |bool (b:Bool)
 |int (i:Int)
 |str (x:Str)
 |tup (l:List CV)
 |ref (k:Nat)
 |val (v:aq)
noncomputable def CV.ctorIdx(x:CV):Nat:=CV.casesOn x 0 (λ_=>1) (λ_=>2) (λ_=>3) (λ_=>4) (λ_=>5) (λ_=>6)
structure AM where
 f:Nat->Option Nat
 O:Nat->Prop
 R:Nat->Prop
noncomputable abbrev ux(vs:List aq)(n:Nat):Obj:={cls:=.type "tuple",data:=.seq vs.toArray n}
noncomputable abbrev fg(vs:List aq)(n:Nat):Obj:={cls:=.type "list",data:=.seq vs.toArray n}
def AM.off(α:AM)(a:Nat):Prop:=¬α.O a
mutual
def VR(α:AM)(h:Heap):CV->aq->Prop
 |.none,v=>v=.none
 |.bool b,v=>v=.bool b
 |.int i,v=>∃t,v=.int i t
 |.str x,v=>∃t,v=.str x t
 |.val w,v=>v=w
 |.ref k,v=>∃a,v=.ref a/\α.f k=aa a
 |.tup l,v=>∃a vs n,v=.ref a/\α.off a/\¬α.R a/\h.get? a=aa (ux vs n)/\di α h l vs
def di(α:AM)(h:Heap):List CV->List aq->Prop
 |[],vs=>vs=[]
 |c::cs,vs=>∃v ws,vs=v::ws/\VR α h c v/\di α h cs ws
end
structure rm(p:Nat->Prop)(α:AM)(h:Heap)(β:AM)(h':Heap):Prop where
 le:∀k,p k->∀a,α.f k=aa a->β.f k=aa a
 new:∀a,β.O a->α.O a∨h.get? a=none
 rs:β.R=α.R
 keep:∀b o,α.off b->h.get? b=aa o->h'.get? b=aa o
abbrev Le:AM->Heap->AM->Heap->Prop:=rm λzz=>True
abbrev BU(m:Nat):AM->Heap->AM->Heap->Prop:=rm λk=>k<m
theorem rm.off{p α h β h' b o}(x:rm p α h β h')(f:α.off b)(e:h.get? b=aa o):β.off b:=λhk =>
 (x.new b hk).elim f λl=>by rw[l]at e;cases e
theorem rm.refl{p:Nat->Prop}(α:AM)(h:Heap):rm p α h α h:=⟨λzz zz zz e=>e,λzz e=>.inl e,U,λzz zz zz e=>e⟩
theorem Le.refl(α:AM)(h:Heap):Le α h α h:=rm.refl α h
theorem rm.trans'{p q:Nat->Prop}{α h β h' γ SY}(x:rm p α h β h')(y:rm q β h' γ SY)(hq:∀k a,p k->α.f k=aa a->γ.f k=aa a):rm p α h γ SY:=by
 refine⟨λk l a e=>hq k a l e,λa e=>(y.new a e).elim (λq=>x.new a q) λl=>?_,y.rs.trans x.rs,λb o f e=>y.keep b o (x.off f e) (x.keep b o f e)⟩;cases e:h.get? a with
 |none=>exact .inr U
 |some o =>
  refine(Classical.em (α.O a)).imp id λn=>?_;rw[x.keep a o n e]at l;cases l
theorem rm.trans{p:Nat->Prop}{α h β h' γ SY}(x:rm p α h β h')(y:rm p β h' γ SY):rm p α h γ SY:=x.trans' y λk a l e=>y.le k l a (x.le k l a e)
theorem rm.sub{p q:Nat->Prop}{α h β h'}(x:rm p α h β h')(hq:∀k,q k->p k):rm q α h β h':=⟨λk l=>x.le k (hq k l),x.new,x.rs,x.keep⟩
theorem rm.nj{m: Nat}{α h β h'}(x:Le α h β h'):BU m α h β h':=x.sub λzz zz=>aE
mutual
theorem VR.mono{α: AM}{h: Heap}(x:Le α h β h'):∀(c:CV) {v:aq},VR α h c v->VR β h' c v
 |.none,_,r=>r
 |.bool _,_,r=>r
 |.int _,_,r=>r
 |.str _,_,r=>r
 |.val _,_,r=>r
 |.ref k,_,r=>r.elim λa r=>⟨a,r.1,x.le _ aE _ r.2⟩
 |.tup l,_,r=>by obtain⟨a,vs,n,e,f,q,g,r⟩:=r;exact⟨a,vs,n,e,x.off f g,x.rs▸q,x.keep _ _ f g,di.mono x l r⟩
theorem di.mono{α: AM}{h: Heap}(x:Le α h β h'):∀(cs:List CV) {vs:List aq},di α h cs vs->di β h' cs vs
 |[],_,r=>r
 |c::cs,_,r=>by obtain⟨v,ws,e,r,q⟩:=r;exact⟨v,ws,e,VR.mono x c r,di.mono x cs q⟩
end
section
variable{α:AM}{h:Heap}
theorem di.length:∀{vs},di α h cs vs->vs.length=cs.length:=by
 induction cs with
 |nil=>rintro _ rfl;rfl
 |cons c cs ih=>rintro _ ⟨v,ws,rfl,_,q⟩;exact congrArg (·+1) (ih q)
theorem di.get:∀{vs:List aq}{i:Nat}{c},di α h cs vs->cs[i]?=aa c->∃v,vs[i]?=aa v/\VR α h c v:=by
 induction cs with
 |nil=>intro vs i c _ e;cases e
 |cons d cs ih =>
  intro _ i c U' e;refine f5 (U') λv ws kD r q=>?_;obtain rfl:=kD;cases i with
  |zero=>cases e;exact⟨v,U,r⟩
  |succ i=>exact ih (vs:=ws) (i:=i) q e
theorem di.append{ds: List CV}:∀{vs ws},di α h cs vs->di α h ds ws->di α h (cs++ds) (vs++ws):=by
 induction cs with
 |nil=>rintro _ ws rfl r;exact r
 |cons c cs ih=>rintro _ ws ⟨v,us,rfl,r,q⟩ t;exact⟨v,us++ws,U,r,ih q t⟩
theorem di.one{c v}(r:VR α h c v):di α h [c] [v]:=⟨v,[],U,r,U⟩
theorem di.take:∀{vs} (k:Nat),di α h cs vs->di α h (cs.take k) (vs.take k):=by
 induction cs with
 |nil=>rintro _ k rfl;cases k<;>rfl
 |cons c cs ih =>
  intro _ k sN;refine f5 (sN) λv us kD r q=>?_;obtain rfl:=kD;cases k with
  |zero=>rfl
  |succ k=>exact⟨v,_,U,r,ih k q⟩
theorem di.drop:∀{vs} (k:Nat),di α h cs vs->di α h (cs.drop k) (vs.drop k):=by
 induction cs with
 |nil=>rintro _ k rfl;cases k<;>rfl
 |cons c cs ih =>
  intro _ k sN;refine f5 (sN) λv us kD r q=>?_;obtain rfl:=kD;cases k with
  |zero=>exact⟨v,us,U,r,q⟩
  |succ k=>exact ih k q
theorem di.ints{ns: List Int}:∀{vs},di α h (ns.map .int) vs->IntsAre vs ns:=by
 induction ns with
 |nil=>rintro _ rfl;exact .nil
 |cons n ns ih=>rintro _ ⟨v,ws,rfl,⟨t,rfl⟩,q⟩;exact .cons n t (ih q)
end
end
section
variable{a k n:Nat}{ao o:AO}{α:AM}
structure k7 where
 q:Str
 params:Arguments
 body:Expr
 scope:jk
 clos:List (Str×Nat)
set_option genSizeOf false in
inductive AO where
 |list (xs:List CV)
 |frame (m:List (Str×CV))
 |cell (c:Option CV)
 |n5 (a b st:Int)
 |ix (l i:Nat)
 |itR (a left st:Int)
 |rf (x:Str) (i:Nat)
 |y7 (cs:List CV) (i:Nat)
 |uP (it i:Nat)
 |zip (a b:Nat)
 |pr (a b:Nat)
 |two
 |bT (C d:Nat) (xs:List CV)
 |size (k:Int)
 |bare
 |zy (f:List (Str×Int))
 |tab (P:Nat) (q:Nat->Nat->Str)
 |fn (g:k7)
 |any
noncomputable def AO.ctorIdx(x:AO):Nat:=AO.casesOn x (λ_=>0) (λ_=>1) (λ_=>2) (λ_ _ _=>3) (λ_ _=>4) (λ_ _ _=>5) (λ_ _=>6) (λ_ _=>7) (λ_ _=>8) (λ_ _=>9) (λ_ _=>10) 11 (λ_ _ _=>12) (λ_=>13) 14 (λ_=>15) (λ_ _=>16) (λ_=>17) 18
noncomputable abbrev GN(a b c:Int)(t u v:Tok):Obj:={cls:=.type "range",data:=.fields #[.int a t,.int b u,.int c v]}
noncomputable abbrev rit(a left st:Int):Obj:={cls:=.type "range_iterator",data:=.fields #[ey a,ey left,ey st]}
noncomputable abbrev Y7(it:Nat)(i:Int)(old:aq):Obj:={cls:=.type "enumerate",dict:=none,data:=.fields #[.none,.bool false,.ref it,ey i,.none,old],slots:=#[]}
noncomputable abbrev aab(TI TO:Nat)(f0:aq):Obj:={cls:=.type "zip",dict:=none,data:=.fields #[f0,.bool false,.bool false,.ref TI,.ref TO],slots:=#[]}
noncomputable abbrev n7(c d:Nat)(vs:List aq)(n:Nat):Obj:={cls:=.ref c,dict:=aa d,data:=.seq vs.toArray n}
structure Gv where
 prog:cY
 w:cW
 A:bZ
 h₀:Heap
 os:dc
noncomputable abbrev Gv.M(G:Gv):gw:=ba G.prog G.w
def jC(α:AM):List (Str×Nat)->List (Str×Nat)->Prop
 |[],cs=>cs=[]
 |(x,k)::l,cs=>∃a ds,cs=(x,a)::ds/\α.f k=aa a/\jC α l ds
def kA(α:AM)(h:Heap)(cv:aq)(q:Str):Prop:=h.CodeRec cv q/\∀c,cv=.ref c->α.off c/\¬α.R c
def OI(G:Gv)(α:AM)(h:Heap)(a:Nat):AO->Prop
 |.list xs=>∃vs n,h.get? a=aa (fg vs n)/\di α h xs vs
 |.frame m=>∃mf,h.Ns a mf/\∀x c,m.lookup x=aa c->∃v,mf x=aa v/\VR α h c v
 |.cell c=>∃v,h.IsCell a v/\(c=none->v=none)/\∀d,c=aa d->∃w,v=aa w/\VR α h d w
 |.n5 i j k=>∃t u v,h.get? a=aa (GN i j k t u v)
 |.ix l i=>∃b,α.f l=aa b/\h.IsListIter a b i
 |.itR i j k=>h.get? a=aa (rit i j k)
 |.rf x i=>∃t o,h.get? a=aa o/\o.cls=.type (bj x)/\o.data=.fields #[.str x t,.int i 0]
 |.y7 cs i=>∃b vs n,α.off b/\¬α.R b/\h.get? b=aa (ux vs n)/\di α h cs vs/\h.IsTupleIter a b i
 |.uP it i=>∃b old,α.f it=aa b/\h.get? a=aa (Y7 b i old)
 |.zip i j=>∃b c,α.f i=aa b/\α.f j=aa c/\h.get? a=aa (aab b c .none)
 |.pr i j=>∃b c,α.f i=aa b/\α.f j=aa c/\h.get? a=aa (ux [.ref b,.ref c] 0)
 |.two=>∃v w,h.get? a=aa (ux [v,w] 0)
 |.bT C d xs=>∃b vs n,α.f d=aa b/\h.get? a=aa (n7 C b vs n)/\di α h xs vs
 |.size k=>∃tk t,h.get? a=aa (lh (aF "_initial_size") (gu G.w.params (aF "_initial_size")) (.str (aF "_initial_size") tk) (.int k t) ip)
 |.bare=>h.get? a=aa ip
 |.zy f=>∃F,h.MapOf (i3 G.prog G.w) a F/\∀x,(f.lookup x=none->F x=none)/\∀i,f.lookup x=aa i->∃t,F x=aa (.int i t)
 |.tab P q=>a=P/\∃ps,h.get? a=aa (tabObj ps)/\TriplesOk ps.toList/\∀pos cv,iq pos ps.toList=aa cv->kA α h cv (q pos.line pos.col)
 |.fn g=>∃o cl pm cv xx,h.get? a=aa o/\o.data=.func (kla_fn "<lambda>" g.q g.params g.body g.scope cl pm cv xx)/\jC α g.clos cl/\kA α h cv g.q
 |.any=>∃o,h.get? a=aa o
theorem jC.mono{β: AM}(le:∀k a,α.f k=aa a->β.f k=aa a){l: List (Str×Nat)}:∀{cs},jC α l cs->jC β l cs:=by
 induction l with
 |nil=>exact λe=>e
 |cons p l ih=>rintro _ ⟨a,ds,e,h,q⟩;exact⟨a,ds,e,le _ _ h,ih q⟩
theorem kA.mono{α h β h'}(x:Le α h β h'){cv q}(r:kA α h cv q):kA β h' cv q:=by
 refine lA (r) λU9 f=>?_;obtain⟨c,o,vs,t,e,g,d⟩:=U9;exact⟨⟨c,o,vs,t,e,x.keep _ _ (f c e).1 g,d⟩,λc' e'=>⟨x.off (f c' e').1 (by rw[e]at e';cases e';exact g),x.rs▸(f c' e').2⟩⟩
theorem OI.live{G α h a}(r:OI G α h a ao):∃o,h.get? a=aa o:=by
 cases ao with
 |list xs=>obtain⟨vs,n,e,q⟩:=r;exact⟨_,e⟩
 |frame m=>obtain⟨mf,⟨o,es,ep,e,d⟩,q⟩:=r;exact⟨_,e⟩
 |cell c=>obtain⟨v,⟨o,e,d⟩,n,q⟩:=r;exact⟨_,e⟩
 |n5 i j k=>obtain⟨t,u,v,e⟩:=r;exact⟨_,e⟩
 |ix l i=>obtain⟨b,e,o,q,_⟩:=r;exact⟨_,q⟩
 |itR i j k=>exact⟨_,r⟩
 |rf y i=>obtain⟨t,o,e,q⟩:=r;exact⟨_,e⟩
 |y7 cs i=>obtain⟨b,vs,n,_,_,_,_,o,e,q⟩:=r;exact⟨_,e⟩
 |uP it i=>obtain⟨b,old,e,q⟩:=r;exact⟨_,q⟩
 |zip i j=>obtain⟨b,c,_,_,q⟩:=r;exact⟨_,q⟩
 |pr i j=>obtain⟨b,c,_,_,q⟩:=r;exact⟨_,q⟩
 |two=>obtain⟨v,w,q⟩:=r;exact⟨_,q⟩
 |bT C d xs=>obtain⟨b,vs,n,e,q,r⟩:=r;exact⟨_,q⟩
 |size k=>obtain⟨tk,t,e⟩:=r;exact⟨_,e⟩
 |bare=>exact⟨_,r⟩
 |zy f=>obtain⟨F,⟨o,es,ep,e,_⟩,q⟩:=r;exact⟨_,e⟩
 |tab P q=>obtain⟨_,ps,e,t,r⟩:=r;exact⟨_,e⟩
 |fn g=>obtain⟨o,cl,pm,cv,xx,e,d,c,q⟩:=r;exact⟨_,e⟩
 |any=>exact r
theorem OI.mono{G α h β h' a}(x:Le α h β h')(same:∀o,h.get? a=aa o->h'.get? a=aa o)(r:OI G α h a ao):OI G β h' a ao:=by
 cases ao with
 |list xs=>obtain⟨vs,n,e,q⟩:=r;exact⟨vs,n,same _ e,q.mono x⟩
 |frame m =>
  refine aR (r) λmf sL q=>?_;obtain⟨o,es,ep,e,d⟩:=sL;refine⟨mf,⟨o,es,ep,same _ e,d⟩,λy c hy=>?_⟩;refine aR (q y c hy) λv hv r=>?_;exact⟨v,hv,r.mono x⟩
 |cell c =>
  refine nJ (r) λv UU n q=>?_;obtain⟨o,e,d⟩:=UU;refine⟨v,⟨o,same _ e,d⟩,n,λd hd=>?_⟩;refine aR (q d hd) λw hw r=>?_;exact⟨w,hw,r.mono x⟩
 |n5 i j k=>obtain⟨t,u,v,e⟩:=r;exact⟨t,u,v,same _ e⟩
 |ix l i=>obtain⟨b,e,o,q,r⟩:=r;exact⟨b,x.le _ aE _ e,o,same _ q,r⟩
 |itR i j k=>exact same _ r
 |rf y i=>obtain⟨t,o,e,q⟩:=r;exact⟨t,o,same _ e,q⟩
 |y7 cs i=>obtain⟨b,vs,n,f,u,e,q,o,ho,r⟩:=r;exact⟨b,vs,n,x.off f e,x.rs▸u,x.keep _ _ f e,q.mono x,o,same _ ho,r⟩
 |uP it i=>obtain⟨b,old,e,q⟩:=r;exact⟨b,old,x.le _ aE _ e,same _ q⟩
 |zip i j=>obtain⟨b,c,h1,h2,q⟩:=r;exact⟨b,c,x.le _ aE _ h1,x.le _ aE _ h2,same _ q⟩
 |pr i j=>obtain⟨b,c,h1,h2,q⟩:=r;exact⟨b,c,x.le _ aE _ h1,x.le _ aE _ h2,same _ q⟩
 |two=>obtain⟨v,w,q⟩:=r;exact⟨v,w,same _ q⟩
 |bT C d xs=>obtain⟨b,vs,n,e,q,r⟩:=r;exact⟨b,vs,n,x.le _ aE _ e,same _ q,r.mono x⟩
 |size k=>obtain⟨tk,t,e⟩:=r;exact⟨tk,t,same _ e⟩
 |bare=>exact same _ r
 |zy f=>obtain⟨F,⟨o,es,ep,e,r⟩,q⟩:=r;exact⟨F,⟨o,es,ep,same _ e,r⟩,q⟩
 |tab P q=>obtain⟨p,ps,e,t,r⟩:=r;exact⟨p,ps,same _ e,t,λpos cv hc=>(r pos cv hc).mono x⟩
 |fn g=>obtain⟨o,cl,pm,cv,xx,e,d,c,q⟩:=r;exact⟨o,cl,pm,cv,xx,same _ e,d,c.mono λk=>x.le k aE,q.mono x⟩
 |any=>obtain⟨o,e⟩:=r;exact⟨o,same _ e⟩
structure St where
 objs:List (Nat×AO)
 n:Nat
noncomputable def dh:List (Nat×AO)->Nat->Option AO
 |[],_=>none
 |(j,o)::l,k=>match br k j with
  |true=>aa o
  |false=>dh l k
noncomputable def lU:List (Nat×AO)->Nat->AO->List (Nat×AO)
 |[],_,_=>[]
 |(j,o)::l,k,o'=>match br k j with
  |true=>(j,o')::l
  |false=>(j,o)::lU l k o'
theorem oR{j: Nat}(h:j≠k):br j k=false:=by
 cases e:br j k with
 |false=>rfl
 |true=>exact absurd (a9 e) h
theorem fi(k:Nat)(o':AO)(j:Nat):∀{l:List (Nat×AO)},dh (lU l k o') j=if j=k then(dh l k).map λzz=>o' else dh l j:=by
 intro l
 induction l with
 |nil=>split<;>rfl
 |cons p l ih =>
  obtain⟨i,o⟩:=p;unfold lU
  split
  ·rename_i e
   cases a9 e;unfold dh;by_cases h:j=k
   ·cases h;rw[if_pos U,cD];rfl
   ·rw[if_neg h,oR h]
  ·rename_i e
   unfold dh;rw[ih];by_cases h:j=k
   ·cases h;rw[if_pos U,if_pos U,e]
   ·rw[if_neg h,if_neg h]
noncomputable def St.get(σ:St)(k:Nat):Option AO:=dh σ.objs k
noncomputable def St.set(σ:St)(k:Nat)(o:AO):St:=⟨lU σ.objs k o,σ.n⟩
theorem Dx:∀{l:List (Nat×AO)},dh l k=aa o->lU l k o=l:=by
 intro l
 induction l with
 |nil=>exact λzz=>U
 |cons p l ih =>
  obtain⟨j,u⟩:=p;intro h;unfold dh at h;unfold lU;cases z:br k j with
  |true=>rw[z]at h;cases h;rfl
  |false=>rw[z]at h;exact congrArg ((j,u)::·) (ih h)
theorem St.set_same{σ: St}(h:σ.get k=aa o):σ.set k o=σ:=congrArg (St.mk · σ.n) (Dx h)
noncomputable def St.push(σ:St)(o:AO):St:=⟨(σ.n,o)::σ.objs,σ.n+1⟩
structure GS(G:Gv)(α:AM)(σ:St)(s:aA):Prop where
 own:∀k ao,σ.get k=aa ao->∃a,α.f k=aa a/\OI G α s.heap a ao
 ow:∀k ao a,σ.get k=aa ao->α.f k=aa a->α.O a
 base:∀b o,G.h₀.get? b=aa o->α.off b/\s.heap.get? b=aa o
 inj:∀j k ao ao' a,σ.get j=aa ao->σ.get k=aa ao'->α.f j=aa a->α.f k=aa a->j=k
 new:∀k,σ.n<=k->α.f k=none
 lt:∀a,α.O a->∃o,s.heap.get? a=aa o
 qf:∀a,α.R a->∃o,s.heap.get? a=aa o/\α.off a
 os:s.os=G.os
 bare:AllBare s.gens
inductive W{γ δ:Type}(R:AM->Heap->δ->γ->Prop)(G:Gv)(α:AM)(h:Heap)(d:δ)(σ:St)(v:γ)(s:aA):Prop
 |mk (β:AM) (le:Le α h β s.heap) (gs:GS G β σ s) (r:R β s.heap d v):W R G α h d σ v s
theorem W.trans{γ δ:Type}{R:AM->Heap->δ->γ->Prop}{G α h β h' d σ v s}(x:Le α h β h')(y:W (γ:=γ) (δ:=δ) R G β h' d σ v s):W R G α h d σ v s:=by
 obtain⟨γ,le,gs,r⟩:=y;exact⟨γ,x.trans le,gs,r⟩
theorem ez(h:Heap):h.get? h.objs.size=none:=by
 cases e:h.get? h.objs.size with
 |none=>rfl
 |some o=>exact absurd (bx e) (eE _)
noncomputable def AM.less(α:AM)(D:Nat->Prop):AM:=⟨α.f,λa=>α.O a/\¬D a,α.R⟩
theorem AM.less_none(α:AM):α.less (λzz=>False)=α:=by
 unfold AM.less;have:(λa=>α.O a/\¬False)=α.O:=funext λa=>propext ⟨λh=>h.1,λh=>⟨h,id⟩⟩;rw[this]
theorem GS.goto{G α σ σ' s h'}(ks:Nat->Prop)(D:Nat->Prop)(g:GS G α σ s)(hn:σ'.n=σ.n)(hk:∀k,ks k->∃ao,σ.get k=aa ao)(hD:∀a,D a->∃k,ks k/\α.f k=aa a)
  (same:∀b o,(∀k,ks k->α.f k≠aa b)->s.heap.get? b=aa o->h'.get? b=aa o)
  (x:Le α s.heap (α.less D) h'->(∀k,ks k->∀a,α.f k=aa a->¬D a->∃o,h'.get? a=aa o) /\
   ∀k ao,σ'.get k=aa ao->(σ.get k=aa ao/\¬ks k)∨ks k/\∃a,α.f k=aa a/\¬D a/\OI G (α.less D) h' a ao) (tk:Nat):Le α s.heap (α.less D) h'/\GS G (α.less D) σ' {s with heap:=h',toks:=tk}:=by
 have le:Le α s.heap (α.less D) h':=⟨λzz zz zz e=>e,λzz e=>.inl e.1,U,λb o f eb=>same b o (λk q e=>f (let⟨ao,h⟩:=hk k q;g.ow k ao b h e)) eb⟩;have not:∀k a ao,σ.get k=aa ao->α.f k=aa a->¬ks k->∀j,ks j->α.f j≠aa a:=λk a ao hao ha n j hj q=>by
  obtain⟨ao',h⟩:=hk j hj;exact n (g.inj _ _ _ _ _ h hao q ha▸hj)
 have tr:∀k ao,σ'.get k=aa ao->∃ao',σ.get k=aa ao':=λk ao e=>((x le).2 k ao e).elim (λq=>⟨_,q.1⟩) λq=>hk k q.1;refine⟨le,⟨λj o ej=>?_,λj o a ej ha=>?_,λb o eb=>⟨λq=>(g.base b o eb).1 q.1,le.keep b o (g.base b o eb).1 (g.base b o eb).2⟩,
  λi j o1 o2 a h1 h2=>let⟨_,q1⟩:=tr i _ h1;let⟨_,q2⟩:=tr j _ h2;g.inj i j _ _ a q1 q2,λk hk=>g.new k (hn▸hk),λb e=>?_,λb e=>?_,g.os,g.bare⟩⟩
 ·rcases(x le).2 j o ej with⟨q,n⟩|⟨_,a,ha,_,r⟩
  ·refine aR (g.own j o q) λb hb r=>?_
   exact⟨b,hb,r.mono le λo' e=>same b o' (not j b _ q hb n) e⟩
  ·exact⟨a,ha,r⟩
 ·rcases(x le).2 j o ej with⟨q,n⟩|⟨_,b,hb,nD,r⟩
  ·exact⟨g.ow j o a q ha,λhd=>by obtain⟨k,h1,h2⟩:=hD a hd;exact not j a _ q ha n k h1 h2⟩
  ·refine iH (tr j o ej) λao' q=>?_
   cases ha.symm.trans hb;exact⟨g.ow j ao' a q ha,nD⟩
 ·rcases Classical.em (∃k,ks k/\α.f k=aa b)with⟨k,q,hb⟩|n
  ·exact(x le).1 k q b hb e.2
  ·refine iH (g.lt b e.1) λo ho=>?_
   exact⟨o,same b o (λk q h=>n ⟨k,q,h⟩) ho⟩
 ·refine aR (g.qf b e) λo ho f=>?_
  exact⟨o,le.keep b o f ho,λq=>f q.1⟩
theorem GS.turn{G α σ s k ao a ao' h'}(g:GS G α σ s)(e:σ.get k=aa ao)(ha:α.f k=aa a)(same:∀b o,b≠a->s.heap.get? b=aa o->h'.get? b=aa o)
  (x:Le α s.heap α h'->OI G α h' a ao') (tk:Nat):Le α s.heap α h'/\GS G α (σ.set k ao') {s with heap:=h',toks:=tk}:=by
 have t:=g.goto (σ':=σ.set k ao') (h':=h') (·=k) (λzz=>False) U (λj hj=>⟨ao,hj▸e⟩) (λzz q=>q.elim) (λb o f eb=>same b o (λq=>f k U (q▸ha)) eb) (λle=>⟨?_,λj o ej=>?_⟩) tk
 ·rwa [AM.less_none]at t
 ·rw[AM.less_none]at le
  rintro j rfl b hb _;cases ha.symm.trans hb;exact(x le).live
 ·rw[AM.less_none]at le ⊢
  rw[show(σ.set k ao').get j=_ from fi k ao' j]at ej;by_cases hj:j=k
  ·rw[if_pos hj,show dh σ.objs k=aa ao from e]at ej
   cases ej;exact .inr ⟨hj,a,hj▸ha,id,x le⟩
  ·rw[if_neg hj]at ej
   exact .inl ⟨ej,hj⟩
noncomputable def AM.add(α:AM)(n a:Nat):AM:=⟨λk=>match br k n with
 |true=>aa a
 |false=>α.f k,λb=>b=a∨α.O b,α.R⟩
theorem AM.fQ(α:AM)(n a:Nat):(α.add n a).f n=aa a:=by unfold AM.add;dsimp only;rw[cD]
theorem AM.EY{b: Nat}(h:(α.add n a).f k=aa b):(k=n/\b=a)∨α.f k=aa b:=by
 unfold AM.add at h;dsimp only at h
 split at h
 ·rename_i e;cases h;exact .inl ⟨a9 e,U⟩
 ·exact .inr h
theorem AM.TU(h:α.f n=none)(k b:Nat)(e:α.f k=aa b):(α.add n a).f k=aa b:=by
 unfold AM.add;dsimp only
 split
 ·rename_i q;rw[a9 q,h]at e;cases e
 ·exact e
theorem GS.more{G α σ s ao a h'}(g:GS G α σ s)(same:∀b o,s.heap.get? b=aa o->h'.get? b=aa o)(ha:s.heap.get? a=none)
  (x:Le α s.heap (α.add σ.n a) h'->OI G (α.add σ.n a) h' a ao) (tk:Nat):Le α s.heap (α.add σ.n a) h'/\GS G (α.add σ.n a) (σ.push ao) {s with heap:=h',toks:=tk}:=by
 have h0:=g.new σ.n (aW _);have le:Le α s.heap (α.add σ.n a) h':=⟨λk zz=>AM.TU h0 k,λb e=>e.elim (λq=>.inr (q▸ha)) .inl,U,λb o zz=>same b o⟩;have Ot:∀{b},α.O b->b=a->False:=λh q=>by obtain⟨o,e⟩:=g.lt _ h;rw[q,ha]at e;cases e
 have look:∀{j o},(σ.push ao).get j=aa o->(j=σ.n/\o=ao)∨(j≠σ.n/\σ.get j=aa o):=λ{j o} ej=>by
  rw[show(σ.push ao).get j=match br j σ.n with|true=>aa ao|false=>dh σ.objs j from U]at ej;cases q:br j σ.n with
  |true=>rw[q]at ej;cases ej;exact .inl ⟨a9 q,U⟩
  |false=>rw[q]at ej;exact .inr ⟨λh=>(by rw[h,cD]at q;cases q),ej⟩
 have old:∀{j b},j≠σ.n->(α.add σ.n a).f j=aa b->α.f j=aa b:=λn h=>(AM.EY h).elim (λq=>absurd q.1 n) id;refine⟨le,⟨λj o ej=>?_,λj o b ej hb=>?_,λb o eb=>⟨le.off (g.base b o eb).1 (g.base b o eb).2,same _ _ (g.base b o eb).2⟩,λi j o1 o2 b e1 e2 h1 h2=>?_,λk hk=>?_,λb e=>?_,λb e=>?_,g.os,g.bare⟩⟩
 ·rcases look ej with⟨rfl,rfl⟩|⟨_,ej⟩
  ·exact⟨a,AM.fQ _ _ _,x le⟩
  ·refine aR (g.own j o ej) λb hb r=>?_
   exact⟨b,le.le _ aE _ hb,r.mono le (same b)⟩
 ·rcases look ej with⟨rfl,rfl⟩|⟨n,ej⟩
  ·rw[AM.fQ]at hb;cases hb;exact .inl U
  ·exact .inr (g.ow _ _ _ ej (old n hb))
 ·rcases look e1 with⟨rfl,_⟩|⟨n1,e1⟩
  ·rcases look e2 with⟨rfl,_⟩|⟨n2,e2⟩
   ·rfl
   ·rw[AM.fQ]at h1;cases h1;exact(Ot (g.ow _ _ _ e2 (old n2 h2)) U).elim
  ·rcases look e2 with⟨rfl,_⟩|⟨n2,e2⟩
   ·rw[AM.fQ]at h2;cases h2;exact(Ot (g.ow _ _ _ e1 (old n1 h1)) U).elim
   ·exact g.inj _ _ _ _ _ e1 e2 (old n1 h1) (old n2 h2)
 ·have hk:σ.n+1<=k:=hk
  unfold AM.add;dsimp only
  split
  ·rename_i q;rw[a9 q]at hk;exact absurd hk (Nat.not_succ_le_self _)
  ·exact g.new k (d2 hk)
 ·rcases e with rfl|q
  ·exact(x le).live
  ·obtain⟨o,ho⟩:=g.lt _ q;exact⟨o,same _ _ ho⟩
 ·obtain⟨o,ho,f⟩:=g.qf b e;exact⟨o,same _ _ ho,le.off f ho⟩
theorem GS.push{G α σ s ao o}(g:GS G α σ s)(x:Le α s.heap (α.add σ.n s.heap.objs.size) (s.heap.push o)->OI G (α.add σ.n s.heap.objs.size) (s.heap.push o) s.heap.objs.size ao)(tk:Nat):
  Le α s.heap (α.add σ.n s.heap.objs.size) (s.heap.push o)/\GS G (α.add σ.n s.heap.objs.size) (σ.push ao) {s with heap:=s.heap.push o,toks:=tk}:=
 g.more (λb o' e=>aC _ e) (ez _) x tk
theorem GS.same{G α σ s h'}(g:GS G α σ s)(same:∀b o,s.heap.get? b=aa o->h'.get? b=aa o)(tk:Nat):Le α s.heap α h'/\GS G α σ {s with heap:=h',toks:=tk}:=by
 have le:Le α s.heap α h':=⟨λzz zz zz e=>e,λzz e=>.inl e,U,λb o zz=>same b o⟩;refine⟨le,⟨λj o ej=>?_,g.ow,λb o eb=>⟨(g.base b o eb).1,same _ _ (g.base b o eb).2⟩,g.inj,g.new,λb e=>(g.lt b e).imp λo=>same b o,λb e=>(g.qf b e).imp λo h=>⟨same b o h.1,h.2⟩,g.os,g.bare⟩⟩;refine aR (g.own j o ej) λb hb r=>?_;exact⟨b,hb,r.mono le (same b)⟩
theorem GS.tok{G α σ s}(g:GS G α σ s)(tk:Nat):GS G α σ {s with toks:=tk}:=⟨g.own,g.ow,g.base,g.inj,g.new,g.lt,g.qf,g.os,g.bare⟩
end
section
inductive CF where|next|brk|cont|ret (c:CV)
noncomputable def CF.ctorIdx(x:CF):Nat:=CF.casesOn x 0 1 2 (λ_=>3)
def RF(α:AM)(h:Heap):CF->Flow->Prop
 |.next,f=>f=.next
 |.brk,f=>f=.brk
 |.cont,f=>f=.cont
 |.ret c,f=>∃v,f=.ret v/\VR α h c v
def RB(_:AM)(_:Heap)(b b':Bool):Prop:=b=b'
def RU(_:AM)(_:Heap)(_ _:Unit):Prop:=True
theorem jC.lookup{α:AM}{x:Str}{k:Nat}{l:List (Str×Nat)}:∀{cs},jC α l cs->l.lookup x=aa k->∃a,cs.lookup x=aa a/\α.f k=aa a:=by
 induction l with
 |nil=>intro cs _ e;cases e
 |cons p l ih =>
  intro _ Fz e;refine f5 (Fz) λa ds kD h q=>?_;obtain rfl:=kD;rw[a7]at e ⊢;cases z:x==p.1 with
  |true=>rw[z]at e;cases e;exact⟨a,U,h⟩
  |false=>rw[z]at e;exact ih q e
def BW(α:AM)(l cs:List (Str×Nat)):Prop:=∀x k,l.lookup x=aa k->∃a,cs.lookup x=aa a/\α.f k=aa a
theorem jC.sU{α:AM}{l cs:List (Str×Nat)}(h:jC α l cs):BW α l cs:=λzz zz e=>h.lookup e
structure EI(α:AM)(e env:Env):Prop where
 loc:α.f e.locals=aa env.locals
 cells:BW α e.cells env.cells
 scope:env.scope=e.scope
 globals:env.globals=e.globals
 builtins:env.builtins=e.builtins
 qual:env.qual=e.qual
 code:env.code=e.code
theorem EI.mono{α h β h' e env}(x:Le α h β h')(i:EI α e env):EI β e env:=⟨x.le _ aE _ i.loc,λy k e=>(i.cells y k e).imp λa q=>⟨q.1,x.le k aE a q.2⟩,i.scope,i.globals,i.builtins,i.qual,i.code⟩
theorem EI.kindOf{α e env}(i:EI α e env)(x:Str):env.kindOf x=e.kindOf x:=by unfold Env.kindOf;rw[i.scope]
variable{G:Gv}{e:Env}{σ σ1 σ2 σ3:St}{a b c d:CV}{i j:Int}{x:Str}
def a8(G:Gv)(e:Env)(x:Expr)(σ:St)(c:CV)(σ':St):Prop:=∀α s env E,EI α e env->GS G α σ s->aH G.M G.A (eval x env) (W VR G α s.heap c σ') E s
def gc(G:Gv)(e:Env)(x:Str)(σ:St)(c:CV):Prop:=∀α s env E,EI α e env->GS G α σ s->aH G.M G.A (loadName env x) (W VR G α s.heap c σ) E s
def cS(G:Gv)(e:Env)(x:Expr)(σ:St)(b:Bool)(σ':St):Prop:=∀α s env E,EI α e env->GS G α σ s->aH G.M G.A (isTrue x env (eval x env)) (W RB G α s.heap b σ') E s
def dJ(G:Gv)(e:Env)(x:Str)(c:CV)(σ σ':St):Prop:=∀α s env E v,EI α e env->GS G α σ s->VR α s.heap c v->aH G.M G.A (storeName env x v) (W RU G α s.heap () σ') E s
def dD(G:Gv)(f:aq->Sem aq)(a:CV)(σ:St)(c:CV)(σ':St):Prop:=∀α s v E,GS G α σ s->VR α s.heap a v->aH G.M G.A (f v) (W VR G α s.heap c σ') E s
def bN(G:Gv)(f:aq->aq->Sem aq)(a b:CV)(σ:St)(c:CV)(σ':St):Prop:=∀α s v w E,GS G α σ s->VR α s.heap a v->VR α s.heap b w->aH G.M G.A (f v w) (W VR G α s.heap c σ') E s
def ZO(G:Gv)(a:CV)(σ:St)(b:Bool):Prop:=∀α s v E,GS G α σ s->VR α s.heap a v->aH G.M G.A (truthy v) (W RB G α s.heap b σ) E s
def bM(G:Gv)(f:List aq->Sem aq)(cs:List CV)(σ:St)(c:CV)(σ':St):Prop:=∀α s vs E,GS G α σ s->di α s.heap cs vs->aH G.M G.A (f vs) (W VR G α s.heap c σ') E s
theorem GS.here{γ δ:Type}{R:AM->Heap->δ->γ->Prop}{α s d v}(g:GS G α σ s)(r:R α s.heap d v):W R G α s.heap d σ v s:=⟨α,.refl _ _,g,r⟩
theorem GS.fh{γ δ:Type}{R:AM->Heap->δ->γ->Prop}{α s d v}{k: Nat}(g:GS G α σ s)(r:R α s.heap d v):W R G α s.heap d σ v {s with toks:=k}:=⟨α,.refl _ _,g.tok k,r⟩
theorem wQ{α:Type}{M:gw}{A:bZ}{s: aA}{t:Sem α}{Q Q':α->aA->Prop}{E:aq->aA->Prop}(h:aH M A t Q E s)(k:∀a s,Q a s->Q' a s):aH M A t Q' E s:=dz h k λzz zz x=>x
section
variable{G:Gv}{k:Nat}{σ:St}{α:AM}{h0:Heap}{M:gw}{A:bZ}{E:aq->aA->Prop}{s:aA}
section
variable{γ δ:Type}{R:AM->Heap->δ->γ->Prop}{d:δ}{t:Sem γ}{Q:γ->aA->Prop}
theorem iI(h:aH M A t (W R G α h0 d σ) E s)(k:∀β v s',Le α h0 β s'.heap->GS G β σ s'->R β s'.heap d v->Q v s'):aH M A t Q E s:=wQ h λv s ⟨β,x,g,r⟩=>k β v s x g r
end
theorem Aq{b: Bool}{t: Sem Bool}{Q:Bool->aA->Prop}(h:aH M A t (W RB G α h0 b σ) E s)(k:∀β s',Le α h0 β s'.heap->GS G β σ s'->Q b s'):aH M A t Q E s:=wQ h λv s ⟨β,x,g,r⟩=>r▸k β s x g
theorem E1{t:Sem Unit}{R:AM->Heap->Unit->Unit->Prop}{Q:Unit->aA->Prop}(h:aH M A t (W R G α h0 () σ) E s)(k:∀β s',Le α h0 β s'.heap->GS G β σ s'->Q () s'):aH M A t Q E s:=wQ h λv s ⟨β,x,g,r⟩=>k β s x g
theorem Nj{t: Sem aq}{Q:aq->aA->Prop}(h:aH M A t (W VR G α h0 (.ref k) σ) E s)(q:∀β a s',Le α h0 β s'.heap->GS G β σ s'->β.f k=aa a->Q (.ref a) s'):aH M A t Q E s:=iI h λβ v s x g ⟨a,e,r⟩=>e▸q β a s x g r
theorem J9{w: aq}{t: Sem aq}{Q:aq->aA->Prop}(h:aH M A t (W VR G α h0 (.val w) σ) E s)(q:∀β s',Le α h0 β s'.heap->GS G β σ s'->Q w s'):aH M A t Q E s:=iI h λβ v s x g r=>(show v=w from r)▸q β s x g
theorem aaf{t: Sem aq}{Q:aq->aA->Prop}(h:aH M A t (W VR G α h0 .none σ) E s)(q:∀β s',Le α h0 β s'.heap->GS G β σ s'->Q .none s'):aH M A t Q E s:=iI h λβ v s x g r=>(show v=.none from r)▸q β s x g
end
noncomputable def C4(x:Str):Bool:=x==("__debug__":Str)
noncomputable def bB(e:Env)(x:Str)(k:NameKind):Bool:=e.scope.kind==.function&&e.kindOf x==aa k
theorem bB.is{x k α env}(h:bB e x k=af)(i:EI α e env):env.scope.kind=.function/\env.kindOf x=aa k:=by
 unfold bB at h;rw[aV]at h;exact⟨i.scope▸beq_iff_eq.mp h.1,(i.kindOf x).trans (beq_iff_eq.mp h.2)⟩
theorem a8.name{x p}(h:gc G e x σ c)(hd:C4 x=false):a8 G e (.Name x p) σ c σ:=λα s env E i g=>gB (h α s env E i g) hd
theorem gc.loc{x m}(hm:σ.get e.locals=aa (.frame m))(hx:m.lookup x=aa c)(hl:autoParam (bB e x .local=af) uw):gc G e x σ c:=by
 intro α s env E i g;refine dH λlg eS=>?_;obtain⟨a,ha,mf,hn,q⟩:=g.own _ _ hm;refine eS ?_;refine aR (q _ _ hx) λv hv r=>?_;rw[i.loc]at ha;cases ha;exact dQ (bB.is hl i).1 (bB.is hl i).2 hn hv (g.here r)
theorem a8.loc{x p m}(hm:σ.get e.locals=aa (.frame m))(hx:m.lookup x=aa c)(hl:autoParam (bB e x .local=af) uw)(hd:autoParam (C4 x=false) iU):a8 G e (.Name x p) σ c σ:=.name (.loc hm hx hl) hd
theorem GS.cell{α s env x k}(g:GS G α σ s)(i:EI α e env)(hc:e.cells.lookup x=aa k)(hx:σ.get k=aa (.cell (aa c))):∃a v,env.cells.lookup x=aa a/\s.heap.IsCell a (aa v)/\VR α s.heap c v:=by
 refine dH λlg eS=>?_;obtain⟨a,ha,v,ic,_,q⟩:=g.own _ _ hx;refine eS ?_;refine aR (q c U) λw U8 r=>?_;obtain rfl:=U8;refine aR (i.cells _ _ hc) λb hb e2=>?_;cases ha.symm.trans e2;exact Aa a w ⟨hb,ic,r⟩
theorem gc.cell{x k}(hc:e.cells.lookup x=aa k)(hx:σ.get k=aa (.cell (aa c)))(hl:autoParam (bB e x .cell=af) uw):gc G e x σ c:=by
 intro α s env E i g;refine f5 (g.cell i hc hx) λa v h1 h2 r=>?_;exact wpAny_loadName_cell (bB.is hl i).1 (bB.is hl i).2 h1 h2 (g.here r)
theorem a8.cell{x p k}(hc:e.cells.lookup x=aa k)(hx:σ.get k=aa (.cell (aa c)))(hl:autoParam (bB e x .cell=af) uw)(hd:autoParam (C4 x=false) iU):a8 G e (.Name x p) σ c σ:=.name (.cell hc hx hl) hd
theorem a8.free{x p k}(hl:bB e x .free=af)(hc:e.cells.lookup x=aa k)(hx:σ.get k=aa (.cell (aa c)))(hd:autoParam (C4 x=false) iU)(hn:autoParam ((x==("__classdict__":Str))=false) iU):a8 G e (.Name x p) σ c σ:=by
 refine .name (λα s env E i g=>?_) hd;refine f5 (g.cell i hc hx) λa v h1 h2 r=>?_;exact wpAny_loadName_free (bB.is hl i).1 (bB.is hl i).2 h1 h2 (g.here r) hn
def Glob(G:Gv)(x:Str)(v:aq):Prop:=(∃mg,G.h₀.Ns 3 mg/\mg x=aa v)∨∃mg mb,G.h₀.Ns 3 mg/\mg x=none/\G.h₀.Ns 0 mb/\mb x=aa v
theorem gM{env: Env}(h1:env.scope.kind=.function)(h2:env.kindOf x=aa .globalImplicit):loadName env x=loadGlobal env x:=by
 obtain⟨⟨k,ns,g,c,m⟩,l,gl,cs,q,f,cd,fr,b⟩:=env;cases h1;unfold loadName;rw[h2];rfl
theorem a8.glob{x p v}(h:Glob G x v)(hl:autoParam (bB e x .globalImplicit=af) uw)(hg:autoParam (e.globals=3) iU)(hb:autoParam (e.builtins=0) iU)(hd:autoParam (C4 x=false) iU):a8 G e (.Name x p) σ (.val v) σ:=by
 intro α s env E i g;have kp:=λb o eb=>(g.base b o eb).2;refine gB ?_ hd;rw[gM (bB.is hl i).1 (bB.is hl i).2];rcases h with⟨mg,n1,e1⟩|⟨mg,mb,n1,e1,n2,e2⟩
 ·exact gx ((i.globals.trans hg)▸n1.keeps kp) e1 (g.here U)
 ·exact i4 ((i.globals.trans hg)▸n1.keeps kp) e1 ((i.builtins.trans hb)▸n2.keeps kp) e2 (g.here U)
theorem a8.int{i k pos}:a8 G e (.Constant (.int i) k pos) σ (.int i) σ:=λzz zz zz zz zz g=>wpAny_Constant_int (g.fh ⟨_,U⟩)
theorem a8.str{x k pos}:a8 G e (.Constant (.str x) k pos) σ (.str x) σ:=λzz zz zz zz zz g=>Calls.Constant_str (g.fh ⟨_,U⟩)
theorem a8.none{k pos}:a8 G e (.Constant .none k pos) σ .none σ:=λzz zz zz zz zz g=>λzz zz zz=>g.here U
theorem a8.bool{b k pos}:a8 G e (.Constant (.bool b) k pos) σ (.bool b) σ:=λzz zz zz zz zz g=>λzz zz zz=>g.here U
theorem two{x y: Expr}{f:aq->aq->Sem aq}{α s env E}(h1:a8 G e x σ a σ1)(h2:a8 G e y σ1 b σ2)(h3:bN G f a b σ2 c σ3)(i:EI α e env)(g:GS G α σ s):
  aH G.M G.A (eval x env) (λv s1=>aH G.M G.A (eval y env) (λw s2=>aH G.M G.A (f v w) (W VR G α s.heap c σ3) E s2) E s1) E s:=by
 refine iI (h1 α s env E i g) λβ v s1 x g1 r1=>?_;refine iI (h2 β s1 env E (i.mono x) g1) λγ w s2 y g2 r2=>?_;exact wQ (h3 γ s2 v w E g2 (r1.mono y) r2) λzz zz w=>w.trans (x.trans y)
theorem a8.bin{l op r pos}(h1:a8 G e l σ a σ1)(h2:a8 G e r σ1 b σ2)(h3:bN G (eB op) a b σ2 c σ3):a8 G e (.BinOp l op r pos) σ c σ3:=
 λα s env E i g=>wpAny_BinOp (two h1 h2 h3 i g)
theorem a8.cmp{l op r pos}(h1:a8 G e l σ a σ1)(h2:a8 G e r σ1 b σ2)(h3:bN G (bS op) a b σ2 c σ3)(hm:autoParam (behindInMarks op r=false) iU):a8 G e (.Compare l [op] [r] pos) σ c σ3:=
 λα s env E i g=>wpAny_Compare1 (two h1 h2 h3 i g) hm
theorem i2{f:aq->aq->Sem aq}{k: Int}(hf:∀(s:aA)(Q:aq->aA->Prop)(E:aq->aA->Prop)(t u:Tok),(∀x n,Q (.int k x) {s with toks:=n})->aH G.M G.A (f (.int i t) (.int j u)) Q E s):bN G f (.int i) (.int j) σ (.int k) σ:=by
 rintro α s _ _ E g ⟨t,rfl⟩ ⟨u,rfl⟩;exact hf s _ _ _ _ λx n=>g.fh ⟨_,U⟩
theorem b2{f:aq->aq->Sem aq}{k: Bool}(hf:∀(s:aA)(Q:aq->aA->Prop)(E:aq->aA->Prop)(t u:Tok),Q (.bool k) s->aH G.M G.A (f (.int i t) (.int j u)) Q E s):bN G f (.int i) (.int j) σ (.bool k) σ:=by
 rintro α s _ _ E g ⟨t,rfl⟩ ⟨u,rfl⟩;exact hf s _ _ _ _ (g.here U)
theorem jq:bN G (eB .Add) (.int i) (.int j) σ (.int (i+j)) σ:=i2 λs Q E t u h=>P.add_int (h _ _)
theorem pG:bN G (eB .Sub) (.int i) (.int j) σ (.int (i-j)) σ:=i2 λs Q E t u h=>P.sub_int (h _ _)
theorem pH(hm:IntMulOk i j):bN G (eB .Mult) (.int i) (.int j) σ (.int (i*j)) σ:=i2 λs Q E t u h=>P.mul_int (h _ _) hm
theorem mc(hb:j≠0)(hs:j.natAbs<1073741824):bN G (eB .FloorDiv) (.int i) (.int j) σ (.int (i.fdiv j)) σ:=i2 λs Q E t u h=>PyProof.Rows.floordiv_int hb (h _ _) (Or.inl (PyProof.noPylong_small hs))
theorem nu(hb:j≠0):bN G (eB .Mod) (.int i) (.int j) σ (.int (i.fmod j)) σ:=i2 λs Q E t u h=>PyProof.Rows.mod_int' hb (h _ _)
theorem sj:bN G (inplaceOp .Add) (.int i) (.int j) σ (.int (i+j)) σ:=i2 λs Q E t u h=>P.iadd_int (h _ _)
theorem iK:bN G (bS .Lt) (.int i) (.int j) σ (.bool (decide (i<j))) σ:=b2 λs Q E t u h=>P.lt_int h
theorem rE:bN G (bS .Gt) (.int i) (.int j) σ (.bool (decide (i>j))) σ:=b2 λs Q E t u h=>P.gt_int h
theorem vm:bN G (bS .Eq) (.int i) (.int j) σ (.bool (i==j)) σ:=b2 λs Q E t u h=>P.eq_int h
theorem Cz:bN G (bS .NotEq) (.int i) (.int j) σ (.bool (i != j)) σ:=b2 λs Q E t u h=>P.ne_int h
end
section
noncomputable def EB(m:Nat)(e:Env):Bool:=cf e.locals m&&e.cells.all λp=>cf p.2 m
theorem lookup_all{f:Nat->Bool}{x:Str}{k:Nat}{l:List (Str×Nat)}(h:(l.all λp=>f p.2)=af)(e:l.lookup x=aa k):f k=af:=by
 induction l with
 |nil=>cases e
 |cons p l ih =>
  rw[gZ,aV]at h;rw[a7]at e;cases z:x==p.1 with
  |true=>rw[z]at e;cases e;exact h.1
  |false=>rw[z]at e;exact ih h.2 e
theorem EI.pj{m α h β h' e env}(x:BU m α h β h')(b:EB m e=af)(i:EI α e env):EI β e env:=by
 unfold EB at b;rw[aV]at b;exact⟨x.le _ (Nat.blt_eq.mp b.1) _ i.loc,λy k e=>(i.cells y k e).imp λa q=>⟨q.1,x.le k (Nat.blt_eq.mp (lookup_all (f:=λk=>cf k m) b.2 e)) a q.2⟩,i.scope,i.globals,i.builtins,i.qual,i.code⟩
inductive WM(m:Nat)(G:Gv)(α:AM)(h:Heap)(d:CF)(σ:St)(v:Flow)(s:aA):Prop
 |mk (β:AM) (le:BU m α h β s.heap) (gs:GS G β σ s) (r:RF β s.heap d v):WM m G α h d σ v s
theorem WM.trans{m G α h β h' d σ v s}(x:BU m α h β h')(y:WM m G β h' d σ v s):WM m G α h d σ v s:=by
 obtain⟨γ,le,gs,r⟩:=y;exact⟨γ,x.trans le,gs,r⟩
section
variable{G:Gv}{m k:Nat}{σ:St}{α:AM}{h0:Heap}{M:gw}{A:bZ}{E:aq->aA->Prop}{s:aA}
theorem wqM{d:CF}{t:Sem Flow}{Q:Flow->aA->Prop}(h:aH M A t (WM m G α h0 d σ) E s)(k:∀β v s',BU m α h0 β s'.heap->GS G β σ s'->RF β s'.heap d v->Q v s'):aH M A t Q E s:=wQ h λv s ⟨β,x,g,r⟩=>k β v s x g r
theorem Va{t:Sem Flow}{Q:Flow->aA->Prop}(h:aH M A t (WM m G α h0 .next σ) E s)(k:∀β s',BU m α h0 β s'.heap->GS G β σ s'->Q .next s'):aH M A t Q E s:=wqM h λβ v s x g r=>(show v=.next from r)▸k β s x g
end
variable{G:Gv}{m:Nat}{e:Env}{σ σ1 σ2 σ3:St}{a b c:CV}{f:CF}{i:Int}{t:Bool}
def SS(G:Gv)(m:Nat)(e:Env)(x:Stmt)(σ:St)(f:CF)(σ':St):Prop:=∀α s env E,EI α e env->GS G α σ s->aH G.M G.A (exec x env) (WM m G α s.heap f σ') E s
def eY(G:Gv)(m:Nat)(e:Env)(x:List Stmt)(σ:St)(f:CF)(σ':St):Prop:=∀α s env E,EI α e env->GS G α σ s->aH G.M G.A (jI x env) (WM m G α s.heap f σ') E s
theorem GS.Yn{α s v}(g:GS G α σ s)(r:RF α s.heap f v):WM m G α s.heap f σ v s:=⟨α,(Le.refl _ _).nj,g,r⟩
theorem Vz:ZO G (.int i) σ (i != 0):=by rintro α s _ E g ⟨t,rfl⟩;exact P.truthy_int (g.here U)
theorem cS.plain{x: Expr}(h:a8 G e x σ c σ1)(ht:ZO G c σ1 t)(he:autoParam (∀env,isTrue x env (eval x env)=(do let v ←eval x env;f6 x.pos;h_ [v] (truthy v))) j2):cS G e x σ t σ1:=by
 intro α s env E i g;refine PyProof.Rows.isTrue_plain (iI (h α s env E i g) λβ v s1 x g1 r1=>?_) (he env);exact wQ (ht β s1 v E g1 r1) λzz zz w=>w.trans x
theorem cS.cmp{l op r pos}(h1:a8 G e l σ a σ1)(h2:a8 G e r σ1 b σ2)(h3:bN G (bS op) a b σ2 (.bool t) σ3)(hm:autoParam (behindInMarks op r=false) iU):cS G e (.Compare l [op] [r] pos) σ t σ3:=by
 intro α s env E i g;refine wpAny_isTrue_Compare1 (iI (h1 α s env E i g) λβ v s1 x g1 r1=>?_) hm;refine iI (h2 β s1 env E (i.mono x) g1) λγ w s2 y g2 r2=>?_;refine wQ (h3 γ s2 v w E g2 (r1.mono y) r2) ?_;rintro _ s3 ⟨δ,z,g3,rfl⟩;exact wpAny_truthy_bool ⟨δ,(x.trans y).trans z,g3,U⟩
theorem cS.sa{x y c8 pos}(h:cS G e x σ af σ1)(k:cS G e (.BoolOp .And (y::c8) pos) σ1 t σ2):cS G e (.BoolOp .And (x::y::c8) pos) σ t σ2:=by
 intro α s env E i g;refine lS (Aq (h α s env E i g) λβ s1 x g1=>?_);exact wQ (k β s1 env E (i.mono x) g1) λzz zz w=>w.trans x
theorem cS.JX{x c8 pos}(h:cS G e x σ false σ1):cS G e (.BoolOp .And (x::c8) pos) σ false σ1:=by
 intro α s env E i g;refine lS (wQ (h α s env E i g) ?_);rintro _ s1 ⟨β,x,g1,rfl⟩;exact⟨β,x,g1,U⟩
theorem cS.uj{x pos}(h:cS G e x σ t σ1):cS G e (.BoolOp .And [x] pos) σ t σ1:=by
 intro α s env E i g;refine lS (Aq (h α s env E i g) λβ s1 x g1=>?_);cases t with
 |false=>exact⟨β,x,g1,U⟩
 |true=>exact PyProof.Rows.isTrue_and_nil ⟨β,x,g1,U⟩
theorem cS.G8{x y c8 pos}(h:cS G e x σ false σ1)(k:cS G e (.BoolOp .Or (y::c8) pos) σ1 t σ2):cS G e (.BoolOp .Or (x::y::c8) pos) σ t σ2:=by
 intro α s env E i g;refine gh (Aq (h α s env E i g) λβ s1 x g1=>?_);exact wQ (k β s1 env E (i.mono x) g1) λzz zz w=>w.trans x
theorem cS.orT{x c8 pos}(h:cS G e x σ af σ1):cS G e (.BoolOp .Or (x::c8) pos) σ af σ1:=by
 intro α s env E i g;refine gh (wQ (h α s env E i g) ?_);rintro _ s1 ⟨β,x,g1,rfl⟩;exact⟨β,x,g1,U⟩
theorem cS.QQ{x pos}(h:cS G e x σ t σ1):cS G e (.BoolOp .Or [x] pos) σ t σ1:=by
 intro α s env E i g;refine gh (Aq (h α s env E i g) λβ s1 x g1=>?_);cases t with
 |true=>exact⟨β,x,g1,U⟩
 |false=>exact PyProof.Rows.isTrue_or_nil ⟨β,x,g1,U⟩
theorem a8.js{t x y pos}{b: Bool}(h:cS G e t σ b σ1)(k:a8 G e (if b then x else y) σ1 c σ2):a8 G e (.IfExp t x y pos) σ c σ2:=by
 intro α s env E i g;refine wpAny_IfExp (Aq (h α s env E i g) λβ s1 x g1=>?_);cases b<;>exact wQ (k β s1 env E (i.mono x) g1) λzz zz w=>w.trans x
theorem a8.un{op x pos}(h:a8 G e x σ a σ1)(k:dD G (unaryOp op) a σ1 c σ2):a8 G e (.UnaryOp op x pos) σ c σ2:=by
 intro α s env E i g;refine UnaryOp_ (wQ (h α s env E i g) ?_);rintro v s1 ⟨β,x,g1,r1⟩;exact wQ (k β s1 v E g1 r1) λzz zz w=>w.trans x
theorem iu:dD G (unaryOp .USub) (.int i) σ (.int (-i)) σ:=by rintro α s _ E g ⟨t,rfl⟩;exact P.neg_int (g.fh ⟨_,U⟩)
noncomputable def qU(e:Expr):Bool:=!(br e.ctorIdx 22)
theorem kr{e: Expr}{es: List Expr}{env: Env}(h:qU e=af):eA (e::es) env=(false,eval e env)::eA es env:=by
 cases e<;>first|rfl|cases h
def jK(G:Gv)(e:Env)(pos:Pos)(xs:List Expr)(σ:St)(cs:List CV)(σ':St):Prop:=
 xs.all qU=af/\∀α s env E,EI α e env->GS G α σ s->aH G.M G.A (spliced (j8 pos (eA xs env))) (W di G α s.heap cs σ') E s
variable{pos:Pos}{xs:List Expr}{cs:List CV}
theorem jK.nil:jK G e pos [] σ [] σ:=⟨U,λzz zz zz zz zz g=>eN (g.here U)⟩
theorem jK.cons{x}(h:a8 G e x σ c σ1)(k:jK G e pos xs σ1 cs σ2)(hp:autoParam (qU x=af) iU):jK G e pos (x::xs) σ (c::cs) σ2:=by
 refine⟨by rw[gZ,hp,k.1];rfl,λα s env E i g=>?_⟩;rw[kr hp];refine dE (iI (h α s env E i g) λβ v s1 x g1 r1=>?_);refine iI (k.2 β s1 env E (i.mono x) g1) λγ vs s2 y g2 r2=>?_;exact⟨γ,x.trans y,g2,v,vs,U,r1.mono y,r2⟩
theorem GS.list{α s xs vs}(g:GS G α σ s)(r:di α s.heap xs vs)(tk:Nat):W VR G α s.heap (.ref σ.n) (σ.push (.list xs)) (.ref s.heap.objs.size) {s with heap:=s.heap.push (fg vs 0),toks:=tk}:=by
 have t:=g.push (ao:=.list xs) (o:=fg vs 0) (λle=>⟨vs,0,aJ _ U,r.mono le⟩) tk;exact⟨_,t.1,t.2,_,U,AM.fQ _ _ _⟩
theorem a8.list(h:jK G e pos xs σ cs σ1)(hf:dM cs.length bC=af):a8 G e (.List xs pos) σ (.ref σ1.n) (σ1.push (.list cs)):=by
 intro α s env E i g;refine wpAny_List (iI (h.2 α s env E i g) λβ vs s1 x g1 r1=>?_);exact⟨by rw[r1.length];exact bw hf,(g1.list r1 s1.toks).trans x⟩
theorem GS.tup{α s xs vs}(g:GS G α σ s)(r:di α s.heap xs vs)(tk:Nat):W VR G α s.heap (.tup xs) σ (.ref s.heap.objs.size) {s with heap:=s.heap.push (ux vs 0),toks:=tk}:=by
 have t:=g.same (h':=s.heap.push (ux vs 0)) (λb o e=>aC _ e) tk;exact⟨_,t.1,t.2,_,vs,0,U,λhk=>(by obtain⟨o,e⟩:=g.lt _ hk;rw[ez]at e;cases e),λhR=>(by obtain⟨o,e,_⟩:=g.qf _ hR;rw[ez]at e;cases e),aJ _ U,r.mono t.1⟩
end
section
variable{G:Gv}{m:Nat}{e:Env}{σ σ1 σ2 σ3:St}{a b c d:CV}{f:CF}
noncomputable def upd:List (Str×CV)->Str->CV->List (Str×CV)
 |[],x,c=>[(x,c)]
 |(y,d)::m,x,c=>match x==y with
  |true=>(y,c)::m
  |false=>(y,d)::upd m x c
theorem Bi(x:Str)(c:CV)(y:Str):∀(m:List (Str×CV)),(upd m x c).lookup y=if y=x then aa c else m.lookup y:=by
 intro m
 induction m with
 |nil =>
  show jx y [(x,c)]=_;rw[a7];by_cases h:y=x
  ·rw[if_pos h,beq_iff_eq.mpr h]
  ·rw[if_neg h,beq_eq_false_iff_ne.mpr h]
 |cons p m ih =>
  obtain⟨z,d⟩:=p;unfold upd;cases q:x==z with
  |true =>
   rw[←beq_iff_eq.mp q,a7,a7];by_cases h:y=x
   ·rw[if_pos h,beq_iff_eq.mpr h]
   ·rw[if_neg h,beq_eq_false_iff_ne.mpr h]
  |false =>
   show jx y ((z,d)::upd m x c)=_;rw[a7,a7,ih];by_cases h:y=x
   ·rw[h,q,if_pos U]
   ·rw[if_neg h,if_neg h]
theorem dJ.loc{x m'}(hm:σ.get e.locals=aa (.frame m'))(hl:autoParam (bB e x .local=af) uw):dJ G e x c σ (σ.set e.locals (.frame (upd m' x c))):=by
 intro α s env E v i g r;refine dH λlg eS=>?_;obtain⟨a,ha,mf,hn,q⟩:=g.own _ _ hm;have hl:=bB.is hl i;have ea:a=env.locals:=bR (ha.symm.trans i.loc);subst ea;refine eS ?_;refine wpAny_storeName_local hl.2 hn (λh' X_ xc=>?_) (by rw[hl.1];rfl);have t:=g.turn (h':=h') hm i.loc (ao':=.frame (upd m' x c)) (λb o hb eo=>(xc.2 b hb).trans eo) (λle=>⟨_,X_,λy d hy=>?_⟩) (s.toks+1)
 ·exact⟨α,t.1,t.2,aE⟩
 ·rw[Bi]at hy
  by_cases Z8:y=x
  ·rw[if_pos Z8]at hy
   cases hy;exact⟨v,if_pos Z8,r.mono le⟩
  ·rw[if_neg Z8]at hy
   refine aR (q y d hy) λw hw r'=>?_;exact⟨w,(if_neg Z8).trans hw,r'.mono le⟩
theorem dJ.cell{x k o}(hc:e.cells.lookup x=aa k)(hm:σ.get k=aa (.cell o))(hl:autoParam (bB e x .cell=af) uw):dJ G e x c σ (σ.set k (.cell (aa c))):=by
 intro α s env E v i g r;refine dH λlg eS=>?_;obtain⟨a,ha,v0,ic,_⟩:=g.own _ _ hm;refine eS ?_;have hl:=bB.is hl i;refine aR (i.cells _ _ hc) λb hb e2=>?_;cases ha.symm.trans e2;refine wpAny_storeName_cell hl.1 hl.2 hb ic λh' he xc=>?_;have t:=g.turn (h':=h') hm ha (ao':=.cell (aa c)) (λb o hb eo=>(xc.2 b hb).trans eo) (λle=>⟨_,he,λh=>(nomatch h),λd hd=>?_⟩) s.toks
 ·exact⟨α,t.1,t.2,aE⟩
 ·cases hd
  exact⟨v,U,r.mono le⟩
theorem eY.nil:eY G m e [] σ .next σ:=λzz zz zz zz zz g=>wpAny_execs_nil (g.Yn U)
theorem eY.cons{st c8}(h:SS G m e st σ .next σ1)(k:eY G m e c8 σ1 f σ2)(hb:EB m e=af):eY G m e (st::c8) σ f σ2:=by
 intro α s env E i g;refine gT (Va (h α s env E i g) λβ s1 x g1=>?_);exact wQ (k β s1 env E (i.pj x hb) g1) λzz zz w=>w.trans x
noncomputable def CF.wV:CF->Bool | .next=>false|_=>af
theorem eY.stop{st c8}(h:SS G m e st σ f σ1)(hf:f.wV=af):eY G m e (st::c8) σ f σ1:=by
 intro α s env E i g;refine gT (wQ (h α s env E i g) ?_);intro v s1 w;cases f with
 |next=>cases hf
 |brk=>obtain⟨β,x,g1,rfl⟩:=w;exact⟨β,x,g1,U⟩
 |cont=>obtain⟨β,x,g1,rfl⟩:=w;exact⟨β,x,g1,U⟩
 |ret c=>obtain⟨β,x,g1,v,rfl,r⟩:=w;exact⟨β,x,g1,v,U,r⟩
noncomputable def pK(e:Expr):Bool:=dM 8 e.ctorIdx&&dM e.ctorIdx 10
theorem tE{value: Expr}(h:pK value=false)(t:Option Expr)(l:Nat)(env:Env):swapsWith value t l env=pure false:=by
 cases value<;>first|rfl|cases h
theorem SS.assign{x p value pos}(h:a8 G e value σ c σ1)(k:dJ G e x c σ1 σ2)(hc:autoParam (pK value=false) iU):SS G m e (.Assign [.Name x p] value pos) σ .next σ2:=by
 intro α s env E i g;refine wpAny_Assign_Name (iI (h α s env E i g) λβ v s1 x g1 r1=>?_) (tE hc _ _ _);refine E1 (k β s1 env E v (i.mono x) g1 r1) λγ s2 y g2=>?_;exact⟨γ,(x.trans y).nj,g2,U⟩
theorem SS.aug{x p op value pos}(h1:gc G e x σ a)(h2:a8 G e value σ b σ1)(h3:bN G (inplaceOp op) a b σ1 c σ2)(k:dJ G e x c σ2 σ3):SS G m e (.AugAssign (.Name x p) op value pos) σ .next σ3:=by
 intro α s env E i g;refine wpAny_AugAssign_Name (iI (h1 α s env E i g) λβ v s1 x g1 r1=>?_);refine iI (h2 β s1 env E (i.mono x) g1) λγ w s2 y g2 r2=>?_;refine iI (h3 γ s2 v w E g2 (r1.mono y) r2) λδ u s3 z g3 r3=>?_;refine E1 (k δ s3 env E u (((i.mono x).mono y).mono z) g3 r3) λε s4 t g4=>?_;exact⟨ε,(((x.trans y).trans z).trans t).nj,g4,U⟩
theorem SS.js{t x y pos}{b: Bool}(h:cS G e t σ b σ1)(k:eY G m e (if b then x else y) σ1 f σ2):SS G m e (.If t x y pos) σ f σ2:=by
 intro α s env E i g;refine wpAny_If (Aq (h α s env E i g) λβ s1 x g1=>?_);cases b<;>exact wQ (k β s1 env E (i.mono x) g1) λzz zz w=>w.trans x.nj
theorem SS.ret{x pos}(h:a8 G e x σ c σ1):SS G m e (.Return (aa x) pos) σ (.ret c) σ1:=by
 intro α s env E i g;refine wpAny_Return_some (wQ (h α s env E i g) ?_);rintro v s1 ⟨β,x,g1,r1⟩;exact⟨β,x.nj,g1,v,U,r1⟩
theorem SS.expr{x pos}(h:a8 G e x σ .none σ1)(hk:autoParam ((e.scope.kind==.function)=af) iU)(hc:autoParam (pK x=false) iU):SS G m e (.Expr x pos) σ .next σ1:=by
 intro α s env E i g;have hi:interactive env=false:=by
  unfold interactive;rw[i.scope,beq_iff_eq.mp hk];rfl
 refine wpAny_Expr (aaf (h α s env E i g) λβ s1 x g1=>?_) hi (tE hc _ _ _);exact⟨β,x.nj,g1,U⟩
def gN(m:Nat)(σ σ':St):Prop:=∀G α s,GS G α σ s->∃β,BU m α s.heap β s.heap/\GS G β σ' s
theorem gN.refl:gN m σ σ:=λzz α zz g=>⟨α,(Le.refl _ _).nj,g⟩
theorem D7{A:bZ}(h:A.handled=none):A.mark none=A:=by cases A;cases h;rfl
end
section
variable{G:Gv}{m:Nat}{e:Env}{σ σ1 σ2 σ3 Ae:St}{a b c d:CV}{f:CF}{cs ks:List CV}{α:AM}{s:aA}{n:Nat}{env:Env}
noncomputable def AM.kZ(α:AM)(n a c:Nat):AM:=⟨λk=>match dM n k&&cf k (n+c)with
 |true=>aa (a+(k-n))
 |false=>α.f k,λb=>(∃i,i<c/\b=a+i)∨α.O b,α.R⟩
theorem AM.d'{a c i: Nat}(h:i<c):(α.kZ n a c).f (n+i)=aa (a+i):=by
 unfold AM.kZ;dsimp only;rw[Nat.ble_eq_true_of_le (bg n i),Nat.blt_eq.mpr (Nat.add_lt_add_left h n),nV];rfl
theorem AM.uk{a c k b: Nat}(h:(α.kZ n a c).f k=aa b):(∃i,i<c/\k=n+i/\b=a+i)∨α.f k=aa b:=by
 unfold AM.kZ at h;dsimp only at h;cases q:dM n k&&cf k (n+c)with
 |true =>
  rw[q]at h;cases h;rw[aV]at q;have q1:=bw q.1;have q2:=Nat.blt_eq.mp q.2;exact .inl ⟨k-n,Nat.sub_lt_left_of_lt_add q1 q2,(Nat.add_sub_cancel' q1).symm,U⟩
 |false=>rw[q]at h;exact .inr h
theorem AM.M8{a c: Nat}(h:∀k,n<=k->α.f k=none)(k b:Nat)(e:α.f k=aa b):(α.kZ n a c).f k=aa b:=by
 unfold AM.kZ;dsimp only;cases q:dM n k with
 |true=>rw[h k (bw q)]at e;cases e
 |false=>exact e
noncomputable def St.n6:List AO->St->St
 |[],σ=>σ
 |o::os,σ=>St.n6 os (σ.push o)
theorem Lf:∀(os:List AO)(σ:St),(σ.n6 os).n=σ.n+os.length:=by
 intro os
 induction os with
 |nil=>intro σ;rfl
 |cons o os ih=>intro σ;exact(ih _).trans (by show σ.n+1+_=σ.n+(os.length+1);lia)
theorem m6:∀(os:List AO) {σ:St}{k:Nat}{ao:AO},(σ.n6 os).get k=aa ao->(∃i,i<os.length/\k=σ.n+i/\os[i]?=aa ao)∨(k<σ.n∨σ.n+os.length<=k)/\σ.get k=aa ao:=by
 intro os
 induction os with
 |nil=>intro σ k ao h;exact .inr ⟨kh _ _,h⟩
 |cons o os ih =>
  intro σ k ao h;rcases ih h with⟨i,l,e,q⟩|⟨l,q⟩
  ·exact .inl ⟨i+1,Nat.succ_lt_succ l,by rw[e];show σ.n+1+i=_;lia,q⟩
  ·rw[show(σ.push o).get k=match br k σ.n with|true=>aa o|false=>dh σ.objs k from U]at q
   cases z:br k σ.n with
   |true=>rw[z]at q;exact .inl ⟨0,j_ _,a9 z,q⟩
   |false =>
    rw[z]at q;have n:k≠σ.n:=λh=>by rw[h,cD]at z;cases z
    have l:k<σ.n+1∨σ.n+1+os.length<=k:=l;exact .inr ⟨by rw[cL];lia,q⟩
theorem GS.vy{α s a h'}{os: List AO}(g:GS G α σ s)(same:∀b o,s.heap.get? b=aa o->h'.get? b=aa o)(ha:∀i,i<os.length->s.heap.get? (a+i)=none)
  (x:Le α s.heap (α.kZ σ.n a os.length) h'->∀i ao,os[i]?=aa ao->OI G (α.kZ σ.n a os.length) h' (a+i) ao) (tk:Nat):
  Le α s.heap (α.kZ σ.n a os.length) h'/\GS G (α.kZ σ.n a os.length) (σ.n6 os) {s with heap:=h',toks:=tk}:=by
 have le:Le α s.heap (α.kZ σ.n a os.length) h':=⟨λk zz=>AM.M8 g.new k,λb e=>e.elim (λ⟨i,l,q⟩=>.inr (q▸ha i l)) .inl,U,λb o zz=>same b o⟩;have Ot:∀{b i:Nat},α.O b->i<os.length->b=a+i->False:=λh l q=>by obtain⟨o,e⟩:=g.lt _ h;rw[q,ha _ l]at e;cases e
 have old:∀{k b ao},(k<σ.n∨σ.n+os.length<=k)->(α.kZ σ.n a os.length).f k=aa b->σ.get k=aa ao->α.f k=aa b/\α.O b:=λn h e=>by
  rcases AM.uk h with⟨i,l,q,_⟩|q
  ·exact absurd n (by lia)
  ·exact⟨q,g.ow _ _ _ e q⟩
 have new:∀{k b i},i<os.length->k=σ.n+i->(α.kZ σ.n a os.length).f k=aa b->b=a+i:=λl q h=>by rw[q,AM.d' l]at h;exact(bR h).symm
 refine⟨le,⟨λj o ej=>?_,λj o b ej hb=>?_,λb o eb=>⟨le.off (g.base b o eb).1 (g.base b o eb).2,same _ _ (g.base b o eb).2⟩,λi j o1 o2 b e1 e2 h1 h2=>?_,λk hk=>?_,λb e=>?_,λb e=>?_,g.os,g.bare⟩⟩
 ·rcases m6 os ej with⟨i,l,rfl,q⟩|⟨_,q⟩
  ·exact⟨a+i,AM.d' l,x le i o q⟩
  ·refine aR (g.own j o q) λb hb r=>?_
   exact⟨b,le.le _ aE _ hb,r.mono le (same b)⟩
 ·rcases m6 os ej with⟨i,l,q,_⟩|⟨n,q⟩
  ·exact .inl ⟨i,l,new l q hb⟩
  ·exact .inr (old n hb q).2
 ·rcases m6 os e1 with⟨u,l1,q1,_⟩|⟨n1,q1⟩
  ·rcases m6 os e2 with⟨v,l2,q2,_⟩|⟨n2,q2⟩
   ·rw[q1,q2,Nat.add_left_cancel ((new l1 q1 h1).symm.trans (new l2 q2 h2))]
   ·exact(Ot (old n2 h2 q2).2 l1 (new l1 q1 h1)).elim
  ·rcases m6 os e2 with⟨v,l2,q2,_⟩|⟨n2,q2⟩
   ·exact(Ot (old n1 h1 q1).2 l2 (new l2 q2 h2)).elim
   ·exact g.inj _ _ _ _ _ q1 q2 (old n1 h1 q1).1 (old n2 h2 q2).1
 ·rw[Lf]at hk
  cases q:(α.kZ σ.n a os.length).f k with
  |none=>rfl
  |some b =>
   rcases AM.uk q with⟨u,hu,e1,_⟩|q
   ·exact absurd hk (by rw[e1];lia)
   ·rw[g.new k (au (bg _ _) hk)]at q;cases q
 ·rcases e with⟨u,hu,q⟩|q
  ·obtain⟨ao,hao⟩:∃ao,os[u]?=aa ao:=⟨os[u],aP hu⟩
   exact q▸(x le u ao hao).live
  ·obtain⟨o,ho⟩:=g.lt _ q;exact⟨o,same _ _ ho⟩
 ·obtain⟨o,ho,f⟩:=g.qf b e;exact⟨o,same _ _ ho,le.off f ho⟩
def SK(G:Gv)(f:List aq->List aq->Sem aq)(cs ks:List CV)(σ:St)(c:CV)(σ':St):Prop:=∀α s vs ws E,GS G α σ s->di α s.heap cs vs->di α s.heap ks ws->aH G.M G.A (f vs ws) (W VR G α s.heap c σ') E s
def rU(G:Gv)(C:AM->Prop)(f:List aq->List aq->Sem aq)(cs ks:List CV)(σ:St)(c:CV)(σ':St):Prop:=∀α s vs ws E,C α->GS G α σ s->di α s.heap cs vs->di α s.heap ks ws->aH G.M G.A (f vs ws) (W VR G α s.heap c σ') E s
theorem SK.sU{g:List aq->Sem aq}(h:SK G (λvs zz=>g vs) cs [] σ c σ1):bM G g cs σ c σ1:=λα s vs E gs r=>h α s vs [] E gs r U
theorem c_{f: aq}{pos: Pos}{args: List Expr}{env: Env}{M:gw}{A:bZ}{E:aq->aA->Prop}{s: aA}{Q:Args->aA->Prop}(hp:args.all qU=af)
  (h:aH M A (spliced (j8 pos (eA args env))) (λvs s'=>Q ⟨vs,[]⟩ s') E s):aH M A (evalArgs f af (j8 pos (eA args env)) []) Q E s:=by
 cases args with
 |nil =>
  unfold evalArgs;show aH M A (spliced [] >>= _) Q E s;refine ae (wQ h λvs s' h'=>aQ ?_);exact ae (av (ae (av (av h'))))
 |cons e es =>
  rw[gZ,aV]at hp;rw[kr hp.1]at h ⊢;exact Calls.evalArgs_plain h
theorem plain_any{pos: Pos}{args: List Expr}:args.all qU=af->(j8 pos (eA args env)).any (·.1)=false:=by
 induction args with
 |nil=>exact λzz=>U
 |cons e es ih =>
  intro hp;rw[gZ,aV]at hp;rw[kr hp.1];exact ih hp.2
variable{x:Str}{p pos:Pos}{args:List Expr}
theorem a8.mn{id}(hf:a8 G e (.Name x p) σ (.val (.builtin id)) σ1)(h:jK G e pos args σ1 cs σ2)(k:bM G (λvs=>call (.builtin id) vs) cs σ2 c σ3):a8 G e (.Call (.Name x p) args [] pos) σ c σ3:=by
 intro α s env E i g;refine ae (J9 (hf α s env E i g) λβ s1 l1 g1=>?_);refine dW (plain_any h.1) (c_ h.1 (iI (h.2 β s1 env E (i.mono l1) g1) λγ vs s2 l2 g2 r2=>?_));exact wQ (k γ s2 vs E g2 r2) λzz zz w=>w.trans (l1.trans l2)
theorem a8.jS{id}(hf:a8 G e (.Name x p) σ (.val (.type id)) σ1)(h:jK G e pos args σ1 cs σ2)(k:bM G (λvs=>call (.type id) vs) cs σ2 c σ3):a8 G e (.Call (.Name x p) args [] pos) σ c σ3:=by
 intro α s env E i g;refine ae (J9 (hf α s env E i g) λβ s1 l1 g1=>?_);refine PyProof.Rows.callWith_type (plain_any h.1) (c_ h.1 (iI (h.2 β s1 env E (i.mono l1) g1) λγ vs s2 l2 g2 r2=>?_));exact wQ (k γ s2 vs E g2 r2) λzz zz w=>w.trans (l1.trans l2)
def eZ(G:Gv)(a:Nat)(fd:cO):Prop:=∃o,G.h₀.get? a=aa o/\o.data=.func fd
theorem a8.i_{a fd}(D:eZ G a fd)(hf:a8 G e (.Name x p) σ (.val (.ref a)) σ1)(h:jK G e pos args σ1 cs σ2)(k:bM G (λvs=>call (.ref a) vs) cs σ2 c σ3):a8 G e (.Call (.Name x p) args [] pos) σ c σ3:=by
 refine aR (D) λo ho hd=>?_;intro α s env E i g;refine ae (J9 (hf α s env E i g) λβ s1 l1 g1=>?_);refine nI (o:=o) (fd:=fd) (c_ h.1 (iI (h.2 β s1 env E (i.mono l1) g1) λγ vs s2 l2 g2 r2=>?_));exact⟨⟨(g2.base _ _ ho).2,hd⟩,wQ (k γ s2 vs E g2 r2) λzz zz w=>w.trans (l1.trans l2)⟩
def SF(G:Gv)(n:Nat)(cs:List CV)(σ:St)(c:CV)(σ':St):Prop:=∀α s a vs E,GS G α σ s->α.f n=aa a->di α s.heap cs vs->aH G.M G.A (call (.ref a) vs) (W VR G α s.heap c σ') E s
theorem PB{γ:Type}{M:gw}{A:bZ}{E:aq->aA->Prop}{c: Prop}[Decidable c]{x y:Sem γ}{Q:γ->aA->Prop}(h1:aH M A x Q E s)(h2:aH M A y Q E s):aH M A (if c then x else y) Q E s:=by
 by_cases h:c
 ·exact(if_pos h).symm▸h1
 ·exact(if_neg h).symm▸h2
theorem zD{M:gw}{A:bZ}{E:aq->aA->Prop}{s: aA}{pos: Pos}{a: Addr}{first: List aq}{args: List (Bool×Sem aq)}{Q:aq->aA->Prop}(hs:args.any (·.1)=false)
  (h:aH M A (evalArgs (.ref a) af args []) (λx cZ=>(∃o fd,cZ.heap.get? a=aa o/\o.data=.func fd)/\aH M A (call (.ref a) (first++x.pos) x.kw) Q E cZ) E s):aH M A (callWith pos (.ref a) first args []) Q E s:=by
 unfold callWith;refine ae (aQ (wQ h λx cZ rZ=>ae (de ?_)));refine dH λlg eS=>?_;obtain⟨⟨o,fd,ho,hd⟩,rZ⟩:=rZ;refine eS ?_;have tail:∀{t:Sem aq},aH M A t Q E cZ->aH M A (t >>= λr=>h_ [r] point >>= λzz=>pure r) Q E cZ:=
  λht=>ae (wQ ht λr ie hr=>ae (aQ (wpAny_point (av hr))))
 rw[hs];refine ae (m:=keeperOf (.ref a)) ?_;unfold keeperOf;refine ae (wpAny_load ho ?_);rw[hd];exact av (PB (tail rZ) (tail (Calls.wpAny_keep rZ)))
theorem a8.zE{n fa}(hf:a8 G e (.Name x p) σ (.ref n) σ1)(h:jK G e pos args σ1 cs σ2)(hn:σ2.get n=aa (.fn fa))(k:SF G n cs σ2 c σ3):a8 G e (.Call (.Name x p) args [] pos) σ c σ3:=by
 intro α s env E i g;refine ae (Nj (hf α s env E i g) λβ a s1 l1 g1 ha=>?_);refine zD (plain_any h.1) (c_ h.1 (iI (h.2 β s1 env E (i.mono l1) g1) λγ vs s2 l2 g2 r2=>?_));have ha:=l2.le _ aE _ ha;refine⟨?_,wQ (k γ s2 a vs E g2 ha r2) λzz zz w=>w.trans (l1.trans l2)⟩;refine dH λlg eS=>?_;obtain⟨b,hb,o,cl,pm,cv,xx,ho,hd,_⟩:=g2.own _ _ hn;cases hb.symm.trans ha;refine eS ?_;exact Aa o _ ⟨ho,hd⟩
def l5(G:Gv)(e:Env)(pos:Pos)(qp:List Keyword)(names:List Str)(σ:St)(ks:List CV)(σ':St):Prop:=
 (∀env,(backToKw pos (keywordEach qp env)).all (·.1.isSome)=af/\(backToKw pos (keywordEach qp env)).filterMap (·.1)=names) /\
 ∀α s env E,EI α e env->GS G α σ s->aH G.M G.A (evalAll ((backToKw pos (keywordEach qp env)).map (·.2))) (W di G α s.heap ks σ') E s
theorem l5.nil:l5 G e pos [] [] σ [] σ:=⟨λzz=>⟨U,U⟩,λzz zz zz zz zz g=>wpAny_evalAll_nil (g.here U)⟩
theorem l5.cons{n y q qp names}(h:a8 G e y σ c σ1)(k:l5 G e pos qp names σ1 ks σ2):l5 G e pos (⟨aa n,y,q⟩::qp) (n::names) σ (c::ks) σ2:=by
 refine⟨λenv=>⟨(k.1 env).1,congrArg (n::·) (k.1 env).2⟩,λα s env E i g=>?_⟩;refine wpAny_evalAll_cons (x:=do let v ←eval y env;f6 pos;pure v) (ae (iI (h α s env E i g) λβ v s1 x g1 r1=>?_));refine ae (de (av ?_));refine iI (k.2 β s1 env E (i.mono x) g1) λγ vs s2 y g2 r2=>?_;exact⟨γ,x.trans y,g2,v,vs,U,r1.mono y,r2⟩
theorem nF{f: aq}{pos: Pos}{args: List Expr}{env: Env}{qp: List (Option Str×Sem aq)}{M:gw}{A:bZ}{E:aq->aA->Prop}{s: aA}{Q:Args->aA->Prop}(hp:args.all qU=af)
  (hk:qp.all (·.1.isSome)=af)
  (h:aH M A (spliced (j8 pos (eA args env))) (λvs s'=>aH M A (evalAll (qp.map (·.2))) (λks xS=>Q ⟨vs,(qp.filterMap (·.1)).zip ks⟩ xS) E s') E s):
  aH M A (evalArgs f af (j8 pos (eA args env)) qp) Q E s:=by
 have fin:∀vs s',aH M A (evalAll (qp.map (·.2))) (λks xS=>Q ⟨vs,(qp.filterMap (·.1)).zip ks⟩ xS) E s' ->
   aH M A (if(qp.all λx=>x.fst.isSome)=af then(do
     let l ←evalAll (List.map (λx=>x.snd) qp)
     let kw:List (Str×aq):=(List.filterMap (λx=>x.fst) qp).zip l
     let r ←(pure vs:Sem (List aq))
     pure {pos:=r,kw:=kw})else(do
     let d ←mergedKeywords f qp
     let pos ←(pure vs:Sem (List aq))
     let r ←h_ (b9 d::pos) (keywordsIn f d)
     pure {pos:=pos,kw:=r})) Q E s':=by
  intro vs s' h';rw[if_pos hk];exact ae (wQ h' λks xS SY=>ae (av (av SY)))
 cases args with
 |nil =>
  unfold evalArgs;show aH M A (spliced [] >>= _) Q E s;refine ae (wQ h λvs s' h'=>?_);exact ae (av (aQ (fin vs s' h')))
 |cons e es =>
  rw[gZ,aV]at hp;rw[kr hp.1]at h ⊢;unfold evalArgs;show aH M A (spliced ((false,eval e env)::j8 pos (eA es env)) >>= _) Q E s;refine ae (wQ h λvs s' h'=>?_);exact ae (av (aQ (fin vs s' h')))
theorem a8.oM{a fd qp names}(D:eZ G a fd)(hf:a8 G e (.Name x p) σ (.val (.ref a)) σ1)(h:jK G e pos args σ1 cs σ2)(hk:l5 G e pos qp names σ2 ks σ3)(k:SK G (λvs ws=>call (.ref a) vs (names.zip ws)) cs ks σ3 c Ae):
  a8 G e (.Call (.Name x p) args qp pos) σ c Ae:=by
 refine aR (D) λo ho hd=>?_;intro α s env E i g;refine wpAny_Call_Name_kw (J9 (hf α s env E i g) λβ s1 l1 g1=>?_);refine callWith_function_kw (o:=o) (fd:=fd) (nF h.1 (hk.1 env).1 (iI (h.2 β s1 env E (i.mono l1) g1) λγ vs s2 l2 g2 r2=>?_));refine iI (hk.2 γ s2 env E ((i.mono l1).mono l2) g2) λδ ws s3 l3 g3 r3=>?_;rw[(hk.1 env).2];exact⟨⟨(g3.base _ _ ho).2,hd⟩,wQ (k δ s3 vs ws E g3 (r2.mono l3) r3) λzz zz w=>w.trans ((l1.trans l2).trans l3)⟩
noncomputable def deep(G:Gv)(env:Env):Gv:={G with A:=G.A.deeper env}
theorem GS.deep{α s}(g:GS G α σ s)(env:Env):GS (Mine.Internal.deep G env) α σ s:=by
 refine⟨λk ao h=>?_,g.ow,g.base,g.inj,g.new,g.lt,g.qf,g.os,g.bare⟩;refine aR (g.own k ao h) λa ha r=>?_;refine⟨a,ha,?_⟩;cases ao<;>exact r
theorem GS.v7{α s env}(g:GS (Mine.Internal.deep G env) α σ s):GS G α σ s:=by
 refine⟨λk ao h=>?_,g.ow,g.base,g.inj,g.new,g.lt,g.qf,g.os,g.bare⟩;refine aR (g.own k ao h) λa ha r=>?_;refine⟨a,ha,?_⟩;cases ao<;>exact r
end
section
variable{G:Gv}{m:Nat}{e:Env}{σ σ2:St}{a b c d:CV}{f:CF}{cs ks:List CV}{x:Str}
theorem JO(ko:Str->Option NameKind)(y:Str):∀(bs:List (Str×aq)) (m:Str->Option aq),ko y=aa .local->bindL ko bs m y=(bs.reverse.lookup y).or (m y):=by
 intro bs
 induction bs with
 |nil=>intro m h;rfl
 |cons p bs ih =>
  obtain⟨n,v⟩:=p;intro m h;unfold bindL;rw[ih _ h,dX,List.lookup_append];cases q:bs.reverse.lookup y with
  |some w=>rfl
  |none =>
   rw[Option.none_or,Option.none_or];by_cases hn:ko n=aa .local
   ·rw[if_pos hn]
    show(if y=n then aa v else m y)=_;rw[a7];by_cases e:y=n
    ·rw[if_pos e,beq_iff_eq.mpr e];rfl
    ·rw[if_neg e,beq_eq_false_iff_ne.mpr e];rfl
   ·have e:y≠n:=λe=>hn (e▸h)
    rw[if_neg hn,a7,beq_eq_false_iff_ne.mpr e];rfl
theorem JP(ko:Str->Option NameKind)(y:Str):∀(bs:List (Str×aq)) (m:Str->Option aq),ko y≠aa .local->bindC ko bs m y=(bs.reverse.lookup y).or (m y):=by
 intro bs
 induction bs with
 |nil=>intro m h;rfl
 |cons p bs ih =>
  obtain⟨n,v⟩:=p;intro m h;unfold bindC;rw[ih _ h,dX,List.lookup_append];cases q:bs.reverse.lookup y with
  |some w=>rfl
  |none =>
   rw[Option.none_or,Option.none_or];by_cases hn:ko n=aa .local
   ·have e:y≠n:=λe=>h (e▸hn)
    rw[if_pos hn,a7,beq_eq_false_iff_ne.mpr e];rfl
   ·rw[if_neg hn]
    show(if y=n then aa v else m y)=_;rw[a7];by_cases e:y=n
    ·rw[if_pos e,beq_iff_eq.mpr e];rfl
    ·rw[if_neg e,beq_eq_false_iff_ne.mpr e];rfl
theorem di.lookup{α h x}:∀{rb:List (Str×CV)}{rv:List (Str×aq)},rv.map (·.1)=rb.map (·.1)->di α h (rb.map (·.2)) (rv.map (·.2))->(rb.lookup x=none->rv.lookup x=none)/\∀c,rb.lookup x=aa c->∃v,rv.lookup x=aa v/\VR α h c v:=by
 intro rb
 induction rb with
 |nil =>
  intro rv e _;rw[List.map_eq_nil_iff.mp e];exact⟨λzz=>U,λc h=>nomatch h⟩
 |cons p rb ih =>
  obtain⟨n,c⟩:=p;intro rv e r;cases rv with
  |nil=>cases e
  |cons q rv =>
   obtain⟨n',v⟩:=q;rw[cn,cn]at e;refine lA (jY e) λe1 e2=>?_;cases e1;refine f5 (r) λw ws e3 r1 r2=>?_;cases e3;rw[a7,a7];cases x==n with
   |true =>
    refine⟨λh=>(nomatch h),λd h=>⟨v,U,?_⟩⟩;cases h;exact r1
   |false=>exact ih e2 r2
theorem pk{f:Str->Bool}:∀{l:List (Str×CV)},(l.filter λp=>f p.1).lookup x=aa c->f x=af/\l.lookup x=aa c:=by
 intro l
 induction l with
 |nil=>exact λh=>nomatch h
 |cons p l ih =>
  obtain⟨y,d⟩:=p;intro h;cases q:f y with
  |true =>
   rw[List.filter_cons_of_pos (p:=λp:Str×CV=>f p.1) (a:=(y,d)) q,a7]at h;rw[a7];cases z:x==y with
   |true=>rw[z]at h;exact⟨beq_iff_eq.mp z▸q,h⟩
   |false=>rw[z]at h;exact ih h
  |false =>
   rw[List.filter_cons_of_neg (p:=λp:Str×CV=>f p.1) (a:=(y,d)) (by rw[q];exact aN)]at h;refine lA (ih h) λh1 h2=>?_;rw[a7,beq_eq_false_iff_ne.mpr (λe=>by rw[e,q]at h1;cases h1)];exact⟨h1,h2⟩
noncomputable def vd:CF->CV | .ret c=>c|_=>.none
noncomputable def entryE(fd:cO)(cl:List (Str×Nat))(n a:Nat):Env:=newEnv fd.scope n fd.globals (cl.map λp=>(p.1,n+1+p.2)) (fd.qualname++".<locals>.") (aa a) fd.code none fd.builtins
noncomputable def xr(fd:cO)(cl:List (Str×Nat))(rb:List (Str×CV))(σ:St):St:=
 σ.n6 (.frame (rb.filter λp=>fd.scope.names.lookup p.1==aa .local)::cl.reverse.map λp=>.cell (rb.lookup p.1))
structure jf(fd:cO)(body:List Stmt)(cl:List (Str×Nat)):Prop where
 body:fd.body=.stmts body
 clo:fd.closure=[]
 cells:∀L,cellsFrom (L+1) fd.scope.names []=cl.map λp=>(p.1,L+1+p.2)
 ord:cl.reverse.map (·.2)=bc cl.length
 one:(cl.all λp=>cl.lookup p.1==aa p.2&&fd.scope.names.lookup p.1==aa .cell)=af
 co:fd.scope.isCoroutine=false
 gen:fd.scope.isGenerator=false
 kind:fd.scope.kind=.function
theorem tK{g:Nat->Nat}:∀{l:List (Str×Nat)},(l.map λp=>(p.1,g p.2)).lookup x=(l.lookup x).map g:=by
 intro l
 induction l with
 |nil=>rfl
 |cons p l ih =>
  rw[cn,a7,a7,ih];cases x==p.1<;>rfl
theorem jC.entry{α: AM}{n L k: Nat}:∀{cl:List (Str×Nat)},(∀p∈cl,p.2<k)->jC (α.kZ n L (k+1)) (cl.map λp=>(p.1,n+1+p.2)) (cl.map λp=>(p.1,L+1+p.2)):=by
 intro cl
 induction cl with
 |nil=>exact λzz=>U
 |cons p cl ih =>
  intro h;refine Aa (L+1+p.2) _ ⟨U,?_,ih λq hq=>h q (.tail _ hq)⟩;have:=AM.d' (α:=α) (n:=n) (a:=L) (i:=1+p.2) (c:=k+1) (by have:=h p (.head _);lia)
  rwa [←gq,←gq]at this
theorem rg{prog:cY}{w:cW}{A:bZ}{s: aA}{R:Result->aA->Prop}{a: Addr}{o: Obj}{fd: cO}{body: List Stmt}{cl: List (Str×Nat)}{args:Args}{dn: List (Str×aq)}
  (tT:A.depth<bA) (ho:s.heap.get? a=aa o) (Ys:o.data=.func fd) (gV:s.heap.NoLimit) (xg:s.heap.CodeRec fd.code fd.qualname) (K:jf fd body cl) (kM:bW s fd args dn)
  (oA:∀x∈dn,fd.scope.names.lookup x.1=aa .local∨(fd.scope.names.lookup x.1=aa .cell/\(cl.lookup x.1).isSome=af))
  (h:∀cZ,InCallC s s.heap.objs.size (bindL (fd.scope.names.lookup ·) dn λzz=>none) (cl.map λp=>(p.1,s.heap.objs.size+1+p.2)) (bindC (fd.scope.names.lookup ·) dn λzz=>none) cZ ->
   ∀E,aH (ba prog w) (A.deeper (callEnvC fd s.heap.objs.size a)) (jI body (callEnvC fd s.heap.objs.size a)) (λf s'=>R (.ok (.ret (match f with | .ret v=>v|_=>.none))) s') E cZ):
  codeAny (ba prog w) A (.call (.ref a) args) R s:=by
 refine codeAny_call_function tT ho Ys K.co K.gen K.body xg ?_;rw[K.clo];refine kM _ _ _ _ (wpAny_newFunctionEnv_cells K.kind (λx hx=>(oA x hx).imp id λq=>⟨q.1,?_⟩) λenv he s' x=>?_)
 ·rw[K.cells,tK,Option.isSome_map];exact q.2
 ·subst he
  have hC:(callEnvC fd s.heap.objs.size a).cells=cl.map λp=>(p.1,s.heap.objs.size+1+p.2):=K.cells _;rw[show(newEnv fd.scope s.heap.objs.size fd.globals (cellsFrom (s.heap.objs.size+1) fd.scope.names []) (fd.qualname++".<locals>.") (aa a) fd.code none fd.builtins)=callEnvC fd s.heap.objs.size a from U,hC]at x;exact⟨gV.keeps x.toInCall.keep,codeAny_func (h s' x _)⟩
theorem rU.entry{C:AM->Prop}{C2:Env->AM->Prop}{a: Nat}{fd body cl rb}{names: List Str}(room:G.A.depth<bA)(D:eZ G a fd)(gV:G.h₀.NoLimit)(xg:G.h₀.CodeRec fd.code fd.qualname)(K:jf fd body cl)
  (kM:∀α s vs ws,GS G α σ s->di α s.heap cs vs->di α s.heap ks ws->∃dn,bW s fd ⟨vs,names.zip ws⟩ dn/\dn.reverse.map (·.1)=rb.map (·.1)/\di α s.heap (rb.map (·.2)) (dn.reverse.map (·.2)))
  (hk:(rb.all λp=>fd.scope.names.lookup p.1==aa .local || (fd.scope.names.lookup p.1==aa .cell&&(cl.lookup p.1).isSome))=af) (hm:σ.n<=m)
  (hC:∀α β L,C α->(∀k a,α.f k=aa a->β.f k=aa a)->β.f σ.n=aa L->C2 (callEnvC fd L a) β)
  (h:∀env α s E,EI α (entryE fd cl σ.n a) env->GS (deep G env) α (xr fd cl rb σ) s->C2 env α->aH (deep G env).M (deep G env).A (jI body env) (WM m (deep G env) α s.heap f σ2) E s):rU G C (λvs ws=>call (.ref a) vs (names.zip ws)) cs ks σ (vd f) σ2:=by
 refine aR (D) λo ho hd=>?_;intro α s vs ws E SD g rs rk;refine nJ (kM α s vs ws g rs rk) λdn hb he hv=>?_;have kp:=λb o eb=>(g.base b o eb).2;refine gA (rg room (kp _ _ ho) hd (gV.keeps kp) (xg.keeps kp) K hb (λx hx=>?_) λs1 x E'=>?_)
 ·have:x.1∈rb.map (·.1):=he▸List.mem_map.mpr ⟨x,List.mem_reverse.mpr hx,U⟩
  refine aR (List.mem_map.mp this) λy hy e=>?_;have:=List.all_eq_true.mp hk y hy;rw[Bool.or_eq_true,aV,beq_iff_eq,beq_iff_eq]at this;rw[←e];exact this
 ·refine mU (x.done) λh' tk Pk Ye=>?_
  obtain rfl:=Pk;have look:=λy=>di.lookup (x:=y) he hv;have Ws:cl.reverse.length=cl.length:=cJ;have at_:∀i p,cl.reverse[i]?=aa p->p.2=i/\p∈cl:=λi p hp=>by
   have hi:=(List.getElem?_eq_some_iff.mp hp).1;have e2:(cl.reverse.map (·.2))[i]?=aa p.2:=by rw[cM,hp];rfl
   rw[K.ord,iT (by rw[←Ws];exact hi)]at e2;exact⟨(bR e2).symm,List.mem_reverse.mp (List.mem_of_getElem? hp)⟩
  have Zs:∀p∈cl,h'.IsCell (s.heap.objs.size+1+p.2) (dn.reverse.lookup p.1):=λp hp=>by
   have q:=List.all_eq_true.mp K.one p hp;rw[aV,beq_iff_eq,beq_iff_eq]at q;have c:=x.cell p.1 (s.heap.objs.size+1+p.2) (by rw[tK,q.1];rfl);rw[JP _ _ _ _ (by rw[q.2];exact λh=>nomatch h),Option.or_none]at c;exact c
  have len:(AO.frame (rb.filter λp=>fd.scope.names.lookup p.1==aa .local)::cl.reverse.map λp=>AO.cell (rb.lookup p.1)).length=cl.length+1:=by
   rw[cL,aG,Ws]
  have t:=g.vy (h':=h') (a:=s.heap.objs.size) (os:=.frame (rb.filter λp=>fd.scope.names.lookup p.1==aa .local)::cl.reverse.map λp=>.cell (rb.lookup p.1)) Ye (λi hi=>?_) (λle i ao hi=>?_) tk
  ·rw[len]at t
   have le:=t.1;have hn:∀p∈cl,p.2<cl.length:=λp hp=>by
    have:p.2∈cl.reverse.map (·.2):=List.mem_map.mpr ⟨p,List.mem_reverse.mpr hp,U⟩;rw[K.ord]at this;exact List.mem_range.mp this
   have ei:EI (α.kZ σ.n s.heap.objs.size (cl.length+1)) (entryE fd cl σ.n a) (callEnvC fd s.heap.objs.size a):=
    ⟨AM.d' (i:=0) (j_ _),by
     show BW _ (cl.map _) (callEnvC fd s.heap.objs.size a).cells;rw[show(callEnvC fd s.heap.objs.size a).cells=cl.map λp=>(p.1,s.heap.objs.size+1+p.2)from K.cells _];exact(jC.entry hn).sU,U,U,U,U,U⟩
   refine wqM (h (callEnvC fd s.heap.objs.size a) _ _ E' ei (t.2.deep _) (hC α _ _ SD (λk b e=>le.le k aE b e) ei.loc)) λβ v s2 x2 g2 r2=>?_;have wX:Le α s.heap β s2.heap:=rm.trans' le x2 λk b zz e=>x2.le k (aM (by
     cases kh k σ.n with
     |inl q=>exact q
     |inr q=>rw[g.new k q]at e;cases e) hm) b (le.le k aE b e)
   have g3:GS G β σ2 s2:=g2.v7;cases f with
   |next=>obtain rfl:=r2;exact⟨β,wX,g3,U⟩
   |brk=>obtain rfl:=r2;exact⟨β,wX,g3,U⟩
   |cont=>obtain rfl:=r2;exact⟨β,wX,g3,U⟩
   |ret c=>obtain⟨v,rfl,r⟩:=r2;exact⟨β,wX,g3,r⟩
  ·cases e:s.heap.get? (s.heap.objs.size+i)with
   |none=>rfl
   |some o=>exact absurd (bx e) (Nat.not_lt.mpr (bg _ _))
  ·cases i with
   |zero =>
    cases hi;refine⟨_,x.toInCall.ns,λy c hy=>?_⟩;refine lA (pk (f:=λy=>fd.scope.names.lookup y==aa .local) hy) λh1 h2=>?_;refine aR ((look y).2 c h2) λv SH r=>?_;rw[JO _ _ _ _ (beq_iff_eq.mp h1),SH];exact⟨v,U,r.mono le⟩
   |succ i =>
    rw[List.getElem?_cons_succ,cM]at hi;cases hp:cl.reverse[i]? with
    |none=>rw[hp]at hi;cases hi
    |some p =>
     rw[hp]at hi;cases hi;refine lA (at_ i p hp) λq1 q2=>?_;have:=Zs p q2;rw[q1,gq,Nat.add_comm 1 i]at this;exact⟨_,this,(look p.1).1,λd hd=>by obtain⟨v,h1,r⟩:=(look p.1).2 d hd;exact⟨v,h1,r.mono le⟩⟩
theorem SK.entry{a: Nat}{fd body cl rb}{names: List Str}(room:G.A.depth<bA)(D:eZ G a fd)(gV:G.h₀.NoLimit)(xg:G.h₀.CodeRec fd.code fd.qualname)(K:jf fd body cl)
  (kM:∀α s vs ws,GS G α σ s->di α s.heap cs vs->di α s.heap ks ws->∃dn,bW s fd ⟨vs,names.zip ws⟩ dn/\dn.reverse.map (·.1)=rb.map (·.1)/\di α s.heap (rb.map (·.2)) (dn.reverse.map (·.2)))
  (hk:(rb.all λp=>fd.scope.names.lookup p.1==aa .local || (fd.scope.names.lookup p.1==aa .cell&&(cl.lookup p.1).isSome))=af) (hm:σ.n<=m)
  (h:∀env,eY (deep G env) m (entryE fd cl σ.n a) body (xr fd cl rb σ) f σ2):SK G (λvs ws=>call (.ref a) vs (names.zip ws)) cs ks σ (vd f) σ2:=λα s vs ws E =>
 rU.entry (C:=λzz=>True) (C2:=λzz zz=>True) room D gV xg K kM hk hm (λzz zz zz zz zz zz=>aE) (λenv α s E i g zz=>h env α s env E i g) α s vs ws E aE
end
section
variable{G:Gv}{e:Env}{σ σ1 σ2 σ3:St}{a b c d:CV}{f:CF}{cs:List CV}{slice:Expr}{i:Int}
inductive LAt(α:AM)(h:Heap)(k:Nat)(xs:List CV)(v:aq):Prop
 |mk (a:Nat) (vs:List aq) (n:Nat) (ev:v=.ref a) (ha:α.f k=aa a) (eh:h.get? a=aa (fg vs n)) (q:di α h xs vs) (sz:vs.toArray.size=xs.length):LAt α h k xs v
theorem GS.getL{α s k xs}(g:GS G α σ s)(e:σ.get k=aa (.list xs)){v: aq}(r:VR α s.heap (.ref k) v):LAt α s.heap k xs v:=by
 refine aR (r) λa ev ha=>?_;refine dH λlg eS=>?_;obtain⟨b,hb,vs,n,eq,q⟩:=g.own _ _ e;cases hb.symm.trans ha;refine eS ?_;exact⟨a,vs,n,ev,ha,eq,q,q.length⟩
variable{F:List aq->Sem aq}{F2:aq->aq->Sem aq}
theorem Wu{k xs}(e:σ.get k=aa (.list xs))(h:∀α s a vs n E,GS G α σ s->α.f k=aa a->s.heap.get? a=aa (fg vs n)->di α s.heap xs vs->vs.toArray.size=xs.length->aH G.M G.A (F [.ref a]) (W VR G α s.heap c σ1) E s):
  bM G F [.ref k] σ c σ1:=by
 intro α s _ E g pX;refine f5 (pX) λv zz mV r nW=>?_;obtain rfl:=mV;obtain rfl:=nW;obtain⟨a,vs,n,rfl,ha,eh,q,sz⟩:=g.getL e r;exact h α s a vs n E g ha eh q sz
theorem G'{k xs}(e:σ.get k=aa (.list xs))(h:∀α s a vs n E w,GS G α σ s->α.f k=aa a->s.heap.get? a=aa (fg vs n)->di α s.heap xs vs->vs.toArray.size=xs.length->VR α s.heap b w->aH G.M G.A (F [.ref a,w]) (W VR G α s.heap c σ1) E s):
  bM G F [.ref k,b] σ c σ1:=by
 rintro α s _ E g ⟨v,_,rfl,r,w,_,rfl,r2,rfl⟩;obtain⟨a,vs,n,rfl,ha,eh,q,sz⟩:=g.getL e r;exact h α s a vs n E w g ha eh q sz r2
theorem aa3{k xs}(e:σ.get k=aa (.list xs))(h:∀α s a vs n E w u,GS G α σ s->α.f k=aa a->s.heap.get? a=aa (fg vs n)->di α s.heap xs vs->vs.toArray.size=xs.length->VR α s.heap b w->VR α s.heap d u->aH G.M G.A (F [.ref a,w,u]) (W VR G α s.heap c σ1) E s):
  bM G F [.ref k,b,d] σ c σ1:=by
 rintro α s _ E g ⟨v,_,rfl,r,w,_,rfl,r2,u,_,rfl,r3,rfl⟩;obtain⟨a,vs,n,rfl,ha,eh,q,sz⟩:=g.getL e r;exact h α s a vs n E w u g ha eh q sz r2 r3
theorem on2{k xs}(e:σ.get k=aa (.list xs))(h:∀α s a vs n E w,GS G α σ s->α.f k=aa a->s.heap.get? a=aa (fg vs n)->di α s.heap xs vs->vs.toArray.size=xs.length->VR α s.heap b w->aH G.M G.A (F2 (.ref a) w) (W VR G α s.heap c σ1) E s):
  bN G F2 (.ref k) b σ c σ1:=by
 intro α s v w E g r r2;obtain⟨a,vs,n,rfl,ha,eh,q,sz⟩:=g.getL e r;exact h α s a vs n E w g ha eh q sz r2
theorem rK(vs ws:List aq)(n:Nat)(f:Array aq->Array aq)(hf:f vs.toArray=ws.toArray):∃k,cV f (fg vs n)=fg ws k:=by
 unfold cV;exact⟨_,by simp only[fg,hf];rfl⟩
theorem GS.yw{α s k a n xs ys vs ws}{f:Array aq->Array aq}(g:GS G α σ s)(e:σ.get k=aa (.list xs))(ha:α.f k=aa a)(eh:s.heap.get? a=aa (fg vs n))(hf:f vs.toArray=ws.toArray)(r:di α s.heap ys ws)(tk:Nat):
  Le α s.heap α (s.heap.update a (cV f))/\GS G α (σ.set k (.list ys)) {s with heap:=s.heap.update a (cV f),toks:=tk}:=by
 refine iH (rK vs ws n f hf) λj hj=>?_;have sb:=fR s.heap a (cV f);exact g.turn (ao':=.list ys) e ha (λb o hb eo=>(sb.2 b hb).trans eo) (λle=>⟨ws,j,(d_ _ eh (by rw[hj];rfl)).trans (by rw[hj]),r.mono le⟩) tk
theorem AI{value slice: Expr}{T0:String}(ht:∀α s v,GS G α σ s->VR α s.heap a v->s.TypeIs v T0)(hl:∃id,typeLookup (.type T0) "__getitem__"=pure (aa (.builtin id)))
  (hs:∀a b,lV slice false a b=operate [a,b] (getItem a b)) (h:bN G getItem a b σ c σ1):bN G (subscriptTail value slice) a b σ c σ1:=by
 intro α s v w E g r1 r2;obtain⟨id,hl⟩:=hl;exact tail_any (ht α s v g r1) hl (h α s v w E g r1 r2) (hs _ _)
theorem a8.sub{value slice pos}(h1:a8 G e value σ a σ1)(h2:a8 G e slice σ1 b σ2)(h3:bN G (subscriptTail value slice) a b σ2 c σ3):a8 G e (.Subscript value slice pos) σ c σ3:=
 λα s env E i g=>PyProof.Rows.Subscript_ (two h1 h2 h3 i g)
theorem qx{k xs}(e:σ.get k=aa (.list xs))(h0:0<=i)(hx:xs[i.toNat]?=aa c)(hf:xs.length<2^62):bN G getItem (.ref k) (.int i) σ c σ:=by
 refine on2 e λα s a vs n E w g ha eh q sz r2=>?_;obtain⟨t,rfl⟩:=r2;refine aR (q.get hx) λw hw rw_=>?_;have hk:i.toNat<xs.length:=(List.getElem?_eq_some_iff.mp hx).1;exact wpAny_getItem_list (items:=vs.toArray) ⟨_,eh,U,_,U⟩ h0 (by lia) (by rw[bH];exact hw) (g.here rw_)
theorem Ea{k xs}(e:σ.get k=aa (.list xs))(α s v)(g:GS G α σ s)(r:VR α s.heap (.ref k) v):s.TypeIs v "list":=by
 obtain⟨a,vs,n,rfl,_,eh,_⟩:=g.getL e r;exact⟨_,eh,U⟩
theorem cz{value: Expr}{k xs}(e:σ.get k=aa (.list xs))(h0:0<=i)(hx:xs[i.toNat]?=aa c)(hf:xs.length<2^62)(hs:autoParam (∀a b,lV slice false a b=operate [a,b] (getItem a b)) Kh):
  bN G (subscriptTail value slice) (.ref k) (.int i) σ c σ:=AI (Ea e) ⟨_,PySem.slot_list_getitem.lookup⟩ hs (qx e h0 hx hf)
theorem Ec{k xs}(e:σ.get k=aa (.list xs))(hf:xs.length<2^62):bM G (λvs=>call (.builtin "len") vs) [.ref k] σ (.int xs.length) σ:=
 Wu e λα s a vs n E g ha eh q sz=>len_list (items:=vs.toArray) ⟨_,eh,U,_,U⟩ (by rw[sz];lia) (g.fh ⟨_,by rw[sz]⟩)
theorem list_append{k xs}(e:σ.get k=aa (.list xs))(hf:xs.length<=bC):bM G (λvs=>call (.builtin "list.append") vs) [.ref k,c] σ .none (σ.set k (.list (xs++[c]))):=by
 refine G' e λα s a vs n E w g ha eh q sz r2=>?_;refine call_meets iN ⟨_,eh,U⟩ PySem.F.entry_list_append (PySem.F.args_list_append_2 _ _) (PySem.AutoListH.list_append_list_val_0 a vs.toArray n w (by rw[sz];exact hf)) ⟨eh,?_⟩;have t:=g.yw (ws:=vs++[w]) (f:=λx=>x.push w) e ha eh (jW ..) (q.append (.one r2)) s.toks;exact⟨α,t.1,t.2,U⟩
noncomputable def IX(xs:List CV)(k:Int)(c:CV):List CV:=xs.take k.toNat++c::xs.drop k.toNat
theorem Bs(vs:List aq)(v:aq)(k:Int)(h0:0<=k)(h1:k<=vs.length):
  (have j:=if k<0 then(k+((vs.toArray.size:Nat):Int)).toNat else min k.toNat vs.toArray.size;(vs.toArray.extract 0 j).push v++vs.toArray.extract j)=(vs.take k.toNat++v::vs.drop k.toNat).toArray:=by
 have:min k.toNat vs.length=k.toNat:=by lia
 have hk:¬k<0:=by lia
 simp only[hk,if_false,a_,this,List.extract_toArray,jW,List.append_toArray,List.extract_eq_take_drop,jX,Nat.sub_zero];rw[bh,dj (l:=vs.drop _) (by rw[gz];exact aW _)];rfl
theorem yU{n xs}{k: Int}(e:σ.get n=aa (.list xs))(h0:0<=k)(h1:k<=xs.length)(hf:xs.length<=bC)(kL:cG k=af):bM G (λvs=>call (.builtin "list.insert") vs) [.ref n,.int k,c] σ .none (σ.set n (.list (IX xs k c))):=by
 refine aa3 e λα s a vs n E i w g ha eh q sz r2 r3=>?_;obtain⟨t,rfl⟩:=r2;refine call_meets fY ⟨_,eh,U⟩ PySem.F.entry_list_insert (PySem.F.args_list_insert_3 _ _ _) (PySem.AutoSeq1.list_insert_list_int_val_1 a vs.toArray n k _ w (by rw[kL];decide) (by rw[sz];exact hf)) ⟨eh,?_⟩;have t:=g.yw (f:=λxs=>have j:=if k<0 then(k+((xs.size:Nat):Int)).toNat else min k.toNat xs.size;(xs.extract 0 j).push w++xs.extract j) e ha eh (Bs vs w k h0 (by rw[q.length];exact h1)) ((q.take _).append (cs:=xs.take k.toNat) (ds:=c::xs.drop k.toNat) ⟨w,_,U,r3,q.drop _⟩) s.toks;exact⟨α,t.1,t.2,U⟩
theorem a8.rW{o: Expr}{name: Str}{jJ pos: Pos}{args: List Expr}{id:String}{Tn:String}{pl:Env->Sem Bool}(slot:Slot Tn name id)(pa:PlainAttrs Tn)(hty:typeOf (.builtin id)=pure (.type "method_descriptor"))
  (h1:a8 G e o σ a σ1) (ht:∀α s v,GS G α σ1 s->VR α s.heap a v->s.TypeIs v Tn/\∀a,v=.ref a->∃o,s.heap.get? a=aa o/\o.dict=bz) (h2:jK G e pos args σ1 cs σ2) (h3:bM G (λvs=>call (.builtin id) vs) (a::cs) σ2 c σ3)
  (he:autoParam (∀env,eval (.Call (.Attribute o name jJ) args [] pos) env=(do
   let ov ←eval o env
   f6 jJ.atName
   let(f,first) ←h_ [ov] (jh ov name (pl env))
   callWith pos f first (j8 pos (eA args env)) [])) j2):a8 G e (.Call (.Attribute o name jJ) args [] pos) σ c σ3:=by
 intro α s env E i g;refine fw (pl:=pl env) (iI (h1 α s env E i g) λβ v s1 l1 g1 r1=>?_) (he env);have tt:=ht β s1 v g1 r1;refine getMethod_builtin tt.1 pa slot hty tt.2 ?_;refine dW (plain_any h2.1) (c_ h2.1 (iI (h2.2 β s1 env E (i.mono l1) g1) λγ vs s2 l2 g2 r2=>?_));exact wQ (h3 γ s2 (v::vs) E g2 ⟨v,vs,U,r1.mono l2,r2⟩) λzz zz w=>w.trans (l1.trans l2)
theorem gk{k xs}(e:σ.get k=aa (.list xs))(α s v)(g:GS G α σ s)(r:VR α s.heap (.ref k) v):s.TypeIs v "list"/\∀b,v=.ref b->∃o,s.heap.get? b=aa o/\o.dict=none:=by
 obtain⟨a,vs,n,rfl,_,eh,_⟩:=g.getL e r;exact⟨⟨_,eh,U⟩,λb hb=>by cases hb;exact⟨_,eh,U⟩⟩
theorem l_{x: Str}(α s v)(g:GS G α σ s)(r:VR α s.heap (.str x) v):s.TypeIs v "str"/\∀b,v=.ref b->∃o,s.heap.get? b=aa o/\o.dict=none:=by
 obtain⟨t,rfl⟩:=r;exact⟨hU _ _ _,λb hb=>nomatch hb⟩
theorem add_lists{j k xs ys}(e1:σ.get j=aa (.list xs))(e2:σ.get k=aa (.list ys))(hf:xs.length+ys.length<=bC):bN G (eB .Add) (.ref j) (.ref k) σ (.ref σ.n) (σ.push (.list (xs++ys))):=by
 refine on2 e1 λα s a vs n E w g ha eh q sz r2=>?_;obtain⟨b,ws,n',rfl,_,Th,q',ZX⟩:=g.getL e2 r2;refine concat_meets ⟨_,eh,U⟩ ⟨_,Th,U⟩ noFill_list_add seq_list_add PySem.F.slot_list_add PySem.F.entry_list_add (PySem.F.args_list_add_2 _ _) (PySem.AutoSeq1.list___add___list_list_0 a vs.toArray n b ws.toArray n' (by rw[sz,ZX];exact hf)) ⟨eh,Th,?_⟩;rw[List.append_toArray];exact g.list (q.append q') _
theorem Il{b: Bool}{n: Nat}(h:n<=bC):¬(b&&Builtin.List.listTooLong n)=af:=by
 rw[aV];exact λq=>Nat.not_lt.mpr h (of_decide_eq_true q.2)
theorem yV{j k xs ys}(e1:σ.get j=aa (.list xs))(e2:σ.get k=aa (.list ys))(hf:xs.length+ys.length<=2^20):bM G (λvs=>call (.builtin "list.extend") vs) [.ref j,.ref k] σ .none (σ.set j (.list (xs++ys))):=by
 refine G' e1 λα s a vs n E w g ha eh q sz r2=>?_;obtain⟨b,ws,n',rfl,_,Th,q',ZX⟩:=g.getL e2 r2;refine call_meets mM ⟨_,eh,U⟩ PySem.F.entry_list_extend (PySem.F.args_list_extend_2 _ _)
  (PySem.AutoSeq1.list_extend_list_list_0 a vs.toArray n b ws.toArray n' (Il (by rw[sz,ZX];exact au hf ay)) (by rw[sz];exact au (au (bg _ ys.length) hf) ay) (by rw[sz,ZX];exact au hf ay)) ⟨eh,Th,?_⟩
 have t:=g.yw (ws:=vs++ws) (f:=λx=>x++ws.toArray) e1 ha eh (List.append_toArray ..) (q.append q') s.toks;exact⟨α,t.1,t.2,U⟩
end
section
variable{G:Gv}{e:Env}{σ σ1 σ2 σ3 Ae:St}{a b c:CV}{f:CF}{F:List aq->Sem aq}{x y:Str}{hi lo st:Option Int}{i:Int}
theorem sb2{f:aq->aq->Sem aq}{t: Bool}(hf:∀(s:aA)(Q:aq->aA->Prop)(E:aq->aA->Prop)(t' u:Tok),Q (.bool t) s->aH G.M G.A (f (.str x t') (.str y u)) Q E s):bN G f (.str x) (.str y) σ (.bool t) σ:=by
 rintro α s _ _ E g ⟨t,rfl⟩ ⟨u,rfl⟩;exact hf s _ _ _ _ (g.here U)
theorem vi:bN G (bS .Eq) (.str x) (.str y) σ (.bool (x==y)) σ:=sb2 λs Q E t u h=>PyProof.Rows.eq_str h
theorem D0:bN G (bS .NotEq) (.str x) (.str y) σ (.bool (x != y)) σ:=sb2 λs Q E t u h=>PyProof.Rows.ne_str h
theorem D2:bN G (bS .In) (.str x) (.str y) σ (.bool !(iF y x 0 y.length 1).isEmpty) σ:=sb2 λs Q E t u h=>PyProof.Rows.in_str h
theorem A6(hf:x.length+y.length<=bC):bN G (eB .Add) (.str x) (.str y) σ (.str (x++y)) σ:=by
 rintro α s _ _ E g ⟨t,rfl⟩ ⟨u,rfl⟩;exact PyProof.Rows.add_str (λt' tk=>g.fh ⟨_,U⟩) hf
theorem yI(hf:x.length+y.length<=bC):bN G (inplaceOp .Add) (.str x) (.str y) σ (.str (x++y)) σ:=by
 rintro α s _ _ E g ⟨t,rfl⟩ ⟨u,rfl⟩;exact PyProof.Rows.iadd_str (λt' tk=>g.fh ⟨_,U⟩) hf
theorem Wt(h:∀α s t E,GS G α σ s->aH G.M G.A (F [.str x t]) (W VR G α s.heap c σ1) E s):bM G F [.str x] σ c σ1:=by
 intro α s _ E g nY;refine f5 (nY) λzz zz sM x' Fw=>?_;obtain rfl:=sM;obtain⟨t,rfl⟩:=x';obtain rfl:=Fw;exact h α s t E g
theorem onI(h:∀α s t E,GS G α σ s->aH G.M G.A (F [.int i t]) (W VR G α s.heap c σ1) E s):bM G F [.int i] σ c σ1:=by
 intro α s _ E g nY;refine f5 (nY) λzz zz sM x' Fw=>?_;obtain rfl:=sM;obtain⟨t,rfl⟩:=x';obtain rfl:=Fw;exact h α s t E g
theorem QT{j: Int}(h:∀α s t u E,GS G α σ s->aH G.M G.A (F [.int i t,.int j u]) (W VR G α s.heap c σ1) E s):bM G F [.int i,.int j] σ c σ1:=by
 rintro α s _ E g ⟨_,_,rfl,⟨t,rfl⟩,_,_,rfl,⟨u,rfl⟩,rfl⟩;exact h α s t u E g
theorem QS(h:∀α s t w E,GS G α σ s->VR α s.heap b w->aH G.M G.A (F [.str x t,w]) (W VR G α s.heap c σ1) E s):bM G F [.str x,b] σ c σ1:=by
 rintro α s _ E g ⟨_,_,rfl,⟨t,rfl⟩,w,_,rfl,r,rfl⟩;exact h α s t w E g r
theorem IC(hf:x.length<2^60):bM G (λvs=>call (.builtin "len") vs) [.str x] σ (.int x.length) σ:=Wt λα s t E g=>PyProof.Rows.len_str (by lia) (g.fh ⟨_,U⟩)
theorem QP(h1:x.length=1):bM G (λvs=>call (.builtin "ord") vs) [.str x] σ (.int (x.cps.getD 0 0:Nat)) σ:=Wt λα s t E g=>ord_of_one h1 (g.fh ⟨_,U⟩)
theorem ab9(h0:0<=i)(h1:i<=1114111):bM G (λvs=>call (.builtin "chr") vs) [.int i] σ (.str ⟨#[i.toNat]⟩) σ:=onI λα s t E g=>chr_of_range h0 h1 (g.fh ⟨_,U⟩)
theorem KU{α: AM}{h: Heap}:∀{xs:List Str}{vs:List aq},di α h (xs.map CV.str) vs->∃l:List (Str×Tok),vs=strValues l/\l.map (·.1)=xs:=by
 intro xs
 induction xs with
 |nil=>intro vs r;exact⟨[],r,U⟩
 |cons x xs ih =>
  intro _ Fy;refine f5 (Fy) λv ws pW U1 r=>?_;obtain rfl:=pW;obtain⟨t,rfl⟩:=U1;refine aR (ih r) λl UZ UY=>?_;obtain rfl:=UZ;obtain rfl:=UY;exact⟨(x,t)::l,U,U⟩
noncomputable def N3(sep:Str):List Str->Str
 |[x]=>x
 |l=>Builtin.Str.glued sep l
theorem join_list{k}{sep: Str}{xs: List Str}(e:σ.get k=aa (.list (xs.map .str)))(hl:eG (xs.toArray.foldl (·+·.length+sep.length) 0)=false)(hf:(Builtin.Str.glued sep xs).length<=bC):
  bM G (λvs=>call (.builtin "str.join") vs) [.str sep,.ref k] σ (.str (N3 sep xs)) σ:=by
 refine QS λα s t w E g r=>?_;obtain⟨a,vs,n,rfl,ha,eh,q,sz⟩:=g.getL e r;refine aR (KU q) λl sL kD=>?_;obtain rfl:=sL;obtain rfl:=kD;refine call_meets fu (hU _ _ _) PySem.F.entry_str_join (PySem.F.args_str_join_2 _ _) (meets_str_join_list sep _ a l hl) ⟨⟨_,eh,U,_,U⟩,?_⟩;cases l with
 |nil=>exact⟨hf,g.fh ⟨_,U⟩⟩
 |cons q0 l =>
  cases l with
  |nil=>exact g.here ⟨_,U⟩
  |cons q1 l=>exact⟨hf,g.fh ⟨_,U⟩⟩
theorem Gg(α s v)(g:GS G α σ s)(r:VR α s.heap (.str x) v):s.TypeIs v "str":=by obtain⟨t,rfl⟩:=r;exact hU _ _ _
theorem wh{i n: Nat}(h:i<n):lE (i:Int) n=aa i:=by
 unfold lE;have h0:¬((i:Int)<0):=by lia
 simp only[h0,if_false];rw[if_pos (by simp;lia)];rfl
theorem k_{value slice: Expr}{k: Nat}(h0:0<=i)(hx:x.cps[i.toNat]?=aa k)(hf:x.length<2^60)(hs:autoParam (∀a b,lV slice false a b=operate [a,b] (getItem a b)) Kh):
  bN G (subscriptTail value slice) (.str x) (.int i) σ (.str ⟨#[k]⟩) σ:=by
 refine AI Gg ⟨_,PyProof.Rows.slot_str_getitem.lookup⟩ hs ?_;rintro α s _ _ E g ⟨t,rfl⟩ ⟨u,rfl⟩;obtain⟨j,rfl⟩:=eQ h0;have hi:j<x.length:=(Array.getElem?_eq_some_iff.mp hx).1;refine PyProof.Rows.getItem_str ?_ (c:=k) ?_ (g.fh ⟨_,U⟩)
 ·simp;lia
 ·rw[show lE ((j:Nat):Int) x.length=aa j from wh hi];exact hx
def RP(_:AM)(_:Heap)(i:Option Int)(v:aq):Prop:=IsPart v i
def SP(G:Gv)(e:Env)(x:Option Expr)(σ:St)(i:Option Int)(σ':St):Prop:=∀α s env E,EI α e env->GS G α σ s->aH G.M G.A (evalPart x env) (W RP G α s.heap i σ') E s
theorem SP.no:SP G e bz σ bz σ:=λzz zz zz zz zz g=>av (g.here .none)
theorem SP.at{x i}(h:a8 G e x σ (.int i) σ1):SP G e (aa x) σ (aa i) σ1:=by
 intro α s env E ei g;refine wQ (h α s env E ei g) ?_;rintro _ s1 ⟨β,l,g1,t,rfl⟩;exact⟨β,l,g1,.int _ _⟩
def cR(G:Gv)(a:CV)(lo hi st:Option Int)(σ:St)(c:CV)(σ':St):Prop:=∀α s v sl E vl vu vk,GS G α σ s->VR α s.heap a v->s.heap.IsSliceOf sl vl vu vk->IsPart vl lo->IsPart vu hi->IsPart vk st ->
 (∃T id,s.TypeIs v T/\typeLookup (.type T) "__getitem__"=pure (aa (.builtin id)))/\aH G.M G.A (getItem v (.ref sl)) (W VR G α s.heap c σ') E s
theorem a8.slice{value lower upper step p pos}{Ux: St}(h1:a8 G e value σ a σ1)(h2:SP G e lower σ1 lo σ2)(h3:SP G e upper σ2 hi σ3)(h4:SP G e step σ3 st Ae)(h5:cR G a lo hi st Ae c Ux):
  a8 G e (.Subscript value (.Slice lower upper step p) pos) σ c Ux:=by
 intro α s env E i g;refine Subscript_ (iI (h1 α s env E i g) λβ v s1 l1 g1 r1=>?_);refine wpAny_Slice (iI (h2 β s1 env E (i.mono l1) g1) λγ vl s2 l2 g2 p2=>?_);refine iI (h3 γ s2 env E ((i.mono l1).mono l2) g2) λδ vu s3 l3 g3 p3=>?_;refine iI (h4 δ s3 env E (((i.mono l1).mono l2).mono l3) g3) λε vk s4 l4 g4 p4=>?_;have t:=g4.same (h':=s4.heap.push {cls:=.type "slice",data:=.fields #[vl,vu,vk]}) (λb o e=>aC _ e) s4.toks;have k:=h5 ε {s4 with heap:=s4.heap.push {cls:=.type "slice",data:=.fields #[vl,vu,vk]}} v s4.heap.objs.size E vl vu vk t.2 ((((r1.mono l2).mono l3).mono l4).mono t.1) (Heap.IsSliceOf.new ..) p2 p3 p4;obtain⟨⟨T,id,hT,hl⟩,k⟩:=k;have hs:∃ops,lV (.Slice lower upper step p) false v (.ref s4.heap.objs.size)=operate ops (getItem v (.ref s4.heap.objs.size)):=by cases step<;>exact⟨_,U⟩
 obtain⟨ops,hs⟩:=hs;exact tail_any hT hl (wQ k λzz zz w=>w.trans ((((l1.trans l2).trans l3).trans l4).trans t.1)) hs
noncomputable def n8(xs:List CV)(lo hi st:Option Int):List CV:=
 (sliceRange (lW lo hi st xs.length).1 (lW lo hi st xs.length).2.1 (lW lo hi st xs.length).2.2).filterMap (xs[·]?)
theorem di.pick{α h xs vs}(q:di α h xs vs):∀is:List Nat,di α h (is.filterMap (xs[·]?)) (is.filterMap (vs[·]?)):=by
 intro is
 induction is with
 |nil=>rfl
 |cons i is ih =>
  cases e:xs[i]? with
  |none =>
   have e2:vs[i]?=none:=by rw[iO]at e ⊢;rw[q.length];exact e
   rw[je e,je e2];exact ih
  |some c =>
   refine aR (q.get e) λv hv r=>?_;rw[jd e,jd hv];exact Aa v _ ⟨U,r,ih⟩
theorem j5(vs:List aq)(lo hi st):slicePick vs.toArray lo hi st=((sliceRange (lW lo hi st vs.length).1 (lW lo hi st vs.length).2.1 (lW lo hi st vs.length).2.2).filterMap (vs[·]?)).toArray:=by
 simp[slicePick]
theorem slice_list{k xs}(e:σ.get k=aa (.list xs))(h0:st≠aa 0)(hf:xs.length<=bC):cR G (.ref k) lo hi st σ (.ref σ.n) (σ.push (.list (n8 xs lo hi st))):=by
 intro α s v sl E vl vu vk g r hs p1 p2 p3;obtain⟨a,vs,n,rfl,ha,eh,q,sz⟩:=g.getL e r;have hl:s.heap.IsList a vs.toArray:=⟨_,eh,U,_,U⟩;refine⟨⟨_,_,hl.typeIs,list_getitem_lookup⟩,wpAny_getItem_list_slice hl hs p1 p2 p3 h0 ?_ (by rw[sz];exact hf)⟩;rw[j5,q.length];exact g.list (q.pick _) s.toks
end
section
variable{G:Gv}{m:Nat}{e:Env}{σ σ1:St}{a b:CV}{f:CF}{cs:List CV}{F:List aq->Sem aq}{x:Str}{n:Nat}{i j l:Int}{v:aq}
theorem a8.tuple{xs k pos}(h:jK G e pos xs σ cs σ1)(hf:dM cs.length bC=af):a8 G e (.Tuple xs k pos) σ (.tup cs) σ1:=by
 intro α s env E i g;refine Tuple_ (iI (h.2 α s env E i g) λβ vs s1 x g1 r1=>?_);exact wpAny_newTuple ((g1.tup r1 s1.toks).trans x) (by rw[r1.length];exact bw hf)
inductive TAt(α:AM)(h:Heap)(cs:List CV)(v:aq):Prop
 |mk (a:Nat) (vs:List aq) (ev:v=.ref a) (ht:IsTup h a vs.toArray) (q:di α h cs vs):TAt α h cs v
theorem F3{α h cs}(r:VR α h (.tup cs) v):TAt α h cs v:=by
 refine B3 (r) λa vs n ev zz zz eh q=>?_;exact⟨a,vs,ev,⟨_,eh,U,_,U⟩,q⟩
theorem GS.tH{α s ao o}(g:GS G α σ s)(x:Le α s.heap (α.add σ.n s.heap.objs.size) (s.heap.push o)->OI G (α.add σ.n s.heap.objs.size) (s.heap.push o) s.heap.objs.size ao)(tk:Nat):
  W VR G α s.heap (.ref σ.n) (σ.push ao) (.ref s.heap.objs.size) {s with heap:=s.heap.push o,toks:=tk}:=
 ⟨_,(g.push x tk).1,(g.push x tk).2,_,U,AM.fQ _ _ _⟩
theorem qT{n: Int}:bM G (λvs=>call (.type "range") vs) [.int n] σ (.ref σ.n) (σ.push (.n5 0 n 1)):=
 onI λα s t E g=>call_range_1 (g.tH (ao:=.n5 0 n 1) (λzz=>⟨_,_,_,aJ _ U⟩) _)
theorem QC:bM G (λvs=>call (.type "range") vs) [.int i,.int j] σ (.ref σ.n) (σ.push (.n5 i j 1)):=
 QT λα s t u E g=>call_range_2 (g.tH (ao:=.n5 i j 1) (λzz=>⟨_,_,_,aJ _ U⟩) _)
theorem GS.S1{α s k}(g:GS G α σ s)(e:σ.get k=aa (.n5 i j l))(r:VR α s.heap (.ref k) v):∃a t u w,v=.ref a/\α.f k=aa a/\s.heap.get? a=aa (GN i j l t u w):=by
 refine aR (r) λa ev ha=>?_;refine dH λlg eS=>?_;obtain⟨b,hb,t,u,w,eh⟩:=g.own _ _ e;cases hb.symm.trans ha;refine eS ?_;exact xi4 a t u w ⟨ev,ha,eh⟩
theorem GS.fresh{α s h' ao}(g:GS G α σ s)(same:∀b o,s.heap.get? b=aa o->h'.get? b=aa o)
  (x:Le α s.heap (α.add σ.n s.heap.objs.size) h'->OI G (α.add σ.n s.heap.objs.size) h' s.heap.objs.size ao) (tk:Nat):W VR G α s.heap (.ref σ.n) (σ.push ao) (.ref s.heap.objs.size) {s with heap:=h',toks:=tk}:=
 ⟨_,(g.more same (ez _) x tk).1,(g.more same (ez _) x tk).2,_,U,AM.fQ _ _ _⟩
noncomputable def lH(a st:Int)(n:Nat):List CV:=(bc n).map λi=>.int (a+(i:Nat)*st)
theorem FO{α: AM}{h: Heap}{a st: Int}:∀(l:List aq)(k:Nat),(∀i v,l[i]?=aa v->∃t,v=Value.int (a+((k+i:Nat):Int)*st) t)->di α h ((List.range' k l.length).map λi=>CV.int (a+(i:Nat)*st)) l:=by
 intro l
 induction l with
 |nil=>intro k _;rfl
 |cons x l ih =>
  intro k hk;rw[cL,List.range'_succ,cn];refine Aa x l ⟨U,hk 0 x U,ih (k+1) λi v hv=>?_⟩;have:=hk (i+1) v hv
  rwa [←gq,Nat.add_right_comm]at this
theorem uJ{k}(hh:G.A.handled=bz)(e:σ.get k=aa (.n5 i j l))(hs:dF i j l=af)(hn:cX i j l=n)(dw:n<=2^24):
  bM G (λvs=>call (.type "list") vs) [.ref k] σ (.ref σ.n) (σ.push (.list (lH i l n))):=by
 intro α s _ E g pX;refine f5 (pX) λv zz mV r nW=>?_;obtain rfl:=mV;obtain rfl:=nW;refine Fm (g.S1 e r) λa t u w U4 ha eh=>?_;obtain rfl:=U4;refine call_list_range hh eh hs hn dw λh' tk acc c' hk he hI=>?_;refine lA (hI) λhsz hit=>?_;refine g.fresh (ao:=.list (lH i l n)) hk (λle=>⟨acc.toList,c',he,?_⟩) tk;have:=FO (α:=α.add σ.n s.heap.objs.size) (h:=h') (a:=i) (st:=l) acc.toList 0 (λi v hv=>by rw[gW];exact hit i v (by rw[←kB];exact hv))
 rwa [du,hsz,←List.range_eq_range']at this
theorem qo{k xs}(e:σ.get k=aa (.list xs))(hf:xs.length<=bC):bM G (λvs=>call (.type "list") vs) [.ref k] σ (.ref σ.n) (σ.push (.list xs)):=
 Wu e λα s a vs n E g ha eh q sz=>call_list_seq (hsz:=by rw[sz];exact hf) a (.inl U) eh U U λh' c' hk hD=>g.fresh (ao:=.list xs) hk (λle=>⟨vs,c',hD,q.mono le⟩) s.toks
theorem di.rep{α h vs}(r:di α h cs vs):∀k:Nat,di α h (aw k cs).flatten (aw k vs).flatten:=by
 intro k
 induction k with
 |zero=>rfl
 |succ k ih=>rw[iR,iR,f_,f_];exact r.append ih
theorem fG{xs}{k: Nat}(e:σ.get n=aa (.list xs))(su:xs.isEmpty=false)(hsz:xs.length*k<=2^20)(hx0:0<=i)(hk:i<2^20)(hx:i.toNat=k):bN G (eB .Mult) (.ref n) (.int i) σ (.ref σ.n) (σ.push (.list (aw k xs).flatten)):=by
 refine on2 e λα s a vs n E w g ha eh q sz r2=>?_;obtain⟨t,rfl⟩:=r2;have hvn:vs.toArray.isEmpty=false:=by
  have:vs.length=xs.length:=q.length;cases vs with
  |nil=>cases xs with
   |nil=>cases su
   |cons _ _=>cases this
  |cons _ _=>rfl
 have fit:∀m:Int,m<2^20->cG i=af:=λzz zz=>by simp[cG];lia
 refine wpAny_binaryOp_repeat_ref (T:="list") (U:="int") ay ⟨_,eh,U⟩ (λs'=>typeIs_int s' i t) noFill_list_mul PySem.F.fills_int_mul PySem.F.slot_int_rmul repeat_list PySem.F.slot_int_index.lookup
  (call_meets PySem.F.slot_int_rmul (typeIs_int s i t) PySem.F.entry_int_rmul (PySem.F.args_int_rmul_2 _ _) (int___rmul___int_list i t a vs.toArray n)
   ⟨eh,U,⟨_,eh,U⟩,call_meets PySem.F.slot_list_mul ⟨_,eh,U⟩ PySem.F.entry_list_mul (PySem.F.args_list_mul_2 _ _)
    (AutoListH.list___mul___list_int_3 a vs.toArray n i t (by rw[fit i hk];decide) (by rw[hx,sz];lia) (by rw[hx,sz];exact λq=>Il (b:=af) (au hsz (by rw[fz];decide)) (by rw[q];rfl)))
    ⟨eh,?_⟩⟩)
 rw[hvn];simp only[dG,if_false,listMul_foldl,hx];have e1:((#[]:Array aq).toList++(aw k vs.toArray.toList).flatten).toArray=(aw k vs).flatten.toArray:=by simp
 rw[e1];exact g.list (q.rep k) s.toks
end
section
variable{G:Gv}{e:Env}{σ:St}{a b c:CV}{f:CF}{x:Str}{target:Expr}{p:Pos}{it i l:Nat}{n st:Int}
def eC(G:Gv)(target:Expr)(it:Nat)(σ:St)(c:CV)(σ':St):Prop:=∀α s a E,GS G α σ s->α.f it=aa a ->
 aH G.M G.A (iW (.ref a)) (λr s1=>∃v,r=aa v/\∀E,aH G.M G.A (gr target (.ref a) v) (λzz=>W VR G α s.heap c σ' v) E s1) E s
def RN(_:AM)(_:Heap)(_:Unit)(r:Option aq):Prop:=r=none
def eX(G:Gv)(it:Nat)(σ σ':St):Prop:=∀α s a E,GS G α σ s->α.f it=aa a->aH G.M G.A (iW (.ref a)) (W RN G α s.heap () σ') E s
noncomputable def xu(k:Nat):List (Nat×AO)->List (Nat×AO)
 |[]=>[]
 |(j,o)::l=>match br k j with
  |true=>xu k l
  |false=>(j,o)::xu k l
theorem gm{k j: Nat}{ao: AO}:∀{l:List (Nat×AO)},dh (xu k l) j=aa ao->j≠k/\dh l j=aa ao:=by
 intro l
 induction l with
 |nil=>exact λh=>nomatch h
 |cons p l ih =>
  obtain⟨i,o⟩:=p;intro h;cases q:br k i with
  |true =>
   unfold xu at h;rw[q]at h;refine lA (ih h) λh1 h2=>?_;refine⟨h1,?_⟩;unfold dh;rw[show br j i=false from oR λh=>h1 (h.trans (a9 q).symm)];exact h2
  |false =>
   unfold xu at h;rw[q]at h;unfold dh at h ⊢;cases z:br j i with
   |true=>rw[z]at h;exact⟨λh'=>(by rw[←h',z]at q;cases q),h⟩
   |false=>rw[z]at h;exact ih h
noncomputable def St.del(σ:St)(k:Nat):St:=⟨xu k σ.objs,σ.n⟩
theorem GS.gone{α s k ao a h'}(g:GS G α σ s)(e:σ.get k=aa ao)(ha:α.f k=aa a)(same:jA a s.heap h')(tk:Nat):W RN G α s.heap () (σ.del k) none {s with heap:=h',toks:=tk}:=by
 have t:=g.goto (σ':=σ.del k) (h':=h') (·=k) (·=a) U (λj hj=>⟨ao,hj▸e⟩) (λb hb=>⟨k,U,hb▸ha⟩) (λb o f eb=>same b o (λq=>f k U (q▸ha)) eb)
  (λzz=>⟨λj hj b hb n=>absurd (bR (hb.symm.trans (hj▸ha))) n,λj o h=>.inl (And.symm (gm h))⟩) tk
 exact⟨_,t.1,t.2,U⟩
theorem GS.YP{α s j k ao ao' a b h'}(g:GS G α σ s)(e:σ.get j=aa ao)(ha:α.f j=aa a)(e2:σ.get k=aa ao')(hb:α.f k=aa b)(same:∀c o,c≠a->c≠b->s.heap.get? c=aa o->h'.get? c=aa o)(tk:Nat):
  W RN G α s.heap () ((σ.del j).del k) none {s with heap:=h',toks:=tk}:=by
 have t:=g.goto (σ':=(σ.del j).del k) (h':=h') (λi=>i=j∨i=k) (λc=>c=a∨c=b) U (λi hi=>hi.elim (λq=>⟨ao,q▸e⟩) λq=>⟨ao',q▸e2⟩) (λc hc=>hc.elim (λq=>⟨j,.inl U,q▸ha⟩) λq=>⟨k,.inr U,q▸hb⟩)
  (λc o f ec=>same c o (λq=>f j (.inl U) (q▸ha)) (λq=>f k (.inr U) (q▸hb)) ec)
  (λzz=>⟨λi hi c hc n=>hi.elim (λq=>absurd (.inl (bR (hc.symm.trans (q▸ha)))) n) λq=>absurd (.inr (bR (hc.symm.trans (q▸hb)))) n,
   λi o h=>.inl (let u:=gm h;let v:=gm u.2;⟨v.2,λq=>q.elim v.1 u.1⟩)⟩) tk
 exact⟨_,t.1,t.2,U⟩
theorem dP{k xs}(e:σ.get k=aa (.list xs)):dD G fc (.ref k) σ (.ref σ.n) (σ.push (.ix k 0)):=by
 intro α s v E g r;obtain⟨a,vs,n,rfl,ha,eh,q,sz⟩:=g.getL e r;exact wpAny_pyIter_list (items:=vs.toArray) ⟨_,eh,U,_,U⟩ (g.tH (ao:=.ix k 0) (λle=>⟨a,le.le _ aE _ ha,_,aJ _ U,U,U⟩) s.toks)
inductive IAt(α:AM)(h:Heap)(it l i:Nat)(xs:List CV)(a:Nat):Prop
 |mk (b:Nat) (vs:List aq) (n:Nat) (hb:α.f l=aa b) (ei:h.IsListIter a b i) (eh:h.get? b=aa (fg vs n)) (q:di α h xs vs):IAt α h it l i xs a
theorem GS.BA{α s a xs}(g:GS G α σ s)(e:σ.get it=aa (.ix l i))(el:σ.get l=aa (.list xs))(ha:α.f it=aa a):IAt α s.heap it l i xs a:=by
 refine dH λlg eS=>?_;obtain⟨a',h1,b,hb,ei⟩:=g.own _ _ e;cases h1.symm.trans ha;obtain⟨b',h2,vs,n,eh,q⟩:=g.own _ _ el;cases h2.symm.trans hb;refine eS ?_;exact⟨b,vs,n,hb,ei,eh,q⟩
theorem fE:σ.get it=aa (.ix l i)->dD G fc (.ref it) σ (.ref it) σ:=by
 intro e α s _ E g FE;refine aR (FE) λa kE ha=>?_;obtain rfl:=kE;refine dH λlg eS=>?_;obtain⟨a',h1,b,hb,ei⟩:=g.own _ _ e;cases h1.symm.trans ha;refine eS ?_;exact wpAny_pyIter_listiter ei (g.here ⟨a,U,ha⟩)
theorem X.list{xs}(e:σ.get it=aa (.ix l i))(el:σ.get l=aa (.list xs))(hx:xs[i]?=aa c)
  (go:∀(s:aA) a b v α (Q:Unit->aA->Prop) E,s.heap.IsListIter a b (i+1)->VR α s.heap c v->Q () s->aH G.M G.A (gr target (.ref a) v) Q E s):eC G target it σ c (σ.set it (.ix l (i+1))):=by
 intro α s a E g ha;obtain⟨b,vs,n,hb,ei,eh,q⟩:=g.BA e el ha;refine aR (q.get hx) λv hv r=>?_;refine wpAny_pyNext_list_item ei (items:=vs.toArray) ⟨_,eh,U,_,U⟩ (by rw[bH];exact hv) λh' e' hs=>⟨v,U,λE=>?_⟩;have t:=g.turn (h':=h') (ao':=.ix l (i+1)) e ha (λc o hc eo=>(hs.2 c hc).trans eo) (λle=>⟨b,hb,e'⟩) s.toks;exact go _ a b v α _ E e' (r.mono t.1) ⟨α,t.1,t.2,r.mono t.1⟩
theorem X.names{xs}(e:σ.get it=aa (.ix l i))(el:σ.get l=aa (.list xs))(hx:xs[i]?=aa c):eC G (.Name x p) it σ c (σ.set it (.ix l (i+1))):=
 X.list e el hx λzz zz zz zz zz zz zz zz zz h=>av h
theorem D.list{xs}(hh:G.A.handled=none)(e:σ.get it=aa (.ix l i))(el:σ.get l=aa (.list xs))(hx:xs.length=i):eX G it σ (σ.del it):=by
 intro α s a E g ha;obtain⟨b,vs,n,hb,ei,eh,q⟩:=g.BA e el ha;exact wpAny_pyNext_list_end hh ei (items:=vs.toArray) ⟨_,eh,U,_,U⟩ (by rw[bH,iO,q.length,hx];exact aW _) λh' hs=>g.gone e ha hs s.toks
theorem Bq{k}{i j: Int}(e:σ.get k=aa (.n5 i j st))(hs:dF i j st=af)(hn:cX i j st=n):dD G fc (.ref k) σ (.ref σ.n) (σ.push (.itR i n st)):=by
 intro α s v E g r;refine Fm (g.S1 e r) λa t u w nW ha eh=>?_;obtain rfl:=nW;exact wpAny_pyIter_range eh hs (g.tH (ao:=.itR i n st) (λzz=>hn▸aJ _ U) s.toks)
theorem AV{i: Int}(hh:G.A.handled=none)(e:σ.get it=aa (.itR i n st))(hn:0<=n):dD G fc (.ref it) σ (.ref it) σ:=by
 intro α s _ E g nY;refine aR (nY) λa kE ha=>?_;obtain rfl:=kE;refine aR (g.own _ _ e) λa' h1 ei=>?_;cases h1.symm.trans ha;obtain⟨k,rfl⟩:=eQ hn;refine(Walks.range (prog:=G.prog) (w:=G.w) hh a i st k).self 0 s _ E ?_ (g.here ⟨a,U,ha⟩);show s.heap.get? a=aa (rit (i+((0:Nat):Int)*st) ((k:Int)-((0:Nat):Int)) st);rw[Int.ofNat_zero,fm,Int.add_zero,Int.sub_zero];exact ei
theorem X.range{i: Int}(e:σ.get it=aa (.itR i n st))(hn:0<n):eC G (.Name x p) it σ (.int i) (σ.set it (.itR (i+st) (n-1) st)):=by
 intro α s a E g ha;refine aR (g.own _ _ e) λa' h1 ei=>?_;cases h1.symm.trans ha;refine wpAny_pyNext_range_item ei hn λh' e' hs=>⟨_,U,λE=>av ?_⟩;have t:=g.turn (h':=h') (ao':=.itR (i+st) (n-1) st) e ha (λc o hc eo=>(hs.2 c hc).trans eo) (λle=>e') (s.toks+1);exact⟨α,t.1,t.2,_,U⟩
theorem D.range{i: Int}(hh:G.A.handled=none)(e:σ.get it=aa (.itR i n st))(hn:n<=0):eX G it σ (σ.del it):=by
 intro α s a E g ha;refine aR (g.own _ _ e) λa' h1 ei=>?_;cases h1.symm.trans ha;exact wpAny_pyNext_range_end hh ei hn λh' hs=>g.gone e ha hs s.toks
end
section
variable{G:Gv}{e:Env}{σ:St}{a b c:CV}{f:CF}{x y:Str}{p:Pos}{it i l:Nat}
noncomputable def uZ(x:Str)(i:Nat):CV:=.str ⟨#[x.cps.getD i 0]⟩
theorem zx{A:bZ}{prog w}{t:Tok}(hh:A.handled=none):Draws prog w A it [it] x.cps.size (λi v=>∃c u,x.cps[i]?=aa c/\v=.str ⟨#[c]⟩ u) (λi h=>h.IsStrIter it (bj x) x t i):=by
 unfold bj;cases ha:x.cps.all (· < 128)
 ·exact Draws.strWide hh it x t
 ·exact Draws.strAscii hh it x t
inductive JAt(α:AM)(h:Heap)(x:Str)(i:Nat)(a:Nat):Prop
 |mk (t:Tok) (k:h.IsStrIter a (bj x) x t i):JAt α h x i a
theorem GS.Mw{α s a}(g:GS G α σ s)(e:σ.get it=aa (.rf x i))(ha:α.f it=aa a):JAt α s.heap x i a:=by
 refine dH λlg eS=>?_;obtain⟨a',h1,t,o,ei,k⟩:=g.own _ _ e;cases h1.symm.trans ha;refine eS ?_;exact⟨t,o,ei,k⟩
theorem qq:dD G fc (.str x) σ (.ref σ.n) (σ.push (.rf x 0)):=by
 rintro α s _ E g ⟨t,rfl⟩;exact wpAny_pyIter_strU (g.tH (ao:=.rf x 0) (λzz=>⟨t,_,aJ _ U,U,U⟩) s.toks)
theorem tb(e:σ.get it=aa (.rf x i)):dD G fc (.ref it) σ (.ref it) σ:=by
 intro α s _ E g nY;refine aR (nY) λa kE ha=>?_;obtain rfl:=kE;obtain⟨t,k⟩:=g.Mw e ha;have fin:W VR G α s.heap (.ref it) σ (.ref a) s:=g.here ⟨a,U,ha⟩;unfold bj at k;cases h:x.cps.all (· < 128)
 ·rw[h]at k;exact wpAny_pyIter_striter_wide k fin
 ·rw[h]at k;exact wpAny_pyIter_striter_ascii k fin
theorem X.str(e:σ.get it=aa (.rf x i))(hi:i<x.cps.size):eC G (.Name y p) it σ (uZ x i) (σ.set it (.rf x (i+1))):=by
 intro α s a E g ha;obtain⟨t,k⟩:=g.Mw e ha;have hx:x.cps[i]?=aa (x.cps.getD i 0):=by rw[lQ,iG hi];rfl
 have fin:∀h',h'.IsStrIter a (bj x) x t (i+1)->gQ a s.heap h'->∃v,aa (Value.str ⟨#[x.cps.getD i 0]⟩ s.toks)=aa v/\∀E,aH G.M G.A (gr (.Name y p) (.ref a) v) (λzz=>W VR G α s.heap (uZ x i) (σ.set it (.rf x (i+1))) v) E {s with heap:=h',toks:=s.toks+1}:=by
  intro h' k' hs;refine aR (k') λo eo k'=>?_;have t:=g.turn (h':=h') (ao':=.rf x (i+1)) e ha (λc o hc eo=>(hs.2 c hc).trans eo) (λle=>⟨t,o,eo,k'⟩) (s.toks+1);exact⟨_,U,λE=>av ⟨α,t.1,t.2,_,U⟩⟩
 unfold bj at k fin;cases h:x.cps.all (· < 128)
 ·rw[h]at k fin;exact wpAny_pyNext_wide_item k hx fin
 ·rw[h]at k fin;exact wpAny_pyNext_ascii_item k hx fin
theorem D.str(hh:G.A.handled=none)(e:σ.get it=aa (.rf x i))(hi:x.cps.size=i):eX G it σ (σ.del it):=by
 intro α s a E g ha;obtain⟨t,k⟩:=g.Mw e ha;have hx:x.cps[i]?=none:=by rw[Array.getElem?_eq_none_iff,hi];exact aW _
 unfold bj at k;cases h:x.cps.all (· < 128)
 ·rw[h]at k;exact wpAny_pyNext_wide_end hh k hx λh' hs=>g.gone e ha hs s.toks
 ·rw[h]at k;exact wpAny_pyNext_ascii_end hh k hx λh' hs=>g.gone e ha hs s.toks
theorem GS.Wc{α s h' ao bo}(g:GS G α σ s)(hk:∀b o,s.heap.get? b=aa o->h'.get? b=aa o)
  (x:Le α s.heap (α.kZ σ.n s.heap.objs.size 2) h'->OI G (α.kZ σ.n s.heap.objs.size 2) h' s.heap.objs.size ao/\OI G (α.kZ σ.n s.heap.objs.size 2) h' (s.heap.objs.size+1) bo) (tk:Nat):
  W VR G α s.heap (.ref (σ.n+1)) (σ.n6 [ao,bo]) (.ref (s.heap.objs.size+1)) {s with heap:=h',toks:=tk}:=by
 have t:=g.vy (os:=[ao,bo]) (h':=h') (a:=s.heap.objs.size) hk (λi zz=>by
  cases e:s.heap.get? (s.heap.objs.size+i)with
  |none=>rfl
  |some o=>exact absurd (bx e) (Nat.not_lt.mpr (bg _ _))) (λle i o hi=>?_) tk
 ·exact⟨_,t.1,t.2,_,U,AM.d' (bq 1)⟩
 ·match i,hi with
  |0,hi=>cases hi;exact(x le).1
  |1,hi=>cases hi;exact(x le).2
theorem EJ{k xs}(e:σ.get k=aa (.list xs)):bM G (λvs=>call (.type "enumerate") vs) [.ref k] σ (.ref (σ.n+1)) (σ.n6 [.ix k 0,.uP σ.n 0]):=
 Wu e λα s a vs n E g ha eh q sz=>call_enumerate_list (items:=vs.toArray) ⟨_,eh,U,_,U⟩ λh' he hi hz hk =>
  g.Wc (ao:=.ix k 0) (bo:=.uP σ.n 0) hk (λle=>⟨⟨a,le.le _ aE _ ha,hi⟩,_,_,AM.d' (i:=0) (j_ 1),he⟩) s.toks
inductive EAt(α:AM)(h:Heap)(it j i:Nat)(a:Nat):Prop
 |mk (b:Nat) (old:aq) (hb:α.f j=aa b) (ei:IsEnum h a b i old) (ne:a≠b):EAt α h it j i a
theorem GS.YZ{α s a j ao}(g:GS G α σ s)(e:σ.get it=aa (.uP j i))(ej:σ.get j=aa ao)(zd:it≠j)(ha:α.f it=aa a):EAt α s.heap it j i a:=by
 refine dH λlg eS=>?_;obtain⟨a',h1,b,old,hb,ei⟩:=g.own _ _ e;cases h1.symm.trans ha;refine eS ?_;exact⟨b,old,hb,ei,λq=>zd (g.inj _ _ _ _ _ e ej ha (q▸hb))⟩
theorem DO{j}(e:σ.get it=aa (.uP j i)):dD G fc (.ref it) σ (.ref it) σ:=by
 intro α s _ E g nY;refine aR (nY) λa kE ha=>?_;obtain rfl:=kE;refine dH λlg eS=>?_;obtain⟨a',h1,b,old,hb,ei⟩:=g.own _ _ e;cases h1.symm.trans ha;refine eS ?_;exact wpAny_pyIter_enum ei (g.here ⟨a,U,ha⟩)
theorem MB{α s a b j old h' x ao ao' tk Ab kO k}(g:GS G α σ s)(e:σ.get it=aa (.uP j i))(ej:σ.get j=aa ao)(ha:α.f it=aa a)(hb:α.f j=aa b)(su:a≠b)(he:IsEnum s.heap a b i old)
  (ho:IsEnumOut h' a b ((i:Int)+1) x s.heap.objs.size) (ht:h'.get? s.heap.objs.size=aa {cls:=.type "tuple",data:=.seq #[.int i tk,x]}) (hk:∀c o,c≠a->c≠b->s.heap.get? c=aa o->h'.get? c=aa o)
  (oj:∀{β h2},Le α s.heap β h2->(∀o,h'.get? b=aa o->h2.get? b=aa o)->OI G β h2 b ao') (hx:∀{β h2},Le α s.heap β h2->VR β h2 c x) (E):
  aH G.M G.A (gr (.Tuple kO k p) (.ref a) (.ref s.heap.objs.size)) (λzz=>W VR G α s.heap (.tup [.int i,c]) ((σ.set it (.uP j (i+1))).set j ao') (.ref s.heap.objs.size)) E {s with heap:=h',toks:=Ab}:=by
 refine wpAny_letOwnedTupleGo_enum ho λh2 he2 X5=>?_;have X5:gQ a h' h2:=X5;have b2:∀o,h'.get? b=aa o->h2.get? b=aa o:=λo q=>X5.extBut _ _ (Ne.symm su) q;have all:∀c o,c≠a->c≠b->s.heap.get? c=aa o->h2.get? c=aa o:=λc o n1 n2 q=>X5.extBut _ _ n1 (hk c o n1 n2 q);have zd:it≠j:=λq=>su (bR (ha.symm.trans (q▸hb)));have t:=g.goto (σ':=(σ.set it (.uP j (i+1))).set j ao') (h':=h2) (λk=>k=it∨k=j) (λzz=>False) U (λk hk=>hk.elim (λq=>⟨_,q▸e⟩) λq=>⟨_,q▸ej⟩) (λzz q=>q.elim)
  (λc o f q=>all c o (λz=>f it (.inl U) (z▸ha)) (λz=>f j (.inr U) (z▸hb)) q) (λle=>?_) Ab
 ·rw[AM.less_none]at t
  refine⟨α,t.1,t.2,s.heap.objs.size,[.int i tk,x],0,U,λh=>?_,λh=>?_,?_,_,_,U,⟨_,U⟩,_,_,U,hx t.1,U⟩
  ·obtain⟨o,q⟩:=g.lt _ h;rw[ez]at q;cases q
  ·obtain⟨o,q,_⟩:=g.qf _ h;rw[ez]at q;cases q
  ·exact X5.extBut _ _ (λq=>by rw[←q,IsEnum,ez]at he;cases he) ht
 ·rw[AM.less_none]at le ⊢
  refine⟨λk hk c hc zz=>?_,λk o hk=>?_⟩
  ·rcases hk with rfl|rfl
   ·cases hc.symm.trans ha;exact⟨_,he2⟩
   ·cases hc.symm.trans hb;exact(oj le b2).live
  ·rw[show((σ.set it (.uP j (i+1))).set j ao').get k=_ from fi j ao' k,show dh (σ.set it (.uP j (i+1))).objs j=_ from fi it _ j,show dh (σ.set it (.uP j (i+1))).objs k=_ from fi it _ k,if_neg (Ne.symm zd),show dh σ.objs j=aa ao from ej]at hk
   by_cases q1:k=j
   ·rw[if_pos q1]at hk;cases hk;exact .inr ⟨.inr q1,b,q1▸hb,id,oj le b2⟩
   ·rw[if_neg q1]at hk
    by_cases q2:k=it
    ·rw[if_pos q2,show dh σ.objs it=aa (.uP j i)from e]at hk;cases hk;exact .inr ⟨.inl q2,a,q2▸ha,id,b,x,hb,he2⟩
    ·rw[if_neg q2]at hk;exact .inl ⟨hk,λq=>q.elim q2 q1⟩
theorem X.Jo{j l xs kO k}(e:σ.get it=aa (.uP j i))(ej:σ.get j=aa (.ix l i))(el:σ.get l=aa (.list xs))(hx:xs[i]?=aa c)(zd:it≠j):
  eC G (.Tuple kO k p) it σ (.tup [.int i,c]) ((σ.set it (.uP j (i+1))).set j (.ix l (i+1))):=by
 intro α s a E g ha;obtain⟨b,old,hb,he,ne⟩:=g.YZ e ej zd ha;obtain⟨bl,vs,n,hl,ei,eh,q⟩:=g.BA ej el hb;refine aR (q.get hx) λv hv r=>?_;exact wpAny_pyNext_enum_item (items:=vs.toArray) (x:=v) he ei ⟨_,eh,U,_,U⟩ (by rw[bH];exact hv) ne λh' u1 u2 u3 u4 u5 =>
  ⟨_,U,MB g e ej ha hb ne he u1 u3 u5 (λle k=>⟨bl,le.le _ aE _ hl,let⟨o,q1,q2⟩:=u2;⟨o,k _ q1,q2⟩⟩) λle=>r.mono le⟩
theorem D.Jo{j l xs}(hh:G.A.handled=none)(e:σ.get it=aa (.uP j i))(ej:σ.get j=aa (.ix l i))(el:σ.get l=aa (.list xs))(hx:xs.length=i)(zd:it≠j):eX G it σ ((σ.del it).del j):=by
 intro α s a E g ha;obtain⟨b,old,hb,he,ne⟩:=g.YZ e ej zd ha;obtain⟨bl,vs,n,hl,ei,eh,q⟩:=g.BA ej el hb;exact wpAny_pyNext_enum_end hh (items:=vs.toArray) he ei ⟨_,eh,U,_,U⟩ (by rw[bH,iO,q.length,hx];exact aW _) λh' hs=>g.YP e ha ej hb (λc o n1 n2 q=>hs c o n2 q) s.toks
end
section
variable{G:Gv}{m:Nat}{e:Env}{σ σ1 σ2 τ:St}{a b c:CV}{f:CF}{cs:List CV}{x y:Str}{target:Expr}{p:Pos}{it i:Nat}
def cU(G:Gv)(e:Env)(target:Expr)(c:CV)(σ σ':St):Prop:=∀α s env E v,EI α e env->GS G α σ s->VR α s.heap c v->aH G.M G.A (jL target env v) (W RU G α s.heap () σ') E s
theorem cU.name(h:dJ G e x c σ σ1):cU G e (.Name x p) c σ σ1:=λα s env E v i g r=>wpAny_assign_Name (h α s env E v i g r)
inductive Na(G:Gv)(m:Nat)(e:Env)(target:Expr)(body:List Stmt)(it:Nat)(σ:St)(f:CF)(σ':St):Prop
 |mk (c:CV) (τ1 uT:St) (h1:eC G target it σ c τ1) (h2:cU G e target c τ1 uT) (h3:eY G m e body uT f σ'):Na G m e target body it σ f σ'
theorem Na.run{body:List Stmt}{α s env a}{E:aq->aA->Prop}{Q:Option aq->aA->Prop}(t:Na G m e target body it σ f σ1)(hb:EB m e=af)(i:EI α e env)(g:GS G α σ s)(ha:α.f it=aa a)
  (h:∀v s1,aH G.M G.A (gr target (.ref a) v) (λzz s2=>aH G.M G.A (jL target env v) (λzz s3=>aH G.M G.A (jI body env) (λr s4=>WM m G α s.heap f σ1 r s4) E s3) E s2) E s1->Q (aa v) s1):aH G.M G.A (iW (.ref a)) Q E s:=by
 obtain⟨c,τ1,uT,h1,h2,h3⟩:=t;refine wQ (h1 α s a E g ha) ?_;rintro _ s1 ⟨v,rfl,k⟩;refine h v s1 (wQ (k E) ?_);rintro _ s2 ⟨β,x,g2,r⟩;refine E1 (h2 β s2 env E v (i.mono x) g2 r) λγ s3 y g3=>?_;exact wQ (h3 γ s3 env E ((i.mono x).mono y) g3) λzz zz w=>w.trans (x.trans y).nj
theorem SS.for{iter body pos}{m':Nat}(n:Nat)(S:Nat->St)(hb:EB m' e=af)(hm:m<=m')(hit:it<m')(h1:a8 G e iter σ c σ1)(h2:dD G fc c σ1 (.ref it) (S 0))
  (turn:∀i,i<n->∃τ,Na G m' e target body it (S i) .next τ/\gN m' τ (S (i+1))) (last:eX G it (S n) σ2) (hs:autoParam (∀env x,gv iter env x=bO x) j2):
  SS G m e (.For target iter body [] pos) σ .next σ2:=by
 intro α s env E i g;refine wpAny_For (iI (h1 α s env E i g) λβ v s1 x g1 r1=>?_) (hs env);refine Nj (h2 β s1 v E g1 r1) λγ a s2 y g2 ha=>?_;have xy:=x.trans y;refine codeAny_forLoop_any (λk s'=>∃j δ,k=n-j/\j<=n/\BU m' γ s2.heap δ s'.heap/\GS G δ (S j) s') ?_ n ⟨0,γ,U,bJ _,rm.refl _ _,g2⟩;intro k s' Fx;refine uU (Fx) λj δ Fv hj le g'=>?_;obtain rfl:=Fv;have i':=(i.mono xy).pj le hb;have xX:=le.le _ hit _ ha;by_cases i8:j<n
 ·refine aR (turn j i8) λτ t h3=>?_
  refine t.run hb i' g' xX λv s1 w=>wQ w λzz s2 w=>wQ w λzz s3 w=>wQ w ?_;rintro _ s4 ⟨ε,z,g4,rfl⟩;refine aR (h3 G ε s4 g4) λζ z2 g5=>?_;exact⟨n-(j+1),Nat.sub_lt_sub_left i8 (bq j),j+1,ζ,U,i8,(le.trans z).trans z2,g5⟩
 ·obtain rfl:j=n:=Nat.le_antisymm hj (dm i8)
  refine wQ (last δ s' a _ g' xX) ?_;rintro _ s4 ⟨ε,z,g4,rfl⟩;exact wpAny_execs_nil ⟨ε,(xy.nj.trans (le.sub λk h=>aM h hm)).trans z.nj,g4,U⟩
def Ord(G:Gv)(e:Env)(fs:Env->List (aq->Sem Unit))(cs:List CV)(σ σ':St):Prop:=∀α s env E vs,EI α e env->GS G α σ s->di α s.heap cs vs->aH G.M G.A (assignInOrder (fs env) vs) (W RU G α s.heap () σ') E s
theorem Ord.nil:Ord G e (λzz=>[]) [] σ σ:=by
 rintro α s env E _ i g rfl;exact av (g.here aE)
theorem Ord.aZ{fs:Env->List (aq->Sem Unit)}{f1:Env->aq->Sem Unit}(h:∀α s env E v,EI α e env->GS G α σ s->VR α s.heap c v->aH G.M G.A (f1 env v) (W RU G α s.heap () σ1) E s)(k:Ord G e fs cs σ1 σ2):Ord G e (λenv=>f1 env::fs env) (c::cs) σ σ2:=by
 intro α s env E _ i g FD;refine f5 (FD) λv vs sM r q=>?_;obtain rfl:=sM;refine ae (aQ (E1 (h α s env E v i g r) λβ s1 x g1=>?_));exact wQ (k β s1 env E vs (i.mono x) g1 (q.mono x)) λzz zz w=>w.trans x
theorem Ord.bind{fs}(h:dJ G e x c σ σ1)(k:Ord G e fs cs σ1 σ2):Ord G e (λenv=>(λv=>bindName env x v)::fs env) (c::cs) σ σ2:=
 Ord.aZ (f1:=λenv v=>bindName env x v) (λα s env E v i g r=>wpAny_bindName (h α s env E v i g r)) k
theorem Ord.name{fs}(h:dJ G e x c σ σ1)(k:Ord G e fs cs σ1 σ2):Ord G e (λenv=>(λv=>do f6 p;bindName env x v)::fs env) (c::cs) σ σ2:=
 Ord.aZ (f1:=λenv v=>do f6 p;bindName env x v) (λα s env E v i g r=>ae (de (wpAny_bindName (h α s env E v i g r)))) k
theorem Ord.run{fs:Env->List (aq->Sem Unit)}{α s env E vs h' h0 α0}(k:Ord G e fs cs σ σ1)(i:EI α e env)(g:GS G α σ s)(r:di α s.heap cs vs)(hx:jA s.heap.objs.size s.heap h')(x:Le α0 h0 α s.heap):
  aH G.M G.A (assignInOrder (fs env) vs) (W RU G α0 h0 () σ1) E {s with heap:=h'}:=by
 have t:=g.same (h':=h') (λb o eb=>hx b o (bL (bx eb)) eb) s.toks;exact wQ (k α {s with heap:=h'} env E vs (i.mono t.1) t.2 (r.mono t.1)) λzz zz w=>w.trans (x.trans t.1)
theorem cU.tuple{kO k p_}{fs:Env->List (aq->Sem Unit)}(hh:G.A.handled=none)(h:Ord G e fs cs σ σ1)(h1:autoParam (∀env,(assignEach kO env).map (·.2)=fs env) j2)(h2:autoParam (∀env,(assignEach kO env).length=cs.length) j2)
  (h3:autoParam (∀env,(assignEach kO env).findIdx? (·.1)=none) j2):cU G e (.Tuple kO k p_) (.tup cs) σ σ1:=by
 intro α s env E v i g r;obtain⟨a,vs,rfl,ht,q⟩:=F3 r;refine assign_Tuple_tuple hh ht (by rw[h2,a_,q.length]) (h3 env) λh' hx=>?_;rw[h1];exact h.run i g q hx (Le.refl _ _)
theorem SS.swap{kO k p_ value pos}{names:List Str}(hh:G.A.handled=none)(h1:a8 G e value σ (.tup cs) σ1)(hl:cs.length=names.length)(h2:Ord G e (λenv=>names.reverse.map λn=>bindName env n) cs.reverse σ1 σ2)
  (hs:autoParam (∀env,swapsWithSole [.Tuple kO k p_] value pos.line env=bO false) j2) (hw:∀env:Env,env.scope=e.scope->swappedStores [.Tuple kO k p_] value env=bO (aa names)):SS G m e (.Assign [.Tuple kO k p_] value pos) σ .next σ2:=by
 intro α s env E i g;refine Assign_Tuple_swapped (names:=names) (iI (h1 α s env E i g) λβ v s1 x g1 r1=>?_) (hs env) (hw env i.scope);obtain⟨a,vs,rfl,ht,q⟩:=F3 r1;have hsz:names.length=vs.toArray.size:=by rw[a_,q.length,hl]
 rw[hsz];refine unpackItems_tuple hh ht λh' hx=>?_;have rev:∀{cs vs},di β s1.heap cs vs->di β s1.heap cs.reverse vs.reverse:=by
  intro cs
  induction cs with
  |nil=>rintro _ rfl;rfl
  |cons c cs ih =>
   intro _ PA;refine f5 (PA) λv ws Ap r q=>?_;obtain rfl:=Ap;rw[dX,dX];exact(ih q).append (.one r)
 refine E1 (h2.run (i.mono x) g1 (rev q) hx x) λγ s2 y g2=>?_;exact⟨γ,y.nj,g2,U⟩
theorem SS.ig{kO k p_ value pos}(h1:a8 G e value σ c σ1)(h2:cU G e (.Tuple kO k p_) c σ1 σ2)(hs:autoParam (∀env,swapsWithSole [.Tuple kO k p_] value pos.line env=bO false) j2)
  (hw:∀env:Env,env.scope=e.scope->swappedStores [.Tuple kO k p_] value env=bO none):SS G m e (.Assign [.Tuple kO k p_] value pos) σ .next σ2:=by
 intro α s env E i g;refine Assign_Tuple (iI (h1 α s env E i g) λβ v s1 x g1 r1=>?_) (hs env) (hw env i.scope);refine E1 (h2 β s1 env E v (i.mono x) g1 r1) λγ s2 y g2=>?_;exact⟨γ,(x.trans y).nj,g2,U⟩
end
section
variable{G:Gv}{m:Nat}{e:Env}{σ σ1 σ2 σ3 τ:St}{a b c d:CV}{f:CF}{x y:Str}{target iter elt:Expr}{p pos:Pos}{it acc i:Nat}{scope:jk}{q:Nat}
noncomputable def mz(target iter:Expr)(it:aq)(env:Env)(step:Sem Unit)(back:Sem Fin):Sem Fin:=
 f6 iter.pos >>= λzz=>iW it >>= λr=>match r with
   |none=>pure (.done .next)
   |some v=>gr target it v >>= λzz=>jL target env v >>= λzz=>step >>= λzz=>back
noncomputable def oC(elt:Expr)(acc:aq)(env:Env):Sem Unit:=eval elt env >>= λx=>call (.builtin "list.append") [acc,x] >>= λzz=>pure ()
noncomputable def sV(c:Expr)(step:aq->Env->Sem Unit)(acc:aq)(env:Env):Sem Unit:=PySem.isTrue c env (eval c env) >>= λok=>if ok=af then step acc env else pure ()
noncomputable def nextOf(e:Expr)(d:Nat)(iter:Expr)(acc:aq)(env:Env):Sem Unit:=
 eval iter env >>= λx=>f6 iter.pos >>= λzz=>gv iter env x >>= λx=>h_ [x] (fc x) >>= λit=>runOwn (.compStart e d it acc env) env >>= λzz=>pure ()
def ef(G:Gv)(m:Nat)(e:Env)(st:aq->Env->Sem Unit)(acc:Nat)(σ σ':St):Prop:=∀α s env b E,EI α e env->GS G α σ s->α.f acc=aa b->aH G.M G.A (st (.ref b) env) (λzz s'=>WM m G α s.heap .next σ' .next s') E s
def cI(G:Gv)(m:Nat)(e:Env)(c:aq->aq->Env->Code)(it acc:Nat)(σ σ':St):Prop:=∀α s env a b R,EI α e env->GS G α σ s->α.f it=aa a->α.f acc=aa b->(∀s',WM m G α s.heap .next σ' .next s'->R (.ok .next) s') ->
 codeAny G.M G.A (c (.ref a) (.ref b) env) R s
theorem ef.emit{out}(h:a8 G e elt σ c σ1)(hl:σ1.get acc=aa (.list out))(hf:out.length<=bC):ef G m e (oC elt) acc σ (σ1.set acc (.list (out++[c]))):=by
 intro α s env b E i g hb;refine ae (iI (h α s env E i g) λβ v s1 x g1 r=>?_);have Og:=x.le _ aE _ hb;refine ae (iI (list_append hl hf β s1 [.ref b,v] E g1 ⟨_,_,U,⟨b,U,Og⟩,v,[],U,r,U⟩) λγ zz s2 y g2 zz=>?_);exact av ⟨γ,(x.trans y).nj,g2,U⟩
theorem ef.F9{c: Expr}{st}(h:cS G e c σ af σ1)(k:ef G m e st acc σ1 σ2):ef G m e (sV c st) acc σ σ2:=by
 intro α s env b E i g hb;refine ae (Aq (h α s env E i g) λβ s1 x g1=>?_);exact wQ (k β s1 env b E (i.mono x) g1 (x.le _ aE _ hb)) λzz zz w=>w.trans x.nj
theorem ef.yj{c: Expr}{st}(h:cS G e c σ false σ1):ef G m e (sV c st) acc σ σ1:=by
 intro α s env b E i g hb;refine ae (Aq (h α s env E i g) λβ s1 x g1=>?_);exact av ⟨β,x.nj,g1,U⟩
theorem ef.next{x: Expr}{n: Nat}{it}(hh:G.A.handled=none)(h1:a8 G e iter σ c σ1)(h2:dD G fc c σ1 (.ref it) σ2)(h3:cI G m e (λit acc env=>.compStart x n it acc env) it acc σ2 σ3)
  (hs:autoParam (∀env v,gv iter env v=bO v) j2):ef G m e (nextOf x n iter) acc σ σ3:=by
 intro α s env b E i g hb;refine ae (iI (h1 α s env E i g) λβ v s1 x g1 r1=>?_);refine ae (de (ae (cH (hs env v) (ae (aQ (Nj (h2 β s1 v E g1 r1) λγ a s2 y g2 ha=>?_))))));refine ae (wpAny_runOwn (h:=none) ?_);rw[D7 hh];exact h3 γ s2 env a b _ ((i.mono x).mono y) g2 ha (y.le _ aE _ (x.le _ aE _ hb)) λs' w=>av (w.trans (x.trans y).nj)
inductive OG(G:Gv)(m:Nat)(e:Env)(target:Expr)(st:aq->Env->Sem Unit)(it acc:Nat)(σ σ':St):Prop
 |mk (c:CV) (τ1 uT:St) (h1:eC G target it σ c τ1) (h2:cU G e target c τ1 uT) (h3:ef G m e st acc uT σ'):OG G m e target st it acc σ σ'
theorem cI.loop{gens:List dq}{q: Nat}{st:aq->Env->Sem Unit}{m': Nat}(n:Nat)(S:Nat->St)(hb:EB m' e=af)(hm:m<=m')(hit:it<m')(hac:acc<m')
  (Yo:∀it acc env,compTurn (.ListComp elt gens scope pos) q it acc env=mz target iter it env (st acc env) (again (.compLoop (.ListComp elt gens scope pos) q it acc env)))
  (turn:∀i,i<n->∃τ,OG G m' e target st it acc (S i) τ/\gN m' τ (S (i+1))) (last:eX G it (S n) σ2):cI G m e (λit acc env=>.compLoop (.ListComp elt gens scope pos) q it acc env) it acc (S 0) σ2:=by
 intro α s env a b R i g ha Og hR;refine codeAny_loop U (λk s'=>∃j δ,k=n-j/\j<=n/\BU m' α s.heap δ s'.heap/\GS G δ (S j) s') ?_ n ⟨0,α,U,bJ _,rm.refl _ _,g⟩;intro k s' ya;refine uU (ya) λj δ pW hj le g'=>?_;obtain rfl:=pW;show aH _ _ ((compTurn (.ListComp elt gens scope pos) q (.ref a) (.ref b) env).onRaise (λx=>do noteFrame x env;theTreesLotGoes x)) _ _ s';refine wpAny_noted ?_;rw[Yo];unfold mz;have i':=i.pj le hb;have xX:=le.le _ hit _ ha;refine ae (de (ae ?_));by_cases i8:j<n
 ·refine aR (turn j i8) λτ Pm h4=>?_
  obtain⟨c,τ1,uT,h1,h2,h3⟩:=Pm;refine wQ (h1 δ s' a _ g' xX) ?_;intro _ s1 Pz;refine aR (Pz) λv Pj k=>?_;obtain rfl:=Pj;refine ae (wQ (k _) ?_);rintro _ s2 ⟨β,x,g2,r⟩;refine ae (E1 (h2 β s2 env _ v (i'.mono x) g2 r) λγ s3 y g3=>?_);have xy:=x.trans y;refine ae (wQ (h3 γ s3 env b _ (i'.mono xy) g3 (xy.le _ aE _ (le.le _ hac _ Og))) ?_);rintro _ s4 ⟨ε,z,g4,_⟩;refine aR (h4 G ε s4 g4) λζ z2 g5=>?_;exact av ⟨U,n-(j+1),Nat.sub_lt_sub_left i8 (bq j),j+1,ζ,U,i8,((le.trans xy.nj).trans z).trans z2,g5⟩
 ·obtain rfl:j=n:=Nat.le_antisymm hj (dm i8)
  refine wQ (last δ s' a _ g' xX) ?_;rintro _ s4 ⟨ε,z,g4,rfl⟩;exact av (hR s4 ⟨ε,(le.sub λk h=>aM h hm).trans z.nj,g4,U⟩)
section
variable{prog:cY}{w:cW}{A:bZ}{R:Result->aA->Prop}{s:aA}
theorem DI{gens:List dq}{d: Nat}{it acc: aq}{env: Env}{g:dq}(hg:gens[d]?=aa g)(ha:g.is_async=0)
  (h0:codeAny (ba prog w) A (.compLoop (.ListComp elt gens scope pos) d it acc env) R s)
  (h:aH (ba prog w) A (fc it) (λit' s'=>codeAny (ba prog w) A (.compLoop (.ListComp elt gens scope pos) d it' acc env) R s') (notedBy (ba prog w) A env λx s'=>R (.error x) s') s):
  codeAny (ba prog w) A (.compStart (.ListComp elt gens scope pos) d it acc env) R s:=by
 have hg:(clausesOf (.ListComp elt gens scope pos))[d]?=aa g:=hg;refine codeAny_of_tree ?_;show aH _ _ ((compStart (.ListComp elt gens scope pos) d it acc env).onRaise (λx=>do noteFrame x env;f6 theWindowsPlace)) _ _ s;refine wpAny_notedAt ?_;unfold compStart;rw[hg];simp only[Option.elim,ha];show aH _ _ (ask >>= _) _ _ s;refine ae (wpAny_askSetting (wpAny_ite ?_))
 split
 ·first
   |exact ae (av (av (And.intro U h0)))
   |exact av (And.intro U h0)
 ·first
   |exact ae (fU (ae (de (ae (dz h (λit' s' h'=>av (And.intro U h')) λzz zz x=>x)))))
   |(refine ae (fU ?_);exact ae (de (ae (dz h (λit' s' h'=>av (And.intro U h')) λzz zz x=>x))))
end
theorem cI.start{gens:List dq}{g:dq}(hg:gens[q]?=aa g)(ha:g.is_async=0)(self:dD G fc (.ref it) σ (.ref it) σ)
  (h:cI G m e (λit acc env=>.compLoop (.ListComp elt gens scope pos) q it acc env) it acc σ σ1):cI G m e (λit acc env=>.compStart (.ListComp elt gens scope pos) q it acc env) it acc σ σ1:=by
 intro α s env a b R i g0 xX hb hR;refine DI hg ha (h α s env a b R i g0 xX hb hR) (Nj (self α s (.ref a) _ g0 ⟨a,U,xX⟩) λβ a2 s1 x g1 ha2=>?_);exact h β s1 env a2 b R (i.mono x) g1 ha2 (x.le _ aE _ hb) λs' w=>hR s' (w.trans x.nj)
noncomputable def nQ(e:Env):List (Str×NameKind)->List (Str×Nat)->Option (List (Str×Nat))
 |[],acc=>aa acc
 |(n,k)::r,acc=>match k==.free with
  |true=>match e.cells.lookup n with
   |some a=>nQ e r ((n,a)::acc)
   |none=>none
  |false=>nQ e r acc
theorem MN{α e env}(i:EI α e env){cl: List (Str×Nat)}:∀(names:List (Str×NameKind)) {acc:List (Str×Nat)}{ac:List (Str×Nat)},jC α acc ac->nQ e names acc=aa cl ->
  ∃c,(forIn names ac λ(p:Str×NameKind) r=>if(p.2==NameKind.free)=af then do let a ←cellOf env p.1;pure (fy ((p.1,a)::r))else pure (fy r):Sem (List (Str×Addr)))=pure c/\jC α cl c:=by
 intro names
 induction names with
 |nil=>intro acc ac h q;cases q;exact⟨ac,U,h⟩
 |cons p names ih =>
  obtain⟨n,k⟩:=p;intro acc ac h q;unfold nQ at q;rw[dC];cases z:k==NameKind.free with
  |false =>
   rw[z]at q;refine aR (ih h q) λc h1 h2=>?_;exact⟨c,by rw[if_neg aN,pure_bind];exact h1,h2⟩
  |true =>
   rw[z]at q;cases z2:e.cells.lookup n with
   |none=>rw[z2]at q;cases q
   |some a =>
    rw[z2]at q;refine aR (i.cells _ _ z2) λb hb hf=>?_;refine aR (ih (acc:=(n,a)::acc) (ac:=(n,b)::ac) ⟨b,ac,U,hf,h⟩ q) λc h1 h2=>?_;refine⟨c,?_,h2⟩;rw[if_pos U,bind_assoc,show cellOf env n=pure b by unfold cellOf;rw[hb],pure_bind,pure_bind];exact h1
end
section
variable{G:Gv}{m:Nat}{e:Env}{σ σ1 σ2 σ3 Ae:St}{a b c:CV}{f:CF}{x y:Str}{target iter elt:Expr}{pos:Pos}{it acc i:Nat}{scope:jk}{cl:List (Str×Nat)}
noncomputable def C7(scope:jk)(cl:List (Str×Nat))(C:Nat)(e:Env):Env:=compEnvC scope cl C e
theorem EI.comp{α e env cl c C a}(i:EI α e env)(hc:jC α cl c)(ha:α.f C=aa a):EI α (C7 scope cl C e) (compEnvC scope c a env):=by
 refine⟨ha,hc.sU,?_,i.globals,i.builtins,i.qual,i.code⟩;show relabel scope env=relabel scope e;unfold relabel;rw[i.scope];refine congrArg (λz=>{scope with names:=z}) (List.map_congr_left λq zz=>?_);obtain⟨n,k⟩:=q;dsimp only;rw[i.kindOf]
theorem sA{α e env cl}(i:EI α e env)(h:nQ e scope.names []=aa cl):∃c,closureFor scope env=pure c/\jC α cl c:=by
 obtain⟨c,h1,h2⟩:=MN i scope.names (acc:=[]) (ac:=[]) U h;exact⟨c,by unfold closureFor;exact(bind_pure _).trans h1,h2⟩
noncomputable def j7(scope:jk):Bool:=scope.kind==.function&&scope.names.all λq=>q.2 != .cell&&(q.2 != .local || scope.names.lookup q.1==aa .local)
theorem j7.ok(h:j7 scope=af):scope.kind=.function/\(∀q∈scope.names,q.2=.local->scope.names.lookup q.1=aa .local)/\∀q∈scope.names,q.2≠.cell:=by
 unfold j7 at h;rw[aV]at h;have k:=List.all_eq_true.mp h.2;refine⟨beq_iff_eq.mp h.1,λq hq hl=>?_,λq hq hc=>?_⟩
 ·have:=k q hq
  rw[aV,Bool.or_eq_true]at this;rcases this.2 with z|z
  ·rw[hl]at z;cases z
  ·exact beq_iff_eq.mp z
 ·have:=k q hq
  rw[hc,aV]at this;cases this.1
theorem GS.Oj{α s C a h'}(g:GS G α σ s){mm}(e:σ.get C=aa (.frame mm))(ha:α.f C=aa a)(hs:gQ a s.heap h'):∃β,Le α s.heap β h'/\GS G β (σ.del C) {s with heap:=h'}:=by
 obtain⟨β,x,g',_⟩:=g.gone e ha hs.extBut s.toks;exact⟨β,x,g'⟩
theorem vQ{t0 i0: Expr}{tR: List Expr}{gs:List dq}{use:Option (aq->Sem Unit)}{aa1: Pos}{α s env E}{Q:aq->aA->Prop}{M: Nat}(hS:j7 scope=af)(hc:nQ e scope.names []=aa cl)
  (h1:a8 G e i0 σ c σ1) (h2:dD G fc c σ1 (.ref it) σ2) (hM:σ2.n+1<M) (h3:cI G M (C7 scope cl (σ2.n+1) e) (λit acc env=>.compStart (.ListComp elt (⟨t0,i0,tR,0⟩::gs) scope pos) 0 it acc env) it σ2.n ((σ2.push (.list [])).push (.frame [])) σ3)
  (hs:∀env x,gv i0 env x=bO x) (i:EI α e env) (g:GS G α σ s)
  (done:∀β s' ac C,Le α s.heap β s'.heap->GS G β σ3 s'->β.f σ2.n=aa ac->β.f (σ2.n+1)=aa C->compPost G.M G.A E use Q (.ref ac) C (.ok .next) s'):
  aH G.M G.A (comprehension (.ListComp elt (⟨t0,i0,tR,0⟩::gs) scope pos) scope env aa1 (newList []) false (eval i0 env) use) Q E s:=by
 refine Fu (j7.ok hS) λhk hn lO=>?_;refine aR (sA i hc) λc tV I8=>?_;refine wpAny_comprehension_free (g:=⟨t0,i0,tR,0⟩) (gs:=gs) U (hs env) tV hk hn (use:=use) ?_;refine iI (h1 α s env E i g) λβ v s1 x g1 r1=>?_;refine Nj (h2 β s1 v E g1 r1) λγ a s2 y g2 ha=>?_;refine d7 ?_ (bJ _);have t3:=g2.push (ao:=.list []) (o:=fg [] 0) (λle=>⟨[],0,aJ _ U,U⟩) s2.toks;refine wpAny_newFunctionEnv lO (by intro y hy;cases hy) (λh4 tU hsb=>?_) hk;have t4:=t3.2.more (h':=h4) (ao:=.frame []) (λb o eb=>hsb.extBut b o (bL (bx eb)) (aC _ eb)) (ez _) (λle=>⟨_,tU,λx c hx=>(nomatch hx)⟩) (s2.toks+([]:List (Str×aq)).length);have z:=(((x.trans y).trans t3.1).trans t4.1);have wX:=t3.1.trans t4.1;have hac:=t4.1.le σ2.n aE _ (AM.fQ γ σ2.n s2.heap.objs.size);have hC:=AM.fQ (γ.add σ2.n s2.heap.objs.size) (σ2.n+1) (s2.heap.push (fg [] 0)).objs.size;refine h3 _ _ _ a s2.heap.objs.size _ ((i.mono z).comp (I8.mono λk=>z.le k aE) hC) t4.2 (wX.le _ aE _ ha) hac ?_;rintro s' ⟨δ,w,g5,_⟩;refine done δ s' _ _ (z.trans' w λk b zz e=>w.le k ?_ b (z.le k aE b e)) g5 (w.le _ (ka (bq _) hM) _ hac) (w.le _ hM _ hC);cases kh k σ2.n with
 |inl q=>exact ka (d0 q) hM
 |inr q=>have:=g2.new k q;rw[(x.trans y).le k aE b e]at this;cases this
theorem a8.comp{t0 i0: Expr}{tR: List Expr}{gs:List dq}{mm}(M:Nat)(hS:j7 scope=af)(hc:nQ e scope.names []=aa cl)
  (h1:a8 G e i0 σ c σ1) (h2:dD G fc c σ1 (.ref it) σ2) (hM:σ2.n+1<M) (h3:cI G M (C7 scope cl (σ2.n+1) e) (λit acc env=>.compStart (.ListComp elt (⟨t0,i0,tR,0⟩::gs) scope pos) 0 it acc env) it σ2.n ((σ2.push (.list [])).push (.frame [])) σ3)
  (h4:σ3.get (σ2.n+1)=aa (.frame mm)) (hs:autoParam (∀env x,gv i0 env x=bO x) j2):a8 G e (.ListComp elt (⟨t0,i0,tR,0⟩::gs) scope pos) σ (.ref σ2.n) (σ3.del (σ2.n+1)):=by
 intro α s env E i g;rw[eval_ListComp];refine vQ (use:=bz) hS hc h1 h2 hM h3 hs i g λβ s' ac C x g' ha hC=>?_;refine dH λlg eS=>?_;obtain⟨C',hC',mf,tU,_⟩:=g'.own _ _ h4;cases hC.symm.trans hC';refine eS ?_;refine⟨mf,tU,λh' xc=>?_⟩;refine aR (g'.Oj h4 hC xc) λδ y g5=>?_;exact⟨δ,x.trans y,g5,ac,U,y.le _ aE _ ha⟩
theorem SS.xH{t0 i0: Expr}{tR: List Expr}{gs:List dq}{mm}{yp VF: Pos}(M:Nat)(hS:j7 scope=af)(hc:nQ e scope.names []=aa cl)
  (h1:a8 G e i0 σ c σ1) (h2:dD G fc c σ1 (.ref it) σ2) (hM:σ2.n+1<M) (h3:cI G M (C7 scope cl (σ2.n+1) e) (λit acc env=>.compStart (.ListComp elt (⟨t0,i0,tR,0⟩::gs) scope pos) 0 it acc env) it σ2.n ((σ2.push (.list [])).push (.frame [])) σ3)
  (h5:dJ G e y (.ref σ2.n) σ3 Ae) (h4:Ae.get (σ2.n+1)=aa (.frame mm)) (XY:∀env:Env,env.scope=e.scope->swapsWith (.ListComp elt (⟨t0,i0,tR,0⟩::gs) scope pos) (aa (.Name y yp)) VF.line env=bO af)
  (hs:autoParam (∀env x,gv i0 env x=bO x) j2):SS G m e (.Assign [.Name y yp] (.ListComp elt (⟨t0,i0,tR,0⟩::gs) scope pos) VF) σ .next (Ae.del (σ2.n+1)):=by
 intro α s env E i g;rw[exec_Assign_Name_used _ _ _ _ (XY env i.scope)];refine ae (de (ae ?_));show aH _ _ (comprehension (.ListComp elt (⟨t0,i0,tR,0⟩::gs) scope pos) scope env _ (newList []) false (eval i0 env) (aa (jL (.Name y yp) env)) >>= λzz=>bO ()) _ _ _;refine ae (vQ (use:=aa (jL (.Name y yp) env)) hS hc h1 h2 hM h3 hs i g λβ s' ac C x g' ha hC=>?_);refine wpAny_assign_Name (E1 (h5 β s' env E (.ref ac) (i.mono x) g' ⟨ac,U,ha⟩) λγ s5 y g5=>?_);refine dH λlg eS=>?_;obtain⟨C',hC',mf,tU,_⟩:=g5.own _ _ h4;have hC5:=y.le _ aE _ hC;cases hC5.symm.trans hC';refine eS ?_;refine⟨mf,tU,λh' xc=>?_⟩;refine aR (g5.Oj h4 hC5 xc) λδ z g6=>?_;exact av (av ⟨δ,((x.trans y).trans z).nj,g6,U⟩)
theorem F0(elt target iter c:Expr)(scope:jk)(pos:Pos)(it acc:aq)(env:Env):
  compTurn (.ListComp elt [⟨target,iter,[c],0⟩] scope pos) 0 it acc env=(f6 iter.pos >>= λzz=>iW it >>= λr=>match r with
   |none=>pure (.done .next)
   |some v=>gr target it v >>= λzz=>jL target env v >>= λzz =>
    (forIn [c] af λc r=>if r=af then do let ok ←PySem.isTrue c env (eval c env);pure (fy ok)else pure (fy r)) >>= λok =>
    (if ok=af then oC elt acc env >>= λzz =>
     again (.compLoop (.ListComp elt [⟨target,iter,[c],0⟩] scope pos) 0 it acc env)else again (.compLoop (.ListComp elt [⟨target,iter,[c],0⟩] scope pos) 0 it acc env))):=by rfl
theorem pZ(elt target iter:Expr)(scope:jk)(pos:Pos)(it acc:aq)(env:Env):
  compTurn (.ListComp elt [⟨target,iter,[],0⟩] scope pos) 0 it acc env=mz target iter it env (oC elt acc env) (again (.compLoop (.ListComp elt [⟨target,iter,[],0⟩] scope pos) 0 it acc env)):=by rfl
theorem DC(c:Expr)(st:aq->Env->Sem Unit)(acc:aq)(env:Env)(back:Sem Fin):
  ((forIn [c] af λc r=>if r=af then do let ok ←PySem.isTrue c env (eval c env);pure (fy ok)else pure (fy r)) >>= λok=>(if ok=af then st acc env >>= λzz=>back else back))=(sV c st acc env >>= λzz=>back):=by
 unfold sV;rw[dC,bind_assoc,bind_assoc,if_pos U,bind_assoc]
 congr 1;funext ok
 rw[pure_bind];dsimp only;rw[List.forIn_nil,pure_bind];cases ok
 ·rw[if_neg aN,if_neg aN,pure_bind]
 ·rw[if_pos U,if_pos U]
theorem yg(elt target iter c:Expr)(scope:jk)(pos:Pos)(it acc:aq)(env:Env):
  compTurn (.ListComp elt [⟨target,iter,[c],0⟩] scope pos) 0 it acc env=mz target iter it env (sV c (oC elt) acc env) (again (.compLoop (.ListComp elt [⟨target,iter,[c],0⟩] scope pos) 0 it acc env)):=by
 rw[F0];unfold mz
 congr 1;funext _;congr 1;funext r
 cases r with
 |none=>rfl
 |some v =>
  dsimp only
  congr 1;funext _;congr 1;funext _
  exact DC c (oC elt) acc env _
theorem AE(elt target iter:Expr)(g:dq)(scope:jk)(pos:Pos)(it acc:aq)(env:Env):
  compTurn (.ListComp elt [g,⟨target,iter,[],0⟩] scope pos) 1 it acc env=mz target iter it env (oC elt acc env) (again (.compLoop (.ListComp elt [g,⟨target,iter,[],0⟩] scope pos) 1 it acc env)):=by rfl
theorem F1(elt t0 i0:Expr)(target iter:Expr)(ifs:List Expr)(scope:jk)(pos:Pos)(it acc:aq)(env:Env):
  compTurn (.ListComp elt [⟨t0,i0,[],0⟩,⟨target,iter,ifs,0⟩] scope pos) 0 it acc env=mz t0 i0 it env (nextOf (.ListComp elt [⟨t0,i0,[],0⟩,⟨target,iter,ifs,0⟩] scope pos) 1 iter acc env) (again (.compLoop (.ListComp elt [⟨t0,i0,[],0⟩,⟨target,iter,ifs,0⟩] scope pos) 0 it acc env)):=by
 unfold mz nextOf;simp only[bind_assoc,pure_bind];rfl
end
section
set_option backward.match.sparseCases false
mutual
noncomputable def ny(r:Nat->Nat):CV->CV
 |.none=>.none
 |.bool b=>.bool b
 |.int i=>.int i
 |.str x=>.str x
 |.val v=>.val v
 |.ref k=>.ref (r k)
 |.tup l=>.tup (cK r l)
noncomputable def cK(r:Nat->Nat):List CV->List CV
 |[]=>[]
 |c::cs=>ny r c::cK r cs
end
noncomputable def Xq(r:Nat->Nat):AO->AO
 |.list xs=>.list (cK r xs)
 |.cell c=>.cell (c.map (ny r))
 |.ix l i=>.ix (r l) i
 |.y7 cs i=>.y7 (cK r cs) i
 |.uP j i=>.uP (r j) i
 |.zip i j=>.zip (r i) (r j)
 |.pr i j=>.pr (r i) (r j)
 |.bT C d xs=>.bT C (r d) (cK r xs)
 |.fn g=>.fn {g with clos:=g.clos.map λp=>(p.1,r p.2)}
 |o=>o
structure J0(r:Nat->Nat)(α β:AM):Prop where
 f:∀k a,α.f (r k)=aa a->β.f k=aa a
 t:∀a,α.off a->¬α.R a->β.off a/\¬β.R a
section
variable{α β:AM}{r:Nat->Nat}{h:Heap}{k n:Nat}
mutual
theorem VR.th{r:Nat->Nat}(x:J0 r α β):∀(c:CV) {v:aq},VR α h (ny r c) v->VR β h c v
 |.none,_,q=>q
 |.bool _,_,q=>q
 |.int _,_,q=>q
 |.str _,_,q=>q
 |.val _,_,q=>q
 |.ref k,_,q=>q.imp λa q=>⟨q.1,x.f _ _ q.2⟩
 |.tup l,_,q=>by obtain⟨a,vs,n,e,f,u,g,q⟩:=q;exact⟨a,vs,n,e,(x.t a f u).1,(x.t a f u).2,g,di.th x l q⟩
theorem di.th{r:Nat->Nat}(x:J0 r α β):∀(cs:List CV) {vs:List aq},di α h (cK r cs) vs->di β h cs vs
 |[],_,q=>q
 |c::cs,_,q=>by obtain⟨v,ws,e,u,q⟩:=q;exact⟨v,ws,e,VR.th x c u,di.th x cs q⟩
end
theorem jC.th(x:J0 r α β){l: List (Str×Nat)}:∀{cs},jC α (l.map λp=>(p.1,r p.2)) cs->jC β l cs:=by
 induction l with
 |nil=>exact λe=>e
 |cons p l ih=>rintro _ ⟨a,ds,e,h,q⟩;exact⟨a,ds,e,x.f _ _ h,ih q⟩
theorem kA.th(x:J0 r α β){cv q}(c:kA α h cv q):kA β h cv q:=⟨c.1,λa e=>x.t a (c.2 a e).1 (c.2 a e).2⟩
def BV(r:Nat->Nat)(m:List (Str×CV)):List (Str×CV)->Prop
 |[]=>True
 |(x,c)::l=>m.lookup x=aa (ny r c)/\BV r m l
theorem BV.look{m: List (Str×CV)}{x: Str}{c: CV}:∀{m':List (Str×CV)},BV r m m'->m'.lookup x=aa c->m.lookup x=aa (ny r c):=by
 intro m'
 induction m' with
 |nil=>exact λzz h=>nomatch h
 |cons p m' ih =>
  obtain⟨y,d⟩:=p;intro q h;rw[a7]at h;cases z:x==y with
  |true=>rw[z]at h;cases h;rw[beq_iff_eq.mp z];exact q.1
  |false=>rw[z]at h;exact ih q.2 h
def jt(r:Nat->Nat)(ao:AO):AO->Prop
 |.frame m'=>∃m,ao=.frame m/\BV r m m'
 |.any=>True
 |o=>ao=Xq r o
theorem OI.th(x:J0 r α β){a: Nat}{ao: AO}(q:jt r ao ao')(o:OI G α h a ao):OI G β h a ao':=by
 cases ao' with
 |frame m' =>
  obtain⟨m,rfl,q⟩:=q;obtain⟨mf,n,k⟩:=o;refine⟨mf,n,λy c hx=>?_⟩;refine aR (k y _ (q.look hx)) λv hv w=>?_;exact⟨v,hv,w.th x⟩
 |any=>exact o.live
 |list xs=>cases q;obtain⟨vs,n,e,w⟩:=o;exact⟨vs,n,e,w.th x⟩
 |cell c =>
  cases q;refine nJ (o) λv ic n w=>?_;refine⟨v,ic,λhc=>n (by rw[hc];rfl),λd hd=>?_⟩;refine aR (w (ny r d) (by rw[hd];rfl)) λu hu w=>?_;exact⟨u,hu,w.th x⟩
 |n5 i j k=>cases q;exact o
 |ix l i=>cases q;exact o.imp λb o=>⟨x.f _ _ o.1,o.2⟩
 |itR i j k=>cases q;exact o
 |rf y i=>cases q;exact o
 |y7 cs i=>cases q;obtain⟨b,vs,n,f,u,e,q,it⟩:=o;exact⟨b,vs,n,(x.t b f u).1,(x.t b f u).2,e,di.th x cs q,it⟩
 |uP it i=>cases q;obtain⟨b,old,hb,e⟩:=o;exact⟨b,old,x.f _ _ hb,e⟩
 |zip i j=>cases q;obtain⟨b,c,h1,h2,e⟩:=o;exact⟨b,c,x.f _ _ h1,x.f _ _ h2,e⟩
 |pr i j=>cases q;obtain⟨b,c,h1,h2,e⟩:=o;exact⟨b,c,x.f _ _ h1,x.f _ _ h2,e⟩
 |two=>cases q;exact o
 |bT C d xs=>cases q;obtain⟨b,vs,n,hb,e,w⟩:=o;exact⟨b,vs,n,x.f _ _ hb,e,w.th x⟩
 |size k=>cases q;exact o
 |bare=>cases q;exact o
 |zy f=>cases q;exact o
 |tab P t=>cases q;obtain⟨p,ps,e,t,k⟩:=o;exact⟨p,ps,e,t,λpos cv hc=>(k pos cv hc).th x⟩
 |fn g=>cases q;obtain⟨o,cl,pm,cv,xx,e,d,c,k⟩:=o;exact⟨o,cl,pm,cv,xx,e,d,c.th x,k.th x⟩
end
noncomputable def eI:List (Nat×Nat)->Nat->Nat->Nat
 |[],_,d=>d
 |(k,j)::l,i,d=>match br i k with
  |true=>j
  |false=>eI l i d
noncomputable def Ct(m d:Nat)(l:List (Nat×Nat))(k:Nat):Nat:=match cf k m with
 |true=>k
 |false=>eI l k d
def zY(r:Nat->Nat)(σ:St):List (Nat×AO)->Prop
 |[]=>True
 |(k,ao')::l=>(∃ao,σ.get (r k)=aa ao/\jt r ao ao')/\zY r σ l
theorem aD{σ:St}{r:Nat->Nat}{k:Nat}{ao ao':AO}(h:σ.get k=some ao:=by exact rfl)(q:jt r ao ao':=by exact rfl):∃ao,σ.get k=some ao/\jt r ao ao':=⟨ao,h,q⟩
theorem zY.look{r:Nat->Nat}:∀{l:List (Nat×AO)},zY r σ l->dh l k=aa ao'->∃ao,σ.get (r k)=aa ao/\jt r ao ao':=by
 intro l
 induction l with
 |nil=>exact λzz h=>nomatch h
 |cons p l ih =>
  obtain⟨i,o⟩:=p;intro q h;unfold dh at h;cases z:br k i with
  |true=>rw[z]at h;cases h;rw[a9 z];exact q.1
  |false=>rw[z]at h;exact ih q.2 h
noncomputable def ik(m n:Nat):List (Nat×Nat)->Bool
 |[]=>af
 |(k,j)::l=>cf k n&&dM m j&&(l.all λp=>!(br p.2 j))&&ik m n l
theorem pF{d: Nat}:∀{l:List (Nat×Nat)},ik m n l=af->eI l i d=d∨(i,eI l i d)∈l/\i<n/\m<=eI l i d:=by
 intro l
 induction l with
 |nil=>exact λzz=>.inl U
 |cons p l ih =>
  obtain⟨k,j⟩:=p;intro h;unfold ik at h;rw[aV,aV,aV]at h;unfold eI;cases z:br i k with
  |true =>
   cases a9 z;exact .inr ⟨.head _,Nat.blt_eq.mp h.1.1.1,bw h.1.1.2⟩
  |false=>exact(ih h.2).imp id λq=>⟨.tail _ q.1,q.2⟩
theorem qg{j: Nat}:∀{l:List (Nat×Nat)},ik m n l=af->(i,j)∈l->(k,j)∈l->i=k:=by
 intro l
 induction l with
 |nil=>exact λzz h=>nomatch h
 |cons p l ih =>
  obtain⟨q,u⟩:=p;intro h h1 h2;unfold ik at h;rw[aV,aV,aV]at h;have no:∀{w},(w,j)∈l->j=u->False:=λhw e=>by
   have:=List.all_eq_true.mp h.1.2 _ hw;rw[e,cD]at this;cases this
  rcases List.mem_cons.mp h1 with e1|g1
  ·rcases List.mem_cons.mp h2 with e2|g2
   ·cases e1;cases e2;rfl
   ·cases e1;exact(no g2 U).elim
  ·rcases List.mem_cons.mp h2 with e2|g2
   ·cases e2;exact(no g1 U).elim
   ·exact ih h.2 g1 g2
theorem gN.mk{objs: List (Nat×AO)}(l:List (Nat×Nat))(hm:dM m n=af)(hl:ik m n l=af)(h:zY (Ct m σ.n l) σ objs):gN m σ ⟨objs,n⟩:=by
 intro G α s g;have qk:α.f σ.n=none:=g.new _ (aW _);have cs:∀k,(k<m/\Ct m σ.n l k=k)∨(m<=k/\(Ct m σ.n l k=σ.n∨(k,Ct m σ.n l k)∈l/\k<n/\m<=Ct m σ.n l k)):=λk=>by
  unfold Ct;cases z:cf k m with
  |true=>exact .inl ⟨Nat.blt_eq.mp z,U⟩
  |false=>exact .inr ⟨dm λq=>(by rw[Nat.blt_eq.mpr q]at z;cases z),pF hl⟩
 have rr:J0 (Ct m σ.n l) α ⟨λk=>α.f (Ct m σ.n l k),α.O,α.R⟩:=⟨λzz zz e=>e,λzz f u=>⟨f,u⟩⟩;refine⟨⟨λk=>α.f (Ct m σ.n l k),α.O,α.R⟩,⟨λk lt a e=>?_,λa e=>.inl e,U,λzz zz zz e=>e⟩,λk ao e=>?_,λk ao a e ha=>?_,g.base,λj k ao ao' a e1 e2 h1 h2=>?_,λk hk=>?_,g.lt,g.qf,g.os,g.bare⟩
 ·rcases cs k with⟨_,q⟩|⟨q,_⟩
  ·show α.f (Ct m σ.n l k)=aa a;rw[q];exact e
  ·exact absurd lt (Nat.not_lt.mpr q)
 ·refine aR (h.look e) λo ho q=>?_
  refine aR (g.own _ _ ho) λa ha r=>?_;exact⟨a,ha,r.th rr q⟩
 ·refine aR (h.look e) λo ho q=>?_
  exact g.ow _ _ _ ho ha
 ·refine aR (h.look e1) λo1 q1 zz=>?_
  refine aR (h.look e2) λo2 q2 zz=>?_;have h1:α.f (Ct m σ.n l j)=aa a:=h1;have h2:α.f (Ct m σ.n l k)=aa a:=h2;have e:=g.inj _ _ _ _ _ q1 q2 h1 h2;rcases cs j with⟨a1,b1⟩|⟨a1,b1⟩
  ·rcases cs k with⟨a2,b2⟩|⟨a2,b2|b2⟩
   ·rw[←b1,←b2];exact e
   ·rw[b2,qk]at h2;cases h2
   ·rw[b1]at e;rw[←e]at b2;exact absurd a1 (Nat.not_lt.mpr b2.2.2)
  ·rcases b1 with b1|b1
   ·rw[b1,qk]at h1;cases h1
   ·rcases cs k with⟨a2,b2⟩|⟨a2,b2|b2⟩
    ·rw[b2]at e;rw[e]at b1;exact absurd a2 (Nat.not_lt.mpr b1.2.2)
    ·rw[b2,qk]at h2;cases h2
    ·rw[e]at b1;exact qg hl b1.1 b2.1
 ·rcases cs k with⟨a1,_⟩|⟨_,b1|b1⟩
  ·exact absurd (au (bw hm) hk) (Nat.not_le.mpr a1)
  ·show α.f (Ct m σ.n l k)=none;rw[b1];exact qk
  ·exact absurd hk (Nat.not_le.mpr b1.2.1)
theorem Bf(r:Nat->Nat)(ns:List Int):cK r (ns.map .int)=ns.map .int:=by
 induction ns with
 |nil=>rfl
 |cons n ns ih=>exact congrArg (CV.int n::·) ih
theorem aS{r:Nat->Nat}{ns: List Int}:jt r (.list (ns.map .int)) (.list (ns.map .int)):=congrArg AO.list (Bf r ns).symm
end
section
open Classical in
noncomputable def pO(h:Heap)(P:Nat->Prop):Heap:=⟨h.objs.mapIdx λi o=>if P i then {o with data:=.freed}else o,h.life⟩
open Classical in
theorem fk{h:Heap}{P:Nat->Prop}{b:Nat}{o:Obj}:(pO h P).get? b=aa o ↔ ¬P b/\h.get? b=aa o:=by
 unfold pO;rw[Heap.get?_some_iff,Heap.get?_some_iff];dsimp only;rw[Array.getElem?_mapIdx];by_cases p:P b
 ·refine⟨λq=>?_,λq=>absurd p q.1⟩
  rw[show(λo:Obj=>if P b then {o with data:=.freed}else o)=λo=>{o with data:=.freed}from funext λo=>if_pos p]at q;obtain⟨q,f⟩:=q;cases e:h.objs[b]? with
  |none=>rw[e]at q;cases q
  |some u=>rw[e]at q;cases q;cases f
 ·rw[show(λo:Obj=>if P b then {o with data:=.freed}else o)=id from funext λo=>if_neg p,Option.map_id]
  exact⟨λq=>⟨p,q⟩,λq=>q.2⟩
noncomputable def ext(G:Gv)(h:Heap):Gv:={G with h₀:=h}
theorem OI.ext{G:Gv}{h₀:Heap}{α h a ao}(r:OI G α h a ao):OI (Mine.Internal.ext G h₀) α h a ao:=by cases ao<;>exact r
theorem OI.Vs{G:Gv}{h₀:Heap}{α h a ao}(r:OI (Mine.Internal.ext G h₀) α h a ao):OI G α h a ao:=by cases ao<;>exact r
noncomputable def d6(l:List (Nat×Nat)):List (Nat×Nat):=l.map λp=>(p.2,p.1)
structure Pass(σ τ0 τ1:St)(l l2:List (Nat×Nat))(σ':St):Prop where
 a:ik 0 τ0.n (d6 l)=af
 b:(l.all λp=>(τ0.get p.2).isSome&&cf p.1 σ.n)=af
 c:ik 0 σ'.n (l++l2)=af
 d:(l2.all λp=>dM σ.n p.1)=af
 e:dM σ.n σ'.n=af
 into:zY (λj=>eI (d6 l) j σ.n) σ τ0.objs
 out:∀k ao,σ'.get k=aa ao->((∀j,(k,j) ∉ l)/\σ.get k=aa ao)∨∃o,τ1.get (eI (l++l2) k τ1.n)=aa o/\jt (λk=>eI (l++l2) k τ1.n) o ao
theorem qQ{l:List (Nat×Nat)}{j d:Nat}:eI (d6 l) j d=d∨(eI (d6 l) j d,j)∈l:=by
 induction l with
 |nil=>exact .inl U
 |cons p l ih =>
  obtain⟨k,i⟩:=p;have e:eI (d6 ((k,i)::l)) j d=match br j i with|true=>k|false=>eI (d6 l) j d:=U
  rw[e];cases z:br j i with
  |true=>cases a9 z;exact .inr (.head _)
  |false=>exact ih.imp id λq=>.tail _ q
theorem Cu{l:List (Nat×Nat)}{k j m n d:Nat}(h:ik m n (d6 l)=af)(q:(k,j)∈l)(u:∀i,(i,j)∈l->i=k):eI (d6 l) j d=k:=by
 induction l with
 |nil=>cases q
 |cons p l ih =>
  obtain⟨k',i⟩:=p;have e:eI (d6 ((k',i)::l)) j d=match br j i with|true=>k'|false=>eI (d6 l) j d:=U
  rw[e];cases z:br j i with
  |true=>cases a9 z;exact u _ (.head _)
  |false =>
   rcases List.mem_cons.mp q with e|q
   ·cases e;rw[cD]at z;cases z
   ·refine ih ?_ q λi hi=>u i (.tail _ hi)
    have h:ik m n ((i,k')::d6 l)=af:=h;unfold ik at h;rw[aV]at h;exact h.2
variable{G:Gv}{σ τ0 τ1:St}{c c0:CV}{cs ks cs0 ks0:List CV}{l l2:List (Nat×Nat)}{σ':St}{j k:Nat}
theorem rU.pass{C C0:AM->Prop}{f:List aq->List aq->Sem aq}(P:Pass σ τ0 τ1 l l2 σ')(hC:∀α Af:AM,C α->(∀j,Af.f j=α.f (eI (d6 l) j σ.n))->C0 Af)(spec:∀h₀,(∀b o,G.h₀.get? b=aa o->h₀.get? b=aa o)->rU (ext G h₀) C0 f cs0 ks0 τ0 c0 τ1)
  (r6:cs=cK (λj=>eI (d6 l) j σ.n) cs0) (Mn:ks=cK (λj=>eI (d6 l) j σ.n) ks0)
  (hr:c0=ny (λk=>eI (l++l2) k τ1.n) c):rU G C f cs ks σ c σ':=by
 intro α s vs ws E abY g rv rw_
 let u:Nat->Nat:=λj=>eI (d6 l) j σ.n
 let O':Nat->Prop:=λa=>∃j ao,τ0.get j=aa ao/\α.f (u j)=aa a
 let Af:AM:=⟨λj=>α.f (u j),O',λa=>α.R a∨(α.O a/\¬O' a)⟩
 have qk:α.f σ.n=none:=g.new _ (aW _);have BS:∀a,O' a->α.O a:=λa h=>by
  refine mU (h) λj ao e ha=>?_;refine aR (P.into.look e) λo ho zz=>?_;exact g.ow _ _ _ ho ha
 have R1:J0 u α Af:=⟨λzz zz e=>e,λa f nr=>⟨λh=>f (BS a h),λh=>h.elim nr λq=>f q.1⟩⟩;have bs:∀b o,G.h₀.get? b=aa o->(pO s.heap O').get? b=aa o:=λb o e=>fk.mpr ⟨λh=>(g.base b o e).1 (BS b h),(g.base b o e).2⟩;have g0:GS (ext G (pO s.heap O')) Af τ0 s:=by
  refine⟨λj ao e=>?_,λj ao a e ha=>⟨j,ao,e,ha⟩,λb o e=>?_,λi j o1 o2 a e1 e2 h1 h2=>?_,λj hj=>?_,λa h=>g.lt a (BS a h),λa h=>?_,g.os,g.bare⟩
  ·refine aR (P.into.look e) λo ho q=>?_
   refine aR (g.own _ _ ho) λa ha r=>?_;exact⟨a,ha,(r.th R1 q).ext⟩
  ·refine lA (fk.mp e) λh1 h2=>?_
   exact⟨h1,h2⟩
  ·refine aR (P.into.look e1) λp1 q1 zz=>?_
   refine aR (P.into.look e2) λp2 q2 zz=>?_;have e:=g.inj _ _ _ _ _ q1 q2 h1 h2;rcases qQ (l:=l) (j:=i) (d:=σ.n)with z|z
   ·have h1:α.f (u i)=aa a:=h1
    rw[show u i=σ.n from z,qk]at h1;cases h1
   ·rcases qQ (l:=l) (j:=j) (d:=σ.n)with z2|z2
    ·have h2:α.f (u j)=aa a:=h2
     rw[show u j=σ.n from z2,qk]at h2;cases h2
    ·rw[e]at z
     exact qg P.a (List.mem_map.mpr ⟨_,z,U⟩) (List.mem_map.mpr ⟨_,z2,U⟩)
  ·rcases pF (i:=j) (d:=σ.n) P.a with z|z
   ·show α.f (u j)=none;rw[show u j=σ.n from z];exact qk
   ·exact absurd hj (Nat.not_le.mpr z.2.1)
  ·rcases h with h|h
   ·refine aR (g.qf a h) λo ho f=>?_
    exact⟨o,ho,λq=>f (BS a q)⟩
   ·refine iH (g.lt a h.1) λo ho=>?_
    exact⟨o,ho,h.2⟩
 have v0:=di.th R1 cs0 (r6▸rv);have w0:=di.th R1 ks0 (Mn▸rw_);refine iI (spec _ bs Af s vs ws E (hC α Af abY λzz=>U) g0 v0 w0) λDq v s' le g' q=>?_
 let r:Nat->Nat:=λk=>eI (l++l2) k τ1.n
 let β:AM:=⟨λk=>match cf k σ.n with|true=>α.f k|false=>Dq.f (r k),λa=>Dq.O a∨(α.O a/\¬O' a),α.R⟩
 have βo:∀{k},k<σ.n->β.f k=α.f k:=λh=>by show(match cf _ σ.n with|true=>_|false=>_)=_;rw[Nat.blt_eq.mpr h]
 have βn:∀{k},σ.n<=k->β.f k=Dq.f (r k):=λh=>by
  show(match cf _ σ.n with|true=>_|false=>_)=_;cases z:cf _ σ.n with
  |true=>exact absurd h (Nat.not_le.mpr (Nat.blt_eq.mp z))
  |false=>rfl
 have bk:∀b o,¬O' b->s.heap.get? b=aa o->Dq.off b/\s'.heap.get? b=aa o:=λb o n e=>g'.base b o (fk.mpr ⟨n,e⟩);have Xg:Dq.f τ1.n=none:=g'.new _ (aW _);have inl:∀{k j},(k,j)∈l->k<σ.n/\∃a,α.f k=aa a/\Dq.f j=aa a/\O' a:=λ{k j} h=>by
  have:=List.all_eq_true.mp P.b _ h;rw[aV]at this;refine iH (Option.isSome_iff_exists.mp this.1) λao e=>?_;refine aR (g0.own _ _ e) λa ha zz=>?_;have hu:u j=k:=Cu P.a h λi hi=>qg P.c (List.mem_append_left _ hi) (List.mem_append_left _ h);have ha2:α.f (u j)=aa a:=ha;exact⟨Nat.blt_eq.mp this.2,a,hu▸ha2,le.le _ aE _ ha,j,ao,e,ha⟩
 have hR:Dq.R=Af.R:=le.rs;have LE:Le α s.heap β s'.heap:=by
  refine⟨λk zz a e=>(βo ?_).trans e,λa h=>h.elim (λq=>(le.new a q).imp (BS a) id) λq=>.inl q.1,U,λb o f e=>le.keep b o (λh=>f (BS b h)) e⟩;cases kh k σ.n with
  |inl q=>exact q
  |inr q=>rw[g.new k q]at e;cases e
 have listed:∀{k a},Dq.f (r k)=aa a->(k,r k)∈l++l2/\k<σ'.n:=λ{k a} h=>by
  rcases pF (i:=k) (d:=τ1.n) P.c with z|z
  ·rw[show r k=τ1.n from z,Xg]at h;cases h
  ·exact⟨z.1,z.2.1⟩
 have RR:J0 r Dq β:=by
  refine⟨λk a h=>?_,λa f nr=>⟨λh=>h.elim f λq=>nr (hR ▸ .inr q),λq=>nr (hR ▸ .inl q)⟩⟩;rcases List.mem_append.mp (listed h).1 with z|z
  ·obtain⟨lt,b,h1,h2,_⟩:=inl z
   rw[βo lt,h1];exact h2.symm.trans h
  ·exact(βn (bw (List.all_eq_true.mp P.d _ z))).trans h
 have cls:∀{k ao},σ'.get k=aa ao->(∃a,α.f k=aa a/\β.f k=aa a/\σ.get k=aa ao/\α.O a/\¬O' a/\OI G β s'.heap a ao)∨∃a o,Dq.f (r k)=aa a/\β.f k=aa a/\τ1.get (r k)=aa o/\Dq.O a/\OI G β s'.heap a ao:=λ{k ao} e=>by
  rcases P.out _ _ e with⟨nl,e'⟩|⟨o,ho,q⟩
  ·refine aR (g.own _ _ e') λa ha w=>?_
   have lt:k<σ.n:=Nat.lt_of_not_le λh=>by rw[g.new k h]at ha;cases ha
   have nO:¬O' a:=λ⟨j,o,ej,hj⟩=>by
    refine aR (P.into.look ej) λp hp zz=>?_;have:=g.inj _ _ _ _ _ hp e' hj ha;rcases qQ (l:=l) (j:=j) (d:=σ.n)with z|z
    ·rw[show u j=σ.n from z,qk]at hj;cases hj
    ·exact nl j (this▸z)
   exact .inl ⟨a,ha,(βo lt).trans ha,e',g.ow _ _ _ e' ha,nO,w.mono LE λo h=>(bk a o nO h).2⟩
  ·refine aR (g'.own _ _ ho) λa ha w=>?_
   exact .inr ⟨a,o,ha,RR.f _ _ ha,ho,g'.ow _ _ _ ho ha,w.Vs.th RR q⟩
 have Ot:∀{a},α.O a->¬O' a->Dq.O a->False:=λh1 h2 h3=>by obtain⟨o,ho⟩:=g.lt _ h1;exact(bk _ o h2 ho).1 h3
 refine⟨β,LE,⟨λk ao e=>?_,λk ao a e ha=>?_,λb o e=>?_,λj k o1 o2 a e1 e2 h1 h2=>?_,λk hk=>?_,λa h=>?_,λa h=>?_,g'.os,g'.bare⟩,VR.th RR c (hr▸q)⟩
 ·rcases cls e with⟨a,_,h,_,_,_,w⟩|⟨a,_,_,h,_,_,w⟩
  ·exact⟨a,h,w⟩
  ·exact⟨a,h,w⟩
 ·rcases cls e with⟨b,_,h,_,h1,h2,_⟩|⟨b,_,_,h,_,h1,_⟩
  ·cases h.symm.trans ha;exact .inr ⟨h1,h2⟩
  ·cases h.symm.trans ha;exact .inl h1
 ·have nO:¬O' b:=λh=>(g.base b o e).1 (BS b h)
  have:=bk b o nO (g.base b o e).2;exact⟨λh=>h.elim this.1 λq=>(g.base b o e).1 q.1,this.2⟩
 ·rcases cls e1 with⟨b,x1,x2,x3,x4,x5,_⟩|⟨b,p,x1,x2,x3,x4,_⟩
  ·cases x2.symm.trans h1
   rcases cls e2 with⟨b2,y1,y2,y3,_⟩|⟨b2,p2,y1,y2,y3,y4,_⟩
   ·cases y2.symm.trans h2;exact g.inj _ _ _ _ _ x3 y3 x1 y1
   ·cases y2.symm.trans h2;exact(Ot x4 x5 y4).elim
  ·cases x2.symm.trans h1
   rcases cls e2 with⟨b2,y1,y2,y3,y4,y5,_⟩|⟨b2,p2,y1,y2,y3,y4,_⟩
   ·cases y2.symm.trans h2;exact(Ot y4 y5 x4).elim
   ·cases y2.symm.trans h2
    have:=g'.inj _ _ _ _ _ x3 y3 x1 y1;have z:=(listed x1).1;rw[this]at z;exact qg P.c z (listed y1).1
 ·have h0:σ.n<=k:=au (bw P.e) hk
  rw[βn h0];cases q:Dq.f (r k)with
  |none=>rfl
  |some a=>exact absurd hk (Nat.not_le.mpr (listed q).2)
 ·rcases h with h|h
  ·exact g'.lt a h
  ·obtain⟨o,ho⟩:=g.lt a h.1;exact⟨o,(bk a o h.2 ho).2⟩
 ·refine aR (g'.qf a (hR ▸ .inl h)) λo ho f=>?_
  refine aR (g.qf a h) λzz zz f2=>?_;exact⟨o,ho,λq=>q.elim f λq=>f2 q.1⟩
theorem SK.pass{f:List aq->List aq->Sem aq}(P:Pass σ τ0 τ1 l l2 σ')(spec:∀h₀,(∀b o,G.h₀.get? b=aa o->h₀.get? b=aa o)->SK (ext G h₀) f cs0 ks0 τ0 c0 τ1)
  (r6:cs=cK (λj=>eI (d6 l) j σ.n) cs0) (Mn:ks=cK (λj=>eI (d6 l) j σ.n) ks0)
  (hr:c0=ny (λk=>eI (l++l2) k τ1.n) c):SK G f cs ks σ c σ':=λα s vs ws E =>
 rU.pass (C:=λzz=>True) (C0:=λzz=>True) P (λzz zz zz zz=>aE) (λh b α s vs ws E zz=>spec h b α s vs ws E) r6 Mn hr α s vs ws E aE
def ROk(r:Nat->Nat)(σ' τ:St):List (Nat×Nat)->Prop
 |[]=>True
 |(k,j)::l=>(∃ao o,σ'.get k=aa ao/\τ.get j=aa o/\jt r o ao)/\ROk r σ' τ l
theorem ROk.look{r:Nat->Nat}:∀{l:List (Nat×Nat)},ROk r σ' τ1 l->(k,j)∈l->∃ao o,σ'.get k=aa ao/\τ1.get j=aa o/\jt r o ao:=by
 intro l
 induction l with
 |nil=>intro _ h;cases h
 |cons p l ih =>
  intro x h;rcases List.mem_cons.mp h with e|h
  ·cases e;exact x.1
  ·exact ih x.2 h
theorem SK.m7{f:List aq->List aq->Sem aq}(a:ik 0 τ0.n (d6 l)=af)(b:(l.all λp=>(τ0.get p.2).isSome&&cf p.1 σ.n)=af)(c':ik 0 σ.n l=af)(into:zY (λj=>eI (d6 l) j σ.n) σ τ0.objs)
  (hn:σ'.n=σ.n) (keep:∀k ao,σ'.get k=aa ao->(∀j,(k,j) ∉ l)->σ.get k=aa ao) (ro:ROk (λk=>eI l k τ1.n) σ' τ1 l)
  (spec:∀h₀,(∀b o,G.h₀.get? b=aa o->h₀.get? b=aa o)->SK (ext G h₀) f cs0 ks0 τ0 c0 τ1)
  (r6:cs=cK (λj=>eI (d6 l) j σ.n) cs0) (Mn:ks=cK (λj=>eI (d6 l) j σ.n) ks0) (hr:c0=ny (λk=>eI l k τ1.n) c):SK G f cs ks σ c σ':=by
 have e:=bV l;refine SK.pass (l:=l) (l2:=[]) ⟨a,b,by rw[e,hn];exact c',U,hn▸Nat.ble_self_eq_true _,into,λk ao h=>?_⟩ spec r6 Mn (by rw[e];exact hr);rw[e];refine(Classical.em (∃j,(k,j)∈l)).symm.imp (λn=>⟨λj hj=>n ⟨j,hj⟩,keep k ao h λj hj=>n ⟨j,hj⟩⟩) λ⟨j,hj⟩=>?_;refine f5 (ro.look hj) λao' o h1 h2 h3=>?_;cases h1.symm.trans h;have sw:d6 (d6 l)=l:=by unfold d6;rw[f9];exact List.map_id _
 have hk:eI l k τ1.n=j:=by
  have:=Cu (l:=d6 l) (m:=0) (n:=σ.n) (d:=τ1.n) (k:=j) (j:=k) (sw.symm▸c') (List.mem_map.mpr ⟨_,hj,U⟩) λi hi=>qg a hi (List.mem_map.mpr ⟨_,hj,U⟩)
  rwa [sw]at this
 exact⟨o,by rw[hk];exact h2,h3⟩
theorem lM{k0 j0: Nat}{ao0: AO}(h:(k0,j0)∈l)(k:Nat)(ao:AO)(e:(σ.set k0 ao0).get k=aa ao)(n:∀j,(k,j) ∉ l):σ.get k=aa ao:=by
 have e:dh (lU σ.objs k0 ao0) k=aa ao:=e;have ne:k≠k0:=λq=>by cases q;exact n j0 h
 rw[fi,if_neg ne]at e;exact e
end
section
variable{G:Gv}{e:Env}{σ σ1:St}{a b c:CV}{cs:List CV}{x y:Str}{body:Expr}{p pos:Pos}{i l:Nat}{scope:jk}{params:Arguments}
theorem nP{tj: Pos}{c v: aq}:∀(l:List aq),TriplesOk l->iq tj (l++[ey pos.line,ey pos.col,c])=aa v->iq tj l=aa v∨(v=c/\tj.line=pos.line/\tj.col=pos.col):=by
 intro l h e
 fun_induction TriplesOk l with
 |case1 =>
  simp only[List.nil_append,iq,ey]at e
  split at e
  ·rename_i hc
   cases e;simp only[aV,beq_iff_eq]at hc;exact .inr ⟨U,by lia,by lia⟩
  ·cases e
 |case2 a t b u x c8 ih =>
  simp only[kS,iq]at e ⊢
  split
  ·rename_i hc;rw[if_pos hc]at e;exact .inl e
  ·rename_i hc;rw[if_neg hc]at e;exact ih h e
 |case3 l h1 h2=>exact h.elim
theorem a8.nz{c P k: Nat}{clos: List (Str×Nat)}{mg:Str->Option aq}{q:Nat->Nat->Str}(I8:nQ e scope.names []=aa clos)(Kc:e.globals=3)(hg:G.h₀.Ns dk mg)(rO:e.code=.ref c)(C:iA G.h₀ c P)(hb:G.h₀.BuiltinsAt mg P)
  (hm:σ.get k=aa (.tab P q)) (hq:q pos.line pos.col=e.qual++"<lambda>") (abT:autoParam (∀env,defaultsOf params env=([],[])) j2):
  a8 G e (.Lambda params body scope pos) σ (.ref σ.n) (σ.push (.fn ⟨e.qual++"<lambda>",params,body,scope,clos⟩)):=by
 intro α s env E i g;refine dH λlg eS=>?_;obtain⟨P',hP,rfl,ps,eP,ht,rec⟩:=g.own _ _ hm;refine eS ?_;have kp:=λb o eb=>(g.base b o eb).2;refine aR (sA i I8) λcl hc1 hc2=>?_;have hg':=hg.keeps kp;have C':=C.keeps kp;have OP:=g.ow _ _ _ hm hP;have hgP:dk≠P':=λq=>by
  refine B4 (hg) λo es ep eg zz=>?_;exact(g.base _ _ eg).1 (q▸OP)
 have Og:=hb.keeps kp;refine kla_eval (abT env) ?_;rw[i.qual];cases hf:iq pos ps.toList with
 |some cv =>
  refine kla_makeFunctionHit hc1 (i.globals.trans Kc) hg' (i.code.trans rO) C' eP ht hf Og λxx h' tk hk hsz=>?_;have t:=g.same (h':=h') hk tk;refine W.trans t.1 (t.2.tH (ao:=.fn ⟨e.qual++"<lambda>",params,body,scope,clos⟩) (λle=>⟨_,cl,_,cv,xx,aJ _ U,U,(hc2.mono λk=>t.1.le k aE).mono λk=>le.le k aE,?_⟩) tk);have:=rec pos cv hf;rw[hq]at this;exact(this.mono t.1).mono le
 |none =>
  refine kla_makeFunction hc1 (i.globals.trans Kc) hg' (i.code.trans rO) C' eP ht hf hgP Og λc' xx h' tk hx hlo hhi hrc hP'=>?_;have off:kA α h' (.ref c') (e.qual++"<lambda>"):=by
   have nn:s.heap.get? c'=bz:=by
    cases z:s.heap.get? c' with
    |none=>rfl
    |some o=>exact absurd (bx z) (Nat.not_lt.mpr hlo)
   refine⟨hrc,λc2 z=>?_⟩;cases z;exact⟨λh=>(by obtain⟨o,z⟩:=g.lt _ h;rw[nn]at z;cases z),λh=>(by obtain⟨o,z,_⟩:=g.qf _ h;rw[nn]at z;cases z)⟩
  have t:=g.turn (h':=h') (ao':=.tab P' q) hm hP hx (λle=>⟨U,_,hP',by simpa using TriplesOk_snoc pos.line pos.col (.ref c') ps.toList ht,λtj cv Yv=>?_⟩) tk
  ·rw[St.set_same hm]at t
   refine W.trans t.1 (t.2.tH (ao:=.fn ⟨e.qual++"<lambda>",params,body,scope,clos⟩) (λle=>⟨_,cl,_,.ref c',xx,aJ _ U,U,(hc2.mono λk=>t.1.le k aE).mono λk=>le.le k aE,off.mono le⟩) tk)
  ·rw[show(ps++#[ey pos.line,ey pos.col,.ref c']).toList=ps.toList++[ey pos.line,ey pos.col,.ref c'] by simp]at Yv
   rcases nP _ ht Yv with h1|⟨rfl,h2,h3⟩
   ·exact(rec tj cv h1).mono le
   ·rw[h2,h3,hq];exact off
noncomputable def Ee(g:k7)(n:Nat)(cv:aq):Env:=newEnv g.scope n 3 g.clos (g.q++".<locals>.") none cv none 0
theorem SF.nz{n: Nat}{g: k7}{rb: List (Str×CV)}(room:G.A.depth<bA)(gV:G.h₀.NoLimit)(hm:σ.get n=aa (.fn g))
  (kM:∀α s vs cl pm cv xx,di α s.heap cs vs->∃dn,bW s (kla_fn "<lambda>" g.q g.params g.body g.scope cl pm cv xx) ⟨vs,[]⟩ dn/\dn.reverse.map (·.1)=rb.map (·.1)/\di α s.heap (rb.map (·.2)) (dn.reverse.map (·.2)))
  (hk:(rb.all λp=>g.scope.names.lookup p.1==aa .local)=af) (lO:(g.scope.names.all λx=>x.2 != .cell)=af)
  (h:∀env cv,a8 (deep G env) (Ee g σ.n cv) g.body (σ.push (.frame rb)) c σ1) (ze:autoParam (g.scope.isCoroutine=false) iU) (Bx:autoParam (g.scope.isGenerator=false) iU) (oA:autoParam (g.scope.kind=.function) iU):SF G n cs σ c σ1:=by
 intro α s a vs E g0 ha rv;refine dH λlg eS=>?_;obtain⟨a',xX,o,cl,pm,cv,xx,eo,hd,hc,off⟩:=g0.own _ _ hm;cases xX.symm.trans ha;refine eS ?_;refine nJ (kM α s vs cl pm cv xx rv) λdn hb he hv=>?_;have kp:=λb o eb=>(g0.base b o eb).2;refine gA (kla_callFunE room eo hd ze Bx U off.1 (hb _ _ _ _ ?_));refine wpAny_newFunctionEnv (λx hx=>?_) (λx hx=>?_) (λh1 tU hsb=>⟨(gV.keeps kp).fresh _ hsb,kla_codeExpr ?_⟩) oA
 ·have:=List.all_eq_true.mp lO x hx
  intro q;rw[q]at this;cases this
 ·have:x.1∈rb.map (·.1):=he▸List.mem_map.mpr ⟨x,List.mem_reverse.mpr hx,U⟩
  refine aR (List.mem_map.mp this) λy hy e=>?_;rw[←e];exact beq_iff_eq.mp (List.all_eq_true.mp hk y hy)
 ·have t:=g0.more (h':=h1) (ao:=.frame rb) (λb o eb=>hsb.extBut b o (bL (bx eb)) (aC _ eb)) (ez _)
   (λle=>⟨_,tU,λy c hy=>by obtain⟨v,SH,r⟩:=(di.lookup (x:=y) he hv).2 c hy;exact⟨v,SH,r.mono le⟩⟩) (s.toks+dn.length)
  refine iI (h _ cv _ _ _ _ ⟨AM.fQ _ _ _,(hc.mono λk=>t.1.le k aE).sU,U,U,U,U,U⟩ (t.2.deep _)) λβ v s2 x2 g2 r2=>?_;exact⟨β,t.1.trans x2,g2.v7,r2⟩
end
section
set_option backward.match.sparseCases false
variable{G:Gv}{m:Nat}{e:Env}{σ σ1 σ2 σ3 Ae Ux σ6:St}{a b c d:CV}{f:CF}{cs:List CV}{x y:Str}{body:Expr}{pos:Pos}{i l:Nat}{j:Int}{v:aq}
theorem SS.Au{wa: Expr}{body: List Stmt}(I:Nat->St->Prop)(n:Nat)(h0:I n σ)(hb:EB m e=af)
  (turn:∀k σ,I k σ->cS G e wa σ false σ1∨∃τ1 uT σ' k',cS G e wa σ af τ1/\eY G m e body τ1 .next uT/\gN m uT σ'/\k'<k/\I k' σ'):SS G m e (.While wa body [] pos) σ .next σ1:=by
 intro α s env E i g;refine wpAny_While ?_;refine codeAny_whileLoop (λk s'=>∃σ' β,I k σ'/\BU m α s.heap β s'.heap/\GS G β σ' s') (λk s1=>?_) n ⟨σ,α,h0,rm.refl _ _,g⟩;intro U_;refine f5 (U_) λσ' β hI le g1=>?_;have i1:=i.pj le hb;rcases turn k σ' hI with last|⟨τ1,uT,aaa,k',h1,h2,h3,hk,hI'⟩
 ·refine Aq (last β s1 env _ i1 g1) λγ s2 x g2=>?_
  exact wpAny_execs_nil ⟨γ,le.trans x.nj,g2,U⟩
 ·refine Aq (h1 β s1 env _ i1 g1) λγ s2 x g2=>?_
  refine Va (h2 γ s2 env _ (i1.mono x) g2) λδ s3 y g3=>?_;refine aR (h3 G δ s3 g3) λε z g4=>?_;exact⟨k',hk,aaa,ε,hI',((le.trans x.nj).trans y).trans z,g4⟩
theorem nv:bN G (bS .Is) .none .none σ (.bool af) σ:=by
 rintro α s _ _ E g rfl rfl;exact PyProof.Rows.is_none_none (g.here U)
theorem uA:bN G (bS .IsNot) .none .none σ (.bool false) σ:=by
 rintro α s _ _ E g rfl rfl;exact PyProof.Rows.isnot_none_none (g.here U)
noncomputable def gd:CV->Bool
 |.none=>false
 |.val v=>v != .none
 |_=>af
theorem VR.CH{α h v}(r:VR α h c v)(n:gd c=af):v≠.none:=by
 rintro rfl;cases c with
 |none=>cases n
 |bool b=>cases r
 |int i=>obtain⟨t,r⟩:=r;cases r
 |str x=>obtain⟨t,r⟩:=r;cases r
 |tup l=>obtain⟨a,_,_,r,_⟩:=r;cases r
 |ref k=>obtain⟨a,r,_⟩:=r;cases r
 |val v=>cases r;exact absurd n ay
theorem lJ(n:gd c=af):bN G (bS .Is) c .none σ (.bool false) σ:=by
 rintro α s v _ E g r rfl;exact PyProof.Rows.is_none_ne (r.CH n) (g.here U)
theorem uz(n:gd c=af):bN G (bS .IsNot) c .none σ (.bool af) σ:=by
 rintro α s v _ E g r rfl;exact PyProof.Rows.isnot_none_ne (r.CH n) (g.here U)
theorem mF{a b: Bool}:bN G (bS .IsNot) (.bool a) (.bool b) σ (.bool (a != b)) σ:=by
 rintro α s _ _ E g rfl rfl;exact isnot_bool (g.here U)
theorem part_of{i: Option Int}(h:IsPart v i):∃l:Option (Int×Tok),partValue l=v/\l.map (·.1)=i:=by
 cases h with
 |none=>exact⟨none,U,U⟩
 |int i t=>exact⟨aa (i,t),U,U⟩
theorem mZ{lo hi: Option Int}(hf:x.length<=bC):cR G (.str x) lo hi bz σ (.str (fv x lo hi)) σ:=by
 intro α s _ sl E vl vu vk g FA hs p1 p2 p3;refine iH (FA) λt kE=>?_;obtain rfl:=kE;refine⟨⟨_,_,hU _ _ _,PyProof.Rows.slot_str_getitem.lookup⟩,?_⟩;refine aR (part_of p1) λl U6 U5=>?_;obtain rfl:=U6;obtain rfl:=U5;refine aR (part_of p2) λu sL kD=>?_;obtain rfl:=sL;obtain rfl:=kD;cases p3;refine wpAny_getItem_str_slice (l:=l) (u:=u) (st:=bz) hs U ?_;exact post_val_or_str ⟨au (Txt.slice_le x _ _) hf,λt' k=>g.fh ⟨_,U⟩⟩
def pP(G:Gv)(o i v:CV)(σ σ':St):Prop:=∀α s E a b c,GS G α σ s->VR α s.heap o a->VR α s.heap i b->VR α s.heap v c->aH G.M G.A (setItem a b c) (W RU G α s.heap () σ') E s
theorem di.set{α h}(r:VR α h c v):∀{vs} (k:Nat),di α h cs vs->di α h (cs.set k c) (vs.set k v):=by
 induction cs with
 |nil=>rintro _ k rfl;rfl
 |cons d cs ih =>
  intro _ k sN;refine f5 (sN) λw ws kD q qs=>?_;obtain rfl:=kD;cases k with
  |zero=>exact⟨v,ws,U,r,qs⟩
  |succ k=>exact⟨w,_,U,q,ih k qs⟩
theorem yu{xs: List CV}{k: Int}(e:σ.get l=aa (.list xs))(h0:0<=k)(hn:k<xs.length)(hf:xs.length<2^62):pP G (.ref l) (.int k) c σ (σ.set l (.list (xs.set k.toNat c))):=by
 rintro α s E va _ vc g ra ⟨tk,rfl⟩ rc;obtain⟨a,vs,n,rfl,ha,eh,q,sz⟩:=g.getL e ra;have kL:=fitsIndex_of h0 (show k<2^63 by lia);clear hf;have hl:s.heap.IsList a vs.toArray:=⟨_,eh,U,_,U⟩;unfold setItem
 try with_reducible refine aQ ?_
 first|refine ae (av ?_)|skip
 refine ae (wpAny_sequenceKey hl.typeIs ay ?_);refine ae (gU (name:=aF "__setitem__") hl.typeIs slot_list_setitem
  (dT slot_list_setitem hl.typeIs entry_list_setitem ?_ (args_list_setitem _ _ _)))
 show aH _ _ (Builtin.List.listSubscript? (.int k tk) >>= _) _ _ s;refine ae (wpAny_listSubscript_int kL ?_);clear kL;refine dH λM' up1=>?_;obtain⟨j,rfl⟩:=eQ h0;refine up1 ?_;have hj:j<vs.length:=by rw[q.length];lia
 have gt:=g.yw (f:=λa:Array aq=>a.setIfInBounds j vc) (ws:=vs.set j vc) e ha eh (by simp) (q.set rc j) s.toks;have hx':vs.toArray[j]?=aa vs[j]:=by simp[hj]
 show aH _ _ ((seqItemAt a j >>= λr=>pure (r.map (j,·))) >>= _) _ _ s;refine ae (ae (wpAny_seqItemAt eh U (av ?_)));rw[hx'];show aH _ _ (setSeqItemAt a j _ >>= _) _ _ s;have fin:W RU G α s.heap () (σ.set l (.list (xs.set j c))) () {s with heap:=s.heap.update a (cV (·.setIfInBounds j vc))}:=⟨α,gt.1,gt.2,aE⟩;refine ae (wpAny_setSeqItemAt eh U ?_)
 first
  |exact ae (av (av ⟨.none,U,av fin⟩))
  |exact av ⟨.none,U,av fin⟩
theorem SS.TQ{o i value: Expr}{p_ pos: Pos}{op:Operator}{old new: CV}(h1:a8 G e o σ a σ1)(h2:a8 G e i σ1 b σ2)(h3:bN G getItem a b σ2 old σ3)(h4:a8 G e value σ3 c Ae)(h5:bN G (inplaceOp op) old c Ae new Ux)(h6:pP G a b new Ux σ6)
  (hi:autoParam (∀ov iv new,augStore i ov iv new=(do h_ [new,ov,iv] (setItem ov iv new);release [new,ov,iv] [];bO .next)) j2):
  SS G m e (.AugAssign (.Subscript o i p_) op value pos) σ .next σ6:=by
 intro α s env E ei g;refine wpAny_AugAssign_Subscript_any (iI (h1 α s env E ei g) λβ va s1 x1 g1 r1=>?_) hi;refine iI (h2 β s1 env E (ei.mono x1) g1) λγ vb s2 x2 g2 r2=>?_;refine iI (h3 γ s2 va vb E g2 (r1.mono x2) r2) λδ vo s3 x3 g3 r3=>?_;have x13:=(x1.trans x2).trans x3;refine iI (h4 δ s3 env E (ei.mono x13) g3) λε vv s4 x4 g4 r4=>?_;refine iI (h5 ε s4 vo vv E g4 (r3.mono x4) r4) λζ vn s5 x5 g5 r5=>?_;have y:=x4.trans x5;refine E1 (h6 ζ s5 E va vb vn g5 ((r1.mono (x2.trans x3)).mono y) ((r2.mono x3).mono y) r5) λη s6 x6 g6=>?_;exact⟨η,((x13.trans y).trans x6).nj,g6,U⟩
theorem max2{i: Int}(hh:G.A.handled=bz):bM G (λvs=>call (.builtin "max") vs) [.int i,.int j] σ (.int (if j>i then j else i)) σ:=
 QT λα s t u E g=>max_two_ints hh λh' tk hk=>by
  have t:=g.same hk tk;by_cases q:j>i
  ·rw[if_pos q,if_pos q];exact⟨α,t.1,t.2,_,U⟩
  ·rw[if_neg q,if_neg q];exact⟨α,t.1,t.2,_,U⟩
theorem min2{i: Int}(hh:G.A.handled=bz):bM G (λvs=>call (.builtin "min") vs) [.int i,.int j] σ (.int (if j<i then j else i)) σ:=
 QT λα s t u E g=>min_two_ints hh λh' tk hk=>by
  have t:=g.same hk tk;by_cases q:j<i
  ·rw[if_pos q,if_pos q];exact⟨α,t.1,t.2,_,U⟩
  ·rw[if_neg q,if_neg q];exact⟨α,t.1,t.2,_,U⟩
end
section
variable{G:Gv}{e:Env}{σ:St}{a b c d:CV}{cs:List CV}{x:Str}{i l:Nat}{t:Bool}{ds:List PyData}{da db:PyData}
def Rd(G:Gv)(σ:St)(c:CV)(d:PyData):Prop:=∀α s v,GS G α σ s->VR α s.heap c v->∃as,Reads s.heap v d as
def Kf(G:Gv)(σ:St)(cs:List CV)(ds:List PyData):Prop:=∀α s vs,GS G α σ s->di α s.heap cs vs->∃as,ReadsAll s.heap vs ds as
theorem Rd.none:Rd G σ .none .none:=by rintro α s _ g rfl;exact⟨_,.none⟩
theorem Rd.int{i: Int}:Rd G σ (.int i) (.int i):=by rintro α s _ g ⟨t,rfl⟩;exact⟨_,.int i t⟩
theorem Rd.str:Rd G σ (.str x) (.str x):=by rintro α s _ g ⟨t,rfl⟩;exact⟨_,.str x t⟩
theorem Kf.nil:Kf G σ [] []:=by rintro α s _ g rfl;exact⟨_,.nil⟩
theorem Kf.cons{d: PyData}(h:Rd G σ c d)(k:Kf G σ cs ds):Kf G σ (c::cs) (d::ds):=by
 intro α s _ g FG;refine f5 (FG) λv vs sM r q=>?_;obtain rfl:=sM;obtain⟨as,ra⟩:=h α s v g r;obtain⟨bs,rb⟩:=k α s vs g q;exact⟨_,.cons ra rb⟩
theorem Rd.tup(h:Kf G σ cs ds):Rd G σ (.tup cs) (.tuple ds):=by
 intro α s _ g FG;refine B3 (FG) λa vs n x' zz zz e q=>?_;obtain rfl:=x';obtain⟨as,ra⟩:=h α s vs g q;exact⟨as,.tuple e U U (by rw[iQ];exact ra)⟩
theorem Rd.list{k xs}(e:σ.get k=aa (.list xs))(h:Kf G σ xs ds):Rd G σ (.ref k) (.list ds):=by
 intro α s v g r;obtain⟨a,vs,n,rfl,ha,eh,q,sz⟩:=g.getL e r;obtain⟨as,ra⟩:=h α s vs g q;exact⟨_,.list eh U U (by rw[iQ];exact ra)⟩
theorem Kf.map{β:Type}{g:β->CV}{h:β->PyData}(hd:∀b,Rd G σ (g b) (h b))(l:List β):Kf G σ (l.map g) (l.map h):=by
 induction l with
 |nil=>exact .nil
 |cons b l ih=>exact .cons (hd b) ih
theorem vj(ha:Rd G σ a da)(hb:Rd G σ b db)(ca:da.canLay0=af)(cb:db.canLay0=af)(hu:G.A.units+min da.depth db.depth<cLine)(ht:gF da db=t):
  bN G (bS .Eq) a b σ (.bool t) σ:=by
 intro α s v w E g r1 r2;obtain⟨as,ra⟩:=ha α s v g r1;obtain⟨bs,rb⟩:=hb α s w g r2;exact SeqAt.compareEq_reads ra rb ca cb hu (by rw[ht];exact g.here U)
theorem oV(ha:Rd G σ a da)(hb:Rd G σ b db)(ca:da.canLay0=af)(cb:db.canLay0=af)(hu:G.A.units+min da.depth db.depth<cLine)(ht:(!gF da db)=t):
  bN G (bS .NotEq) a b σ (.bool t) σ:=by
 intro α s v w E g r1 r2;obtain⟨as,ra⟩:=ha α s v g r1;obtain⟨bs,rb⟩:=hb α s w g r2;exact SeqAt.neOverData G.prog G.w G.A E s v w da db as bs _ ra rb ca cb hu (by rw[ht];exact g.here U)
theorem AJ{α: AM}{h: Heap}{xs: List Str}:∀{vs:List aq},di α h (xs.map CV.str) vs->StrsAre vs xs:=by
 induction xs with
 |nil=>rintro _ rfl;exact .nil
 |cons x xs ih=>rintro _ ⟨_,ws,rfl,⟨t,rfl⟩,q⟩;exact .cons _ _ (ih q)
end
section
variable{G:Gv}{e:Env}{σ:St}{a b d:CV}{f:CF}{x y:Str}{p pos:Pos}{i l:Nat}
theorem o9(b:Bool)(y:Str)(u:Tok):Gives (dg.«int.__rmul__» ⟨[.bool b,.str y u],[]⟩) (.val (Value.notImplemented)):=
 .of_wp λM A E s Q h=>by obtain⟨hp,g,d,tk,os⟩:=s;wp_walk;exact⟨_,U,h⟩
open Builtin Builtin.Str in
theorem pN(x:Str)(t:Tok)(b:Bool):Gives (dg.«str.__mul__» ⟨[.str x t,.bool b],[]⟩) (if b then .val (.str x t)else .str dy):=by
 cases b
 ·show Gives (do rule "str.__mul__.none";retStr dy) (.str dy)
  exact .rule (.of_eq U)
 ·show Gives (do rule "str.__mul__.unchanged";ret (.str x t)) (.val (.str x t))
  exact .rule (.of_eq U)
theorem nM{b: Bool}:bN G (eB .Mult) (.str x) (.bool b) σ (.str (if b then x else dy)) σ:=by
 intro α s _ _ E g FE FD;refine iH (FE) λt kE=>?_;obtain rfl:=kE;obtain rfl:=FD;refine wpAny_binaryOp_repeat (T:="str") (U:="bool") ay (λs'=>hU s' x t) (λs'=>U) noFill_str_mul PySem.F.fills_bool_mul PySem.F.slot_bool_rmul repeat_str PySem.F.slot_bool_index.lookup
  (call_gives PySem.F.slot_bool_rmul U PySem.F.entry_int_rmul (PySem.F.args_int_rmul_2 _ _) (o9 b x t)
   ⟨U,call_gives PySem.F.slot_str_mul (hU s x t) PySem.F.entry_str_mul (PySem.F.args_str_mul_2 _ _) (pN x t b) ?_⟩)
 cases b
 ·exact⟨by decide,g.fh ⟨_,U⟩⟩
 ·exact g.here ⟨_,U⟩
theorem pJ(x:Str)(t:Tok)(prog:cY)(w:cW):(i3 prog w).is x (.str x t)=af:=by
 show Value.isStrOf x (.str x t)=af;simp[Value.isStrOf]
def KV:List (Str×Int)->List (Str×aq)->Prop
 |[],xT=>xT=[]
 |(x,i)::l,xT=>∃t r,xT=(x,.int i t)::r/\KV l r
theorem KV.keys{l: List (Str×Int)}:∀{xT},KV l xT->xT.map (·.1)=l.map (·.1):=by
 induction l with
 |nil=>rintro _ rfl;rfl
 |cons p l ih=>rintro _ ⟨t,r,rfl,q⟩;exact congrArg (p.1::·) (ih q)
theorem KV.look{l: List (Str×Int)}:∀{xT},KV l xT->(l.lookup x=none->valueAt xT x=none)/\∀i,l.lookup x=aa i->∃t,valueAt xT x=aa (.int i t):=by
 induction l with
 |nil=>rintro _ rfl;exact⟨λzz=>U,λzz h=>nomatch h⟩
 |cons p l ih =>
  obtain⟨y,j⟩:=p;intro _ Fy;refine mU (Fy) λt r pW q=>?_;obtain rfl:=pW;unfold valueAt;rw[a7,List.find?_cons];by_cases h:y=x
  ·rw[beq_iff_eq.mpr h.symm,decide_eq_true h]
   exact⟨λh=>(nomatch h),λi h=>by cases h;exact⟨t,U⟩⟩
  ·rw[beq_eq_false_iff_ne.mpr (Ne.symm h),decide_eq_false h]
   exact ih q
theorem Bc(more:List (Str×aq)):∀(xs:List (Str×aq)),(more.map (·.1)).Nodup->(∀p∈more,∀q∈xs,q.1≠p.1)->merged xs more=xs++more:=by
 induction more with
 |nil=>intro xs _ _;rw[bV];rfl
 |cons p more ih =>
  intro xs hn hd;rw[cn,List.nodup_cons]at hn;have e:stored xs p.1 p.2=xs++[p]:=by
   unfold stored;rw[if_neg];intro h;refine aR (List.any_eq_true.mp h) λq hq e=>?_;exact hd p (.head _) q hq (of_decide_eq_true e)
  show merged (stored xs p.1 p.2) more=_;rw[e,ih _ hn.2 λr hr q hq=>?_,bh];rfl;rcases List.mem_append.mp hq with hq|hq
  ·exact hd r (.tail _ hr) q hq
  ·obtain rfl:=List.mem_singleton.mp hq
   exact λe=>hn.1 (List.mem_map.mpr ⟨r,hr,e.symm⟩)
abbrev DE:Type:=(Str×Nat×Pos)×Int×Nat×Pos
noncomputable def BK(env:Env)(pos:Pos)(q:DE):Sem aq×Sem aq:=(eval (.Constant (.str q.1.1) q.1.2.1 q.1.2.2) env,do let x ←eval (.Constant (.int q.2.1) q.2.2.1 q.2.2.2) env;f6 pos;bO x)
theorem MI{env: Env}{E:aq->aA->Prop}:∀(l:List DE)(s:aA) (Q:List (aq×aq)->aA->Prop),
  (∀xT vs tk,Carries (i3 G.prog G.w) vs xT->KV (l.map λq=>(q.1.1,q.2.1)) xT->Q vs {s with toks:=tk})->aH G.M G.A (evalPairs (l.map (BK env pos))) Q E s:=by
 intro l
 induction l with
 |nil=>intro s Q h;exact evalPairs_nil (h [] [] s.toks aE U)
 |cons q l ih =>
  intro s Q h;refine evalPairs_cons (Calls.Constant_str (ae (wpAny_Constant_int (ae (de (av ?_))))));refine ih _ _ λxT vs tk h1 h2=>?_;exact h ((q.1.1,.int q.2.1 _)::xT) _ tk ⟨pJ _ _ _ _,U,h1⟩ ⟨_,_,U,h2⟩
theorem a8.dict{keys: List (Option Expr)}{FP: List Expr}(l:List DE)(h0:l.isEmpty=false)(hl:dM l.length 15=af)(hn:(l.map λq=>q.1.1).Nodup)
  (hs:autoParam (∀env,(evalEachOpt keys env).zip ((evalEach FP env).map λv=>do let x ←v;f6 pos;bO x)=(l.map (BK env pos)).map λp=>(aa p.1,p.2)) j2):
  a8 G e (.Dict keys FP pos) σ (.ref σ.n) (σ.push (.zy (l.map λq=>(q.1.1,q.2.1)))):=by
 intro α s env E i g;refine wpAny_Dict_pairs (knd:=i3 G.prog G.w) (pairs:=l.map (BK env pos)) (hs env) (λh=>by cases l<;>cases h<;>cases h0) (by rw[aG];exact bw hl) ?_;refine MI l _ _ λxT vs tk h1 h2=>⟨xT,h1,Heap.DictOf.new _,λh' hd hs=>?_⟩;rw[Bc xT [] (by rw[h2.keys,f9];exact hn) (λzz zz zz h=>nomatch h),List.nil_append]at hd;exact g.fresh (ao:=.zy _) (λb ob eb=>(hs.2 b (bL (bx eb))).trans (aC _ eb)) (λle=>⟨_,hd.mapOf,λx=>h2.look⟩) _
theorem GS.getD{α s k f}(g:GS G α σ s)(e:σ.get k=aa (.zy f)){v: aq}(r:VR α s.heap (.ref k) v):∃a F,v=.ref a/\α.O a/\s.heap.MapOf (i3 G.prog G.w) a F/\∀x,(f.lookup x=none->F x=none)/\∀i,f.lookup x=aa i->∃t,F x=aa (.int i t):=by
 refine aR (r) λa ev ha=>?_;refine dH λlg eS=>?_;obtain⟨b,hb,F,hF,q⟩:=g.own _ _ e;cases hb.symm.trans ha;refine eS ?_;exact Aa a F ⟨ev,g.ow _ _ _ e ha,hF,q⟩
theorem tB{k}{f: List (Str×Int)}{t: Bool}(e:σ.get k=aa (.zy f))(hs:(G.h₀.get? sysModules).isSome=af)(ht:(f.lookup x).isSome=t):bN G (bS .In) (.str x) (.ref k) σ (.bool t) σ:=by
 rintro α s _ v E g ⟨u,rfl⟩ r;refine uU (g.getD e r) λa F mV hO hF q=>?_;obtain rfl:=mV;have ns:(a==sysModules)=false:=beq_eq_false_iff_ne.mpr λz=>by
  obtain⟨o,ho⟩:=Option.isSome_iff_exists.mp hs;exact(g.base _ _ ho).1 (z▸hO)
 refine wpAny_in_of (knd:=i3 G.prog G.w) (pJ _ _ _ _) ns hF ?_;have:(F x).isSome=t:=by
  rw[←ht];cases z:f.lookup x with
  |none=>rw[(q x).1 z];rfl
  |some i=>obtain⟨w,hw⟩:=(q x).2 i z;rw[hw];rfl
 rw[this];exact g.fh U
theorem Gd{value slice: Expr}{k}{f: List (Str×Int)}{i: Int}(e:σ.get k=aa (.zy f))(hx:f.lookup x=aa i)(hs:autoParam (∀a b,lV slice false a b=operate [a,b] (getItem a b)) Kh):
  bN G (subscriptTail value slice) (.ref k) (.str x) σ (.int i) σ:=by
 refine AI (T0:="dict") (λα s v g r=>by obtain⟨a,F,rfl,_,hF,_⟩:=g.getD e r;exact hF.typeIs) ⟨_,slot_dict_getitem.lookup⟩ hs ?_;rintro α s v _ E g r ⟨u,rfl⟩;refine uU (g.getD e r) λa F kD zz hF q=>?_;obtain rfl:=kD;obtain⟨w,hw⟩:=(q x).2 i hx;exact wpAny_getItem_of (knd:=i3 G.prog G.w) (pJ _ _ _ _) hF hw (g.fh ⟨_,U⟩)
end
section
variable{G:Gv}{e:Env}{σ:St}{a:CV}
theorem AS{k}{vs:List aq}{n:Nat}{ns:List Int}{lo hi st:Option Int}(e:G.h₀.get? k=aa (fg vs n))(sx:IntsAre vs ns)(h0:st≠aa 0)(hf:ns.length<=bC):
  cR G (.val (.ref k)) lo hi st σ (.ref σ.n) (σ.push (.list (n8 (ns.map .int) lo hi st))):=by
 rintro α s _ sl E vl vu vk g rfl hs p1 p2 p3;have eh:=(g.base _ _ e).2;have q:di α s.heap (ns.map .int) vs:=by
  clear e eh
  induction sx with
  |nil=>rfl
  |cons n t _ ih=>exact⟨_,_,U,⟨t,U⟩,ih (by rw[cL]at hf;exact d2 hf)⟩
 have hl:s.heap.IsList k vs.toArray:=⟨_,eh,U,_,U⟩;refine⟨⟨_,_,hl.typeIs,list_getitem_lookup⟩,wpAny_getItem_list_slice hl hs p1 p2 p3 h0 ?_ (by rw[a_,q.length,aG];exact hf)⟩;rw[j5,q.length];exact g.list (q.pick _) s.toks
noncomputable abbrev om(G:Gv):Gv:={G with A:=G.A.in1}
theorem GS.in1{α s}(g:GS G α σ s):GS (om G) α σ s:=by
 refine⟨λk ao h=>?_,g.ow,g.base,g.inj,g.new,g.lt,g.qf,g.os,g.bare⟩;refine aR (g.own k ao h) λa ha r=>?_;refine⟨a,ha,?_⟩;cases ao<;>exact r
theorem GS.Vt{α s}(g:GS (om G) α σ s):GS G α σ s:=by
 refine⟨λk ao h=>?_,g.ow,g.base,g.inj,g.new,g.lt,g.qf,g.os,g.bare⟩;refine aR (g.own k ao h) λa ha r=>?_;refine⟨a,ha,?_⟩;cases ao<;>exact r
theorem GS.Tu{α σ' s}(g:GS G α σ s)(h:∀k ao,σ'.get k=aa ao->σ.get k=aa ao)(hn:σ.n<=σ'.n):GS G α σ' s:=
 ⟨λk ao e=>g.own k ao (h k ao e),λk ao a e=>g.ow k ao a (h k ao e),g.base,λj k ao ao' a e1 e2=>g.inj j k ao ao' a (h j ao e1) (h k ao' e2),λk hk=>g.new k (au hn hk),g.lt,g.qf,g.os,g.bare⟩
end
section
variable{σ:St}{o o':AO}{k:Nat}
theorem Dw:∀{l:List (Nat×AO)},lU (lU l k o) k o'=lU l k o':=by
 intro l
 induction l with
 |nil=>rfl
 |cons p l ih =>
  obtain⟨j,u⟩:=p;have r:∀(u:AO) (l:List (Nat×AO)) (o:AO),lU ((j,u)::l) k o=match br k j with|true=>(j,o)::l|false=>(j,u)::lU l k o:=λzz zz zz=>U
  rw[r];cases z:br k j with
  |true=>dsimp only;rw[r,r,z]
  |false=>dsimp only;rw[r,r,z,ih]
theorem St.set_set:(σ.set k o).set k o'=σ.set k o':=congrArg (St.mk · σ.n) Dw
end
section
section
variable{prog:cY}{w:cW}{A:bZ}{E:aq->aA->Prop}{s:aA}
structure Zap(z TI TO i1 i2 l:Nat):Prop where
 TIz:TI≠z
 TOz:TO≠z
 i1z:i1≠z
 i2z:i2≠z
 acD:TI≠TO
 acC:TI≠i1
 acB:TI≠i2
 TOi1:TO≠i1
 TOi2:TO≠i2
 i12:i1≠i2
 lz:l≠z
 lTO:l≠TO
 li1:l≠i1
 li2:l≠i2
theorem Fi{z TI TO i1 i2 l:Nat}{k:Nat}{x:Str}{t:Tok}{ys:Array aq}{y a b:aq}{Q:Option aq->aA->Prop}(hh:A.handled=none)(D:Zap z TI TO i1 i2 l)
  (hz:IsZip s.heap z TI TO .none) (Uv:km s.heap TI (.ref i1) (.ref i2)) (hTO:km s.heap TO a b)
  (h1:s.heap.IsStrIter i1 (bj x) x t k) (h2:s.heap.IsListIter i2 l k) (hl:s.heap.IsList l ys) (hx:k<x.cps.size) (hy:ys[k]?=aa y)
  (hQ:∀h' tk u,IsZip h' z TI TO (ey s.heap.objs.size)->km h' TO (.str ⟨#[x.cps.getD k 0]⟩ u) y->h'.IsStrIter i1 (bj x) x t (k+1)->h'.IsListIter i2 l (k+1)->km h' s.heap.objs.size (.str ⟨#[x.cps.getD k 0]⟩ u) y ->
   (∀c o,c≠z->c≠TO->c≠i1->c≠i2->s.heap.get? c=aa o->h'.get? c=aa o)->Q (aa (.ref s.heap.objs.size)) {s with heap:=h',toks:=tk}):
  aH (ba prog w) A (iW (.ref z)) Q E s:=by
 have hT:s.TypeIs (.ref z) "zip":=⟨_,hz,U⟩;unfold iW;refine ae (ij (gU (name:=aF "__next__") hT jV
  (dT jV hT PySem.F.entry_zip_next ?_ (PySem.F.args_zip_next_1 _))))
 show aH _ _ (field (.ref z) 2 >>= _) _ _ _;refine ae (dR hz U (x:=.bool false) U ?_);show aH _ _ (field (.ref z) 3 >>= _) _ _ _;refine ae (dR hz U (x:=.ref TI) U ?_);refine ae (iV Uv U ?_);show aH _ _ (eu (.ref z) >>= _) _ _ _;refine ae ?_;unfold eu;refine ae (dR hz U (x:=.none) U (av ?_));rw[if_pos U];refine ae (fU ?_);refine ae (dR hz U (x:=.ref TO) U ?_);refine ae (j3 hz (by simp) λrZ tS lN=>?_)
 replace tS:IsZip rZ z TI TO .ellipsis:=tS
 refine ae ?_;simp only[List.zipIdx_cons,List.zipIdx_nil,dC,List.forIn_nil];refine ae (ae (wpAny_onRaise ?_));show aH _ _ (jZ (.ref i1) >>= _) _ _ _;refine ae ((zx (prog:=prog) (w:=w) (A:=A.in1) (it:=i1) (x:=x) (t:=t) (show A.in1.handled=none from hh)).item k _ _ _ hx (h1.extBut lN.extBut D.i1z) λv w_ tk hv YL oq=>av ?_);refine mU (hv) λcp u hc Pe=>?_;obtain rfl:=Pe;have ecp:cp=x.cps.getD k 0:=by simp[hx]at hc;simp[hx,hc]
 subst ecp;have Jb:km w_ TO a b:=oq.extBut _ _ D.TOi1 (lN.extBut _ _ D.TOz hTO);refine ae (iV Jb U ?_);refine ae (wpAny_updateSeq_pair Jb λXM Bz qv=>?_)
 replace Bz:km XM TO (.str ⟨#[x.cps.getD k 0]⟩ u) b:=Bz
 refine ae (wpAny_letGo (av ?_));refine ae (ae (wpAny_onRaise ?_));show aH _ _ (jZ (.ref i2) >>= _) _ _ _;refine ae (wpAny_nextOf_list_item (((h2.extBut lN.extBut D.i2z).extBut oq.extBut D.i12.symm).extBut qv.extBut D.TOi2.symm)
  (((hl.extBut lN.extBut D.lz).extBut oq.extBut D.li1).extBut qv.extBut D.lTO) hy λabz YJ y9=>av ?_)
 have Ja:km abz TO (.str ⟨#[x.cps.getD k 0]⟩ u) b:=y9.extBut _ _ D.TOi2 Bz;refine ae (iV Ja U ?_);refine ae (wpAny_updateSeq_pair Ja λqr xj y8=>?_)
 replace xj:km qr TO (.str ⟨#[x.cps.getD k 0]⟩ u) y:=xj
 refine ae (wpAny_letGo (av (av ?_)));refine ae (iV xj U ?_);refine ae (wpAny_newTuple ?_);have hsz:qr.objs.size=s.heap.objs.size:=by rw[y8.1,y9.1,qv.1,oq.1,lN.1]
 have N9:IsZip qr z TI TO .ellipsis:=y8.extBut _ _ D.TOz.symm (y9.extBut _ _ D.i2z.symm (qv.extBut _ _ D.TOz.symm (oq.extBut _ _ D.i1z.symm tS)));have Yc:∀c o,c≠z->c≠TO->c≠i1->c≠i2->s.heap.get? c=aa o->qr.get? c=aa o:=λc o c1 c2 c3 c4 e =>
  y8.extBut _ _ c2 (y9.extBut _ _ c4 (qv.extBut _ _ c2 (oq.extBut _ _ c3 (lN.extBut _ _ c1 e))))
 have YK:qr.IsStrIter i1 (bj x) x t (k+1):=((YL.extBut qv.extBut D.TOi1.symm).extBut y9.extBut D.i12).extBut y8.extBut D.TOi1.symm;have YI:qr.IsListIter i2 l (k+1):=YJ.extBut y8.extBut D.TOi2.symm;have XO:z<qr.objs.size:=bx N9;show aH _ _ (mw (.ref z) (.ref qr.objs.size) >>= _) _ _ _;refine ae ?_;unfold mw;have XN:IsZip (qr.push {cls:=.type "tuple",data:=.seq #[.str ⟨#[x.cps.getD k 0]⟩ u,y]}) z TI TO .ellipsis:=aC _ N9;refine ae (j3 XN (by simp) λaby IY Oa=>?_)
 replace IY:IsZip aby z TI TO (ey qr.objs.size):=IY
 refine j3 IY (by simp) λMh CO N'=>?_
 replace CO:IsZip Mh z TI TO (ey qr.objs.size):=CO
 have up:∀c o,c≠z->qr.get? c=aa o->Mh.get? c=aa o:=λc o c1 e=>N'.extBut _ _ c1 (Oa.extBut _ _ c1 (aC _ e));have Oh:km Mh qr.objs.size (.str ⟨#[x.cps.getD k 0]⟩ u) y:=N'.extBut _ _ (Nat.ne_of_gt XO) (Oa.extBut _ _ (Nat.ne_of_gt XO) (aJ _ U));rw[hsz]at CO Oh;refine av ⟨_,U,av ?_⟩;show Q (aa (.ref qr.objs.size)) _;rw[hsz];refine hQ Mh tk u CO (up _ _ D.TOz xj) ?_ ?_ Oh λc o c1 c2 c3 c4 e=>up c o c1 (Yc c o c1 c2 c3 c4 e)
 ·obtain⟨o,e,r⟩:=YK;exact⟨o,up _ _ D.i1z e,r⟩
 ·obtain⟨o,e,r⟩:=YI;exact⟨o,up _ _ D.i2z e,r⟩
theorem Ku{z TI TO i1 i2 l:Nat}{x:Str}{t:Tok}{a b:aq}{Q:Option aq->aA->Prop}(hh:A.handled=none)(D:Zap z TI TO i1 i2 l)
  (hz:IsZip s.heap z TI TO .none) (Uv:km s.heap TI (.ref i1) (.ref i2)) (hTO:km s.heap TO a b) (h1:s.heap.IsStrIter i1 (bj x) x t x.cps.size)
  (hQ:∀h',(∀c o,c≠z->c≠TO->c≠i1->c≠i2->s.heap.get? c=aa o->h'.get? c=aa o)->Q none {s with heap:=h'}):
  aH (ba prog w) A (iW (.ref z)) Q E s:=by
 have hT:s.TypeIs (.ref z) "zip":=⟨_,hz,U⟩;unfold iW;refine ae (ij (gU (name:=aF "__next__") hT jV
  (dT jV hT PySem.F.entry_zip_next ?_ (PySem.F.args_zip_next_1 _))))
 show aH _ _ (field (.ref z) 2 >>= _) _ _ _;refine ae (dR hz U (x:=.bool false) U ?_);show aH _ _ (field (.ref z) 3 >>= _) _ _ _;refine ae (dR hz U (x:=.ref TI) U ?_);refine ae (iV Uv U ?_);show aH _ _ (eu (.ref z) >>= _) _ _ _;refine ae ?_;unfold eu;refine ae (dR hz U (x:=.none) U (av ?_));rw[if_pos U];refine ae (fU ?_);refine ae (dR hz U (x:=.ref TO) U ?_);refine ae (j3 hz (by simp) λrZ tS lN=>?_)
 replace tS:IsZip rZ z TI TO .ellipsis:=tS
 refine ae ?_;simp only[List.zipIdx_cons,List.zipIdx_nil,dC,List.forIn_nil];refine ae (ae (wpAny_onRaise ?_));show aH _ _ (jZ (.ref i1) >>= _) _ _ _;refine ae ((zx (prog:=prog) (w:=w) (A:=A.in1) (it:=i1) (x:=x) (t:=t) (show A.in1.handled=none from hh)).done _ _ _ (h1.extBut lN.extBut D.i1z) λw_ e oq he=>?_);refine aR (he) λoe hoe hce=>?_;have N_:IsZip w_ z TI TO .ellipsis:=oq _ _ D.i1z.symm tS;have hez:e≠z:=λx=>by subst x;rw[N_]at hoe;cases hoe;simp at hce
 refine j3 N_ (by simp) λXM zz qv=>?_;refine ae (gR (T:="StopIteration") (b:=af) ⟨oe,qv.extBut _ _ hez hoe,hce⟩ isSubtype_stop ?_);exact av (hQ _ λc o c1 zz c3 zz x=>qv.extBut _ _ c1 (oq _ _ c3 (lN.extBut _ _ c1 x)))
noncomputable abbrev KQ(h:Heap)(ty:String)(x:Str)(t:Tok):Heap:=h.push {cls:=.type (ty),data:=.fields #[.str x t,.int 0 0]}
noncomputable abbrev KP(h:Heap)(ty:String)(x:Str)(t:Tok)(l:Nat):Heap:=(KQ h ty x t).push {cls:=.type "list_iterator",data:=.fields #[.ref l,.int 0 0]}
noncomputable abbrev KO(h:Heap)(ty:String)(x:Str)(t:Tok)(l:Nat):Heap:=(KP h ty x t l).push {cls:=.type "tuple",data:=.seq #[.ref h.objs.size,.ref (KQ h ty x t).objs.size]}
noncomputable abbrev KN(h:Heap)(ty:String)(x:Str)(t:Tok)(l:Nat):Heap:=(KO h ty x t l).push {cls:=.type "tuple",data:=.seq #[.none,.none]}
noncomputable abbrev AH(h:Heap)(ty:String)(x:Str)(t:Tok)(l:Nat):Heap:=(KN h ty x t l).push {cls:=.type "zip",data:=.fields #[.none,.bool false,.bool false,.ref (KP h ty x t l).objs.size,.ref (KO h ty x t l).objs.size]}
set_option maxHeartbeats 2000000 in
theorem Fh(ty:String)(x:Str)(t:Tok)(l:Nat)(ys:Array aq)
  (hi:∀{prog:cY}{w:cW}{A:bZ}{E:aq->aA->Prop}{s:aA}{Q:aq->aA->Prop},Q (.ref s.heap.objs.size) {s with heap:=s.heap.push {cls:=.type ty,data:=.fields #[.str x t,.int 0 0]}}->aH (ba prog w) A (fc (.str x t)) Q E s):
  Meets (dg.«zip.__new__» ⟨[.type "zip",.str x t,.ref l],[]⟩) (λzz R s=>s.heap.IsList l ys/\R (.ok (.ret (.ref (KN s.heap ty x t l).objs.size))) {s with heap:=AH s.heap ty x t l}):=
 .of_wp λprog w A R s h=>by
  obtain⟨hp,g,d,tk,os⟩:=s;obtain⟨hl,h⟩:=h;have En:=sub_zip;have hL2:Heap.IsList (Shared.heap ⟨hp.push {cls:=.type (ty),data:=.fields #[.str x t,.int 0 0]},g,d,tk,os⟩) l ys:=Heap.IsList.push hl _
  wp_walk using hi,wpAny_pyIter_list hL2
  exact⟨_,U,h⟩
theorem JG{x:Str}{t:Tok}{l:Nat}{ys:Array aq}{Q:aq->aA->Prop}(hl:s.heap.IsList l ys)
  (h:∀h',IsZip h' (s.heap.objs.size+4) (s.heap.objs.size+2) (s.heap.objs.size+3) .none->km h' (s.heap.objs.size+2) (.ref s.heap.objs.size) (.ref (s.heap.objs.size+1)) ->
   km h' (s.heap.objs.size+3) .none .none->h'.IsStrIter s.heap.objs.size (bj x) x t 0->h'.IsListIter (s.heap.objs.size+1) l 0->h'.objs.size=s.heap.objs.size+5 ->
   (∀c o,s.heap.get? c=aa o->h'.get? c=aa o)->Q (.ref (s.heap.objs.size+4)) {s with heap:=h'}):
  aH (ba prog w) A (call (.type "zip") [.str x t,.ref l]) Q E s:=by
 refine callType_new PySem.F.called_zip ay (PySem.F.typeCall_zip_2 _ _) (PySem.F.newCall_zip_2 _ _) (λZ2=>PySem.F.args_object_init_3 Z2 _ _) PySem.F.entry_zip_new
  (Fh (bj x) x t l ys λh=>wpAny_pyIter_strU h) ⟨hl,?_⟩
 have z1:(KQ s.heap (bj x) x t).objs.size=s.heap.objs.size+1:=fx ..;have z2:(KP s.heap (bj x) x t l).objs.size=s.heap.objs.size+2:=by rw[fx,z1]
 have z3:(KO s.heap (bj x) x t l).objs.size=s.heap.objs.size+3:=by rw[fx,z2]
 have z4:(KN s.heap (bj x) x t l).objs.size=s.heap.objs.size+4:=by rw[fx,z3]
 have z5:(AH s.heap (bj x) x t l).objs.size=s.heap.objs.size+5:=by rw[fx,z4]
 have g5:(AH s.heap (bj x) x t l).get? (KN s.heap (bj x) x t l).objs.size=aa _:=aJ _ U;have g4:(AH s.heap (bj x) x t l).get? (KO s.heap (bj x) x t l).objs.size=aa _:=aC _ (aJ _ U);have g3:(AH s.heap (bj x) x t l).get? (KP s.heap (bj x) x t l).objs.size=aa _:=aC _ (aC _ (aJ _ U));have g2:(AH s.heap (bj x) x t l).get? (KQ s.heap (bj x) x t).objs.size=aa _:=aC _ (aC _ (aC _ (aJ _ U)));have g1:(AH s.heap (bj x) x t l).get? s.heap.objs.size=aa _:=aC _ (aC _ (aC _ (aC _ (aJ _ U))));show _/\_;rw[z2,z3,z4]at g5;rw[z1,z2]at g3;rw[z3]at g4;rw[z1]at g2;rw[z4];exact⟨⟨_,g5,U⟩,h _ g5 g3 g4 ⟨_,g1,U,U⟩ ⟨_,g2,U,U⟩ z5 λc o x =>
  aC _ (aC _ (aC _ (aC _ (aC _ x))))⟩
end
variable{G:Gv}{σ:St}{c:CV}{x:Str}{xs:List CV}{p:Pos}{it pn t i j l k:Nat}{y:aq}
theorem Kt(e:σ.get l=aa (.list xs)):bM G (λvs=>call (.type "zip") vs) [.str x,.ref l] σ (.ref (σ.n+4)) (σ.n6 [.rf x 0,.ix l 0,.pr σ.n (σ.n+1),.two,.zip (σ.n+2) (σ.n+3)]):=by
 refine QS λα s t w E g r=>?_;obtain⟨a,vs,n,rfl,ha,eh,q,sz⟩:=g.getL e r;refine JG (ys:=vs.toArray) ⟨_,eh,U,_,U⟩ λh1 z1 p1 p2 q1 q2 sz1 k1=>?_;refine aR (q1) λo1 e1 k1'=>?_;have u:=g.vy (os:=[.rf x 0,.ix l 0,.pr σ.n (σ.n+1),.two,.zip (σ.n+2) (σ.n+3)]) (h':=h1) (a:=s.heap.objs.size) k1 (λi zz=>by
  cases e:s.heap.get? (s.heap.objs.size+i)with
  |none=>rfl
  |some o=>exact absurd (bx e) (Nat.not_lt.mpr (bg _ _))) (λle i o hi=>?_) s.toks
 ·exact⟨_,u.1,u.2,_,U,AM.d' (i:=4) (bq 4)⟩
 ·cases i with
  |zero=>cases hi;exact⟨t,o1,e1,k1'⟩
  |succ i=>cases i with
   |zero=>cases hi;exact⟨a,le.le _ aE _ ha,q2⟩
   |succ i=>cases i with
    |zero=>cases hi;exact⟨_,_,AM.d' (c:=5) (i:=0) ay,AM.d' (c:=5) (i:=1) ay,p1⟩
    |succ i=>cases i with
     |zero=>cases hi;exact⟨_,_,p2⟩
     |succ i=>cases i with
      |zero=>cases hi;exact⟨_,_,AM.d' (c:=5) (i:=2) ay,AM.d' (c:=5) (i:=3) ay,z1⟩
      |succ i=>cases hi
theorem qe(e:σ.get it=aa (.zip pn t)):dD G fc (.ref it) σ (.ref it) σ:=by
 intro α s _ E g nY;refine aR (nY) λa kE ha=>?_;obtain rfl:=kE;refine dH λlg eS=>?_;obtain⟨a',h1,b,c,_,_,ei⟩:=g.own _ _ e;cases h1.symm.trans ha;refine eS ?_;exact wpAny_pyIter_zip ei (g.here ⟨a,U,ha⟩)
structure ZAt(α:AM)(h:Heap)(x:Str)(xs:List CV)(k a b c d f g:Nat)(tk:Tok)(v w:aq)(vs:List aq)(n:Nat):Prop where
 z:IsZip h a b c .none
 p:km h b (.ref d) (.ref f)
 t:km h c v w
 s:h.IsStrIter d (bj x) x tk k
 l:h.IsListIter f g k
 el:h.get? g=aa (fg vs n)
 q:di α h xs vs
 D:Zap a b c d f g
theorem GS.YY{α s a}(g:GS G α σ s)(e:σ.get it=aa (.zip pn t))(ep:σ.get pn=aa (.pr i j))(et:σ.get t=aa .two)(ei:σ.get i=aa (.rf x k))(ej:σ.get j=aa (.ix l k))(el:σ.get l=aa (.list xs))(ha:α.f it=aa a):
  ∃b c d f m tk v w vs n,α.f t=aa c/\α.f i=aa d/\α.f j=aa f/\α.f l=aa m/\ZAt α s.heap x xs k a b c d f m tk v w vs n:=by
 refine dH λlg eS=>?_;obtain⟨a',h1,b,c,hb,hc,z⟩:=g.own _ _ e;cases h1.symm.trans ha;obtain⟨b',h2,d,f,hd,hf,p⟩:=g.own _ _ ep;cases h2.symm.trans hb;obtain⟨c',h3,v,w,tt⟩:=g.own _ _ et;cases h3.symm.trans hc;obtain⟨tk,si⟩:=g.Mw ei hd;obtain⟨m,vs,n,hm,li,eh,q⟩:=g.BA ej el hf;refine eS ?_;have ne:∀{j k ao ao' a b},σ.get j=aa ao->σ.get k=aa ao'->α.f j=aa a->α.f k=aa b->ao≠ao'->a≠b:=λe1 e2 h1 h2 n q=>by
  have:=g.inj _ _ _ _ _ e1 e2 h1 (q▸h2);rw[this,e2]at e1;exact n (bR e1).symm
 refine aae b c d f m tk v w vs n ⟨hc,hd,hf,hm,z,p,tt,si,li,eh,q,?_⟩;exact⟨ne ep e hb ha (by simp),ne et e hc ha (by simp),ne ei e hd ha (by simp),ne ej e hf ha (by simp),ne ep et hb hc (by simp),ne ep ei hb hd (by simp),ne ep ej hb hf (by simp),ne et ei hc hd (by simp),ne et ej hc hf (by simp),ne ei ej hd hf (by simp),
  ne el e hm ha (by simp),ne el et hm hc (by simp),ne el ei hm hd (by simp),ne el ej hm hf (by simp)⟩
theorem GS.BZ{α s a b c h3}(g:GS G α σ s)(e:σ.get it=aa (.zip pn t))(ha:α.f it=aa a)(z:IsZip s.heap a b c .none)(z3:IsZip h3 a b c .none):OI G α h3 a (.zip pn t):=by
 refine dH λXh3 J_=>?_;obtain⟨a',h1,b1,c1,Uu,hc1,z1⟩:=g.own _ _ e;cases h1.symm.trans ha;have hz:s.heap.get? a=_:=z;rw[z1]at hz;cases hz;refine J_ ?_;exact Aa _ _ ⟨Uu,hc1,z3⟩
theorem GS.Fj{α s a ao}(g:GS G α σ s)(e:σ.get it=aa ao)(ha:α.f it=aa a):s.heap.objs.size≠a:=λz=>by
 obtain⟨o,q⟩:=g.lt _ (g.ow _ _ _ e ha);rw[←z,ez]at q;cases q
theorem GS.BX{α s a c d f h3 ai aj ai' aj'}(g:GS G α σ s)(e:σ.get it=aa (.zip pn t))(et:σ.get t=aa .two)(ei:σ.get i=aa ai)(ej:σ.get j=aa aj)(ha:α.f it=aa a)(hc:α.f t=aa c)(hd:α.f i=aa d)(hf:α.f j=aa f)(nij:i≠j)
  (same:∀b o,b≠a->b≠c->b≠d->b≠f->s.heap.get? b=aa o->h3.get? b=aa o) (oz:OI G α h3 a (.zip pn t)) (ot:OI G α h3 c .two) (o1:OI G α h3 d ai') (o2:OI G α h3 f aj') (tk:Nat):Le α s.heap α h3/\GS G α ((σ.set i ai').set j aj') {s with heap:=h3,toks:=tk}:=by
 have T:=g.goto (σ':=(σ.set i ai').set j aj') (h':=h3) (λq=>q=it∨q=t∨q=i∨q=j) (λzz=>False) U (λq hq=>by rcases hq with rfl|rfl|rfl|rfl<;>exact⟨_,by assumption⟩) (λzz q=>q.elim)
  (λb o nf q=>same b o (λz=>nf it (.inl U) (z▸ha)) (λz=>nf t (.inr (.inl U)) (z▸hc)) (λz=>nf i (.inr (.inr (.inl U))) (z▸hd)) (λz=>nf j (.inr (.inr (.inr U))) (z▸hf)) q) (λzz=>?_) tk
 ·rw[AM.less_none]at T
  exact T
 ·rw[AM.less_none]
  have look:∀q,((σ.set i ai').set j aj').get q=if q=j then aa aj' else if q=i then aa ai' else σ.get q:=λq=>by
   rw[show((σ.set i ai').set j aj').get q=_ from fi j _ q,show dh (σ.set i ai').objs j=_ from fi i _ j,show dh (σ.set i ai').objs q=_ from fi i _ q,if_neg (Ne.symm nij),show dh σ.objs j=_ from ej,show dh σ.objs i=_ from ei];rfl
  refine⟨λq hq u hu zz=>?_,λq o hq=>?_⟩
  ·rcases hq with rfl|rfl|rfl|rfl
   ·cases hu.symm.trans ha;exact oz.live
   ·cases hu.symm.trans hc;exact ot.live
   ·cases hu.symm.trans hd;exact o1.live
   ·cases hu.symm.trans hf;exact o2.live
  ·rw[look]at hq
   by_cases q1:q=j
   ·rw[if_pos q1]at hq;cases hq;exact .inr ⟨.inr (.inr (.inr q1)),f,q1▸hf,id,o2⟩
   ·rw[if_neg q1]at hq
    by_cases q2:q=i
    ·rw[if_pos q2]at hq;cases hq;exact .inr ⟨.inr (.inr (.inl q2)),d,q2▸hd,id,o1⟩
    ·rw[if_neg q2]at hq
     by_cases q3:q=it
     ·rw[q3,e]at hq;cases hq;exact .inr ⟨.inl q3,a,q3▸ha,id,oz⟩
     ·by_cases q4:q=t
      ·rw[q4,et]at hq;cases hq;exact .inr ⟨.inr (.inl q4),c,q4▸hc,id,ot⟩
      ·exact .inl ⟨hq,λz=>z.elim q3 λz=>z.elim q4 λz=>z.elim q2 q1⟩
theorem GS.B0{α s a c d f h' ai aj}(g:GS G α σ s)(e:σ.get it=aa (.zip pn t))(et:σ.get t=aa .two)(ei:σ.get i=aa ai)(ej:σ.get j=aa aj)(ha:α.f it=aa a)(hc:α.f t=aa c)(hd:α.f i=aa d)(hf:α.f j=aa f)
  (same:∀b o,b≠a->b≠c->b≠d->b≠f->s.heap.get? b=aa o->h'.get? b=aa o):W RN G α s.heap () ((((σ.del it).del t).del i).del j) none {s with heap:=h'}:=by
 have T:=g.goto (σ':=(((σ.del it).del t).del i).del j) (h':=h') (λq=>q=it∨q=t∨q=i∨q=j) (λu=>u=a∨u=c∨u=d∨u=f) U (λq hq=>by rcases hq with rfl|rfl|rfl|rfl<;>exact⟨_,by assumption⟩)
  (λu hu=>hu.elim (λz=>⟨it,.inl U,z▸ha⟩) λz=>z.elim (λz=>⟨t,.inr (.inl U),z▸hc⟩) λz=>z.elim (λz=>⟨i,.inr (.inr (.inl U)),z▸hd⟩) λz=>⟨j,.inr (.inr (.inr U)),z▸hf⟩)
  (λb o nf q=>same b o (λz=>nf it (.inl U) (z▸ha)) (λz=>nf t (.inr (.inl U)) (z▸hc)) (λz=>nf i (.inr (.inr (.inl U))) (z▸hd)) (λz=>nf j (.inr (.inr (.inr U))) (z▸hf)) q)
  (λzz=>⟨λq hq u hu n=>?_,λq o h=>?_⟩) s.toks
 ·exact⟨_,T.1,T.2,U⟩
 ·rcases hq with rfl|rfl|rfl|rfl
  ·exact absurd (.inl (bR (hu.symm.trans ha))) n
  ·exact absurd (.inr (.inl (bR (hu.symm.trans hc)))) n
  ·exact absurd (.inr (.inr (.inl (bR (hu.symm.trans hd))))) n
  ·exact absurd (.inr (.inr (.inr (bR (hu.symm.trans hf))))) n
 ·have h1:=gm h
  have h2:=gm h1.2;have h3:=gm h2.2;have h4:=gm h3.2;exact .inl ⟨h4.2,λz=>z.elim h4.1 λz=>z.elim h3.1 λz=>z.elim h2.1 h1.1⟩
theorem GS.BY{α β: AM}{s: aA}{a: Nat}{ao: AO}{h3: Heap}{d: CV}{x: aq}(g:GS G α σ s)(e:σ.get it=aa ao)(ha:α.f it=aa a)(hT:h3.get? s.heap.objs.size=aa (ux [x,y] 0))(r1:VR α h3 c x)(r2:VR α h3 d y):VR α h3 (.tup [c,d]) (.ref s.heap.objs.size):=by
 refine⟨_,[x,y],0,U,λh=>?_,λh=>?_,hT,_,_,U,r1,_,_,U,r2,U⟩
 ·obtain⟨o,q⟩:=g.lt _ h;rw[ez]at q;cases q
 ·obtain⟨o,q,_⟩:=g.qf _ h;rw[ez]at q;cases q
theorem X.zip{kO kk}(hh:G.A.handled=none)(e:σ.get it=aa (.zip pn t))(ep:σ.get pn=aa (.pr i j))(et:σ.get t=aa .two)(ei:σ.get i=aa (.rf x k))(ej:σ.get j=aa (.ix l k))(el:σ.get l=aa (.list xs))(hk:k<x.cps.size)(hx:xs[k]?=aa c):
  eC G (.Tuple kO kk p) it σ (.tup [uZ x k,c]) ((σ.set i (.rf x (k+1))).set j (.ix l (k+1))):=by
 intro α s a E g ha;refine Ft (g.YY e ep et ei ej el ha) λb c' d f m tk v w vs n hc hd hf hm Z=>?_;refine aR (Z.q.get hx) λy hy ry=>?_;refine Fi hh Z.D Z.z Z.p Z.t Z.s Z.l ⟨_,Z.el,U,_,U⟩ hk (y:=y) (by rw[bH];exact hy) λh' Ab u a1 a2 a3 a4 a5 a6=>⟨_,U,λE=>?_⟩;refine wpAny_letOwnedTupleGo_zip a1 λh3 z3 s3=>?_;have s3:gQ a h' h3:=s3;have up:∀c o,c≠a->h'.get? c=aa o->h3.get? c=aa o:=λc o n q=>s3.extBut _ _ n q;have nij:i≠j:=λq=>Z.D.i12 (bR (hd.symm.trans (q▸hf)));have T:=g.BX (h3:=h3) (ai':=.rf x (k+1)) (aj':=.ix l (k+1)) e et ei ej ha hc hd hf nij (λb o n1 n2 n3 n4 q=>up b o n1 (a6 b o n1 n2 n3 n4 q)) (g.BZ e ha Z.z z3) ⟨_,_,up _ _ Z.D.TOz a2⟩
  (by obtain⟨o,e1,r⟩:=a3;exact⟨tk,o,up _ _ Z.D.i1z e1,r⟩) (by obtain⟨o,e1,r⟩:=a4;exact⟨m,hm,o,up _ _ Z.D.i2z e1,r⟩) Ab
 exact⟨α,T.1,T.2,g.BY (β:=α) e ha (up _ _ (g.Fj e ha) a5) ⟨u,U⟩ (ry.mono T.1)⟩
theorem D.zip(hh:G.A.handled=none)(e:σ.get it=aa (.zip pn t))(ep:σ.get pn=aa (.pr i j))(et:σ.get t=aa .two)(ei:σ.get i=aa (.rf x k))(ej:σ.get j=aa (.ix l k))(el:σ.get l=aa (.list xs))(hk:x.cps.size=k):eX G it σ ((((σ.del it).del t).del i).del j):=by
 intro α s a E g ha;refine Ft (g.YY e ep et ei ej el ha) λb c' d f m tk v w vs n hc hd hf hm Z=>?_;exact Ku hh Z.D Z.z Z.p Z.t (hk▸Z.s) λh' k'=>g.B0 e et ei ej ha hc hd hf k'
end
section
section
variable{M:gw}{A:bZ}{E:aq->aA->Prop}{s:aA}
theorem EO{i owner n:String}{self:aq}{c8:List aq}{kw:List (Str×aq)}{Q:Unit->aA->Prop}
  (hk:lZ i=aa .slot∨lZ i=aa .method) (hs:splitId i=aa (owner,n)) (hi:eF M s.heap (dA self (.type owner)) af) (ha:argsOk i ⟨self::c8,kw⟩) (q:Q () s):
  aH M A (checkBuiltinCall i ⟨self::c8,kw⟩) Q E s:=by
 rcases hk with hk|hk <;>
 ·unfold checkBuiltinCall
  rw[hk];dsimp only;rw[hs];refine ae (hi.here ?_);rw[if_neg (show ¬((!af)=af)from aN)];cases abE:eM i with
  |none=>exact av q
  |some Ac =>
   simp only[argsOk,abE]at ha;have h2:j1 i Ac ⟨self::c8,kw⟩=pure ():=ha;show aH M A (j1 i Ac ⟨self::c8,kw⟩) Q E s;rw[h2];exact av q
end
section
variable{prog:cY}{w:cW}{A:bZ}{E:aq->aA->Prop}{s:aA}
theorem qD{id owner n:String}{b:dg}{self:aq}{c8:List aq}{Q:aq->aA->Prop}(hk:lZ id=aa .slot∨lZ id=aa .method)(hs:splitId id=aa (owner,n))(hp:plainId id=af)
  (hi:eF (ba prog w) s.heap (dA self (.type owner)) af) (hb:entryFor g_ id=aa b) (hc:aH (ba prog w) A.in1 (b ⟨self::c8,[]⟩) (λfin s'=>∃v,fin=.done (.ret v)/\Q v s') E s)
  (ha:argsOk id ⟨self::c8,[]⟩):aH (ba prog w) A (call (.builtin id) (self::c8)) Q E s:=by
 refine gA (codeAny_call_builtin hp hb (EO hk hs hi ha (dz hc (λfin s' h'=>?_) λzz zz h'=>h')));obtain⟨v,rfl,hv⟩:=h';exact hv
theorem Bb{K:Frag}{x C:Addr}{ox:Obj}{od:Option Obj}{name:Str}{id:String}{pl:Sem Bool}{Q:aq×List aq->aA->Prop}(X:K.In s.heap)(I:InstAt s.heap x ox C od)
  (Yi:d8 K (.ref C) "__getattribute__"=aa (aa (.builtin "list.__getattribute__"))) (hk:d8 K (.ref C) "__getattr__"=aa none)
  (hf:d8 K (.ref C) name=aa (aa (.builtin id))) (ht:jm K (.builtin id)=aa (.type "method_descriptor")) (hs:shadowIn od name=aa false) (h:Q (.builtin id,[.ref x]) s):
  aH (ba prog w) A (jh (.ref x) name pl) Q E s:=by
 have I9:(Manifest.canonical "list.__getattribute__" != "object.__getattribute__")=false:=by decide +kernel
 unfold jh specialOf;refine ae (ae (I.type.here ((dv X Yi).here ?_)));dsimp only;rw[I9,if_neg ay];refine ae (ae (I.type.here ((dv X hk).here ?_)));refine ae (ae (I.type.here ((dv X hf).here (ae ((looks_typeIn X ht).here ?_)))));rw[if_neg (by decide +kernel)];refine ae (fV I.at_ ?_);have hd:=I.dict;cases e:ox.dict with
 |none=>exact ae (fU (av h))
 |some dx =>
  cases od with
  |none=>rw[e]at hd;exact hd.elim
  |some o =>
   rw[e]at hd;refine aR (Option.map_eq_some_iff.mp hs) λr a b=>?_;refine ae (ae (fV hd ?_));rw[nsLook_of a];refine av ?_;rw[b];exact ae (fU (av h))
theorem Ba{K:Frag}{x C:Addr}{ox:Obj}{od:Option Obj}{name:Str}{f:Addr}{pl:Sem Bool}{Q:aq×List aq->aA->Prop}(X:K.In s.heap)(I:InstAt s.heap x ox C od)
  (Yi:d8 K (.ref C) "__getattribute__"=aa (aa (.builtin "list.__getattribute__"))) (hk:d8 K (.ref C) "__getattr__"=aa none)
  (hf:d8 K (.ref C) name=aa (aa (.ref f))) (ht:jm K (.ref f)=aa (.type "function")) (hs:shadowIn od name=aa false) (h:Q (.ref f,[.ref x]) s):
  aH (ba prog w) A (jh (.ref x) name pl) Q E s:=by
 have I9:(Manifest.canonical "list.__getattribute__" != "object.__getattribute__")=false:=by decide +kernel
 unfold jh specialOf;refine ae (ae (I.type.here ((dv X Yi).here ?_)));dsimp only;rw[I9,if_neg ay];refine ae (ae (I.type.here ((dv X hk).here ?_)));refine ae (ae (I.type.here ((dv X hf).here (ae ((looks_typeIn X ht).here ?_)))));rw[if_neg (by decide +kernel)];refine ae (fV I.at_ ?_);have hd:=I.dict;cases e:ox.dict with
 |none=>exact ae (fU (av h))
 |some dx =>
  cases od with
  |none=>rw[e]at hd;exact hd.elim
  |some o =>
   rw[e]at hd;refine aR (Option.map_eq_some_iff.mp hs) λr a b=>?_;refine ae (ae (fV hd ?_));rw[nsLook_of a];refine av ?_;rw[b];exact ae (fU (av h))
theorem t7{K:Frag}{x C:Addr}{ox:Obj}{od:Option Obj}{name:Str}{v:aq}{expr:Bool}{Q:aq->aA->Prop}(X:K.In s.heap)(I:InstAt s.heap x ox C od)
  (Yi:d8 K (.ref C) "__getattribute__"=aa (aa (.builtin "list.__getattribute__"))) (hk:d8 K (.ref C) "__getattr__"=aa none) (En:mroIn K C (.type "list")=aa af)
  (hf:findObj K C od name=aa (.value v)) (hh:handedIn v=af) (h:Q v {s with toks:=s.toks+1}):aH (ba prog w) A (getAttr (.ref x) name expr) Q E s:=by
 obtain⟨Uq,g,d,t,os⟩:=s;have L0:=I.type (M:=ba prog w);have L1:=dv (M:=ba prog w) X Yi;have L2:=dv (M:=ba prog w) X hk;have L3:=looks_find (M:=ba prog w) X I hf;have L4:eF (ba prog w) Uq (dA (.ref x) (.type "list")) af:=by unfold dA;exact I.type.andThen (iY X En)
 unfold getAttr getAttrBy;refine ae (wpAny_mkText (aQ (ae (L0.at (ae (L1.at ?_))))));show aH _ _ (jP (.ref x) (.str name t) (.ref C) (.builtin "list.__getattribute__") af expr) _ _ _;unfold jP hookBefore callGetattribute boundAndCalled;rw[if_pos (by rfl)];refine ae (L2.at ?_);refine ae (ij (aQ ?_));rw[if_neg (by cases expr<;>decide)];refine ae (cH (PySem.F.slot_list_getattribute.bind _) ?_);refine dz (Q:=λr s'=>r=v/\s'=⟨Uq,g,d,t+1,os⟩) (E:=λzz zz=>False)
  (qD (owner:="list") (n:="__getattribute__") (.inl (by decide +kernel)) (by decide +kernel) (by decide +kernel) L4 PySem.F.entry_list_ga ?_ (PySem.F.args_list_getattribute_2 _ _)) (λr s' hv=>?_) λzz zz z=>z.elim
 ·unfold dg.«object.__getattribute__»
  refine ae (cH (show slotArgs "__getattribute__" 1 ⟨[.ref x,.str name t],[]⟩=bO (b9 x,[.str name t]) by rfl) ?_);dsimp only;refine ae (cH (a:=name) U ?_);refine ae (L0.at (ae (L3.at ?_)));exact av ⟨_,U,U,U⟩
 ·refine dH λM' up1=>?_
  obtain⟨rfl,rfl⟩:=hv;refine up1 ?_;show aH _ _ (handedOut r) _ _ _;rw[handedOut_of hh];exact av h
end
structure Kl(K:Frag)(C:Nat):Prop where
 ga:d8 K (.ref C) "__getattribute__"=aa (aa (.builtin "list.__getattribute__"))
 gn:d8 K (.ref C) "__getattr__"=aa none
 sub:mroIn K C (.type "list")=aa af
variable{G:Gv}{e:Env}{σ σ1 σ2 σ3:St}{a b c:CV}{f:CF}{cs xs:List CV}{x:Str}{pos:Pos}{K:Frag}{n C d:Nat}{ox:Obj}{v:aq}{i:Int}{od:Option Obj}
theorem Kl.inst{M:gw}{h: Heap}{x: Nat}(k:Kl K C)(X:K.In h)(I:InstAt h x ox C od):eF M h (dA (.ref x) (.type "list")) af:=by
 unfold dA;exact I.type.andThen (iY X k.sub)
theorem bD(h:n<=2^20):n<=bC:=by rw[fz];lia
noncomputable abbrev qO(P:ag)(k:Int)(tk t:Tok):Obj:=lh (aF "_initial_size") (gu P (aF "_initial_size")) (.str (aF "_initial_size") tk) (.int k t) ip
inductive PAt(G:Gv)(α:AM)(h:Heap)(n C:Nat)(i:Int)(xs:List CV)(v:aq):Prop
 |mk (a b:Nat) (vs:List aq) (k:Nat) (tk t:Tok) (ev:v=.ref a) (ha:α.f n=aa a) (I:InstAt h a (n7 C b vs k) C (aa (qO G.w.params i tk t))) (q:di α h xs vs):PAt G α h n C i xs v
theorem GS.r7{α s}(g:GS G α σ s)(e:σ.get n=aa (.bT C d xs))(ed:σ.get d=aa (.size i))(r:VR α s.heap (.ref n) v):PAt G α s.heap n C i xs v:=by
 refine aR (r) λa ev ha=>?_;refine dH λlg eS=>?_;obtain⟨a',h1,b,vs,k,hb,eh,q⟩:=g.own _ _ e;cases h1.symm.trans ha;obtain⟨b',h2,tk,t,ed⟩:=g.own _ _ ed;cases h2.symm.trans hb;refine eS ?_;exact⟨a,b,vs,k,tk,t,ev,ha,⟨eh,U,U,ed⟩,q⟩
theorem GS.Qk{α s a b k xs ys vs ws}{f:Array aq->Array aq}(g:GS G α σ s)(e:σ.get n=aa (.bT C d xs))(ha:α.f n=aa a)(eh:s.heap.get? a=aa (n7 C b vs k))(hf:f vs.toArray=ws.toArray)(r:di α s.heap ys ws)(tk:Nat):
  Le α s.heap α (s.heap.update a (cV f))/\GS G α (σ.set n (.bT C d ys)) {s with heap:=s.heap.update a (cV f),toks:=tk}:=by
 refine dH λlg eS=>?_;obtain⟨a',h1,b',vs',k',hb,Th,q⟩:=g.own _ _ e;cases h1.symm.trans ha;refine eS ?_;have hj:∃j,cV f (n7 C b vs k)=n7 C b ws j:=by
  unfold cV;exact⟨_,by simp only[n7,hf];rfl⟩
 refine iH (hj) λj hj=>?_;have eb:b=b':=by rw[eh]at Th;cases Th;rfl
 have sb:=fR s.heap a (cV f);exact g.turn (ao':=.bT C d ys) e ha (λb o hb eo=>(sb.2 b hb).trans eo) (λle=>⟨b,ws,j,eb▸hb,(d_ _ eh (by rw[hj];rfl)).trans (by rw[hj]),r.mono le⟩) tk
theorem yB(k:Kl K C)(X:K.In G.h₀)(e:σ.get n=aa (.bT C d xs))(ed:σ.get d=aa (.size i))(hf:xs.length<2^20):bM G (λvs=>call (.builtin "list.append") vs) [.ref n,c] σ .none (σ.set n (.bT C d (xs++[c]))):=by
 rintro α s _ E g ⟨v,_,rfl,r,w,_,rfl,r2,rfl⟩;obtain⟨a,b,vs,j,tk,t,rfl,ha,I,q⟩:=g.r7 e ed r;have X':K.In s.heap:=X.keeps λb o eb=>(g.base b o eb).2;have u:=g.Qk (f:=(·.push w)) (ws:=vs++[w]) e ha I.at_ (jW ..) (q.append (.one r2)) s.toks;refine qD (owner:="list") (n:="append") (.inr (by decide +kernel)) (by decide +kernel) (by decide +kernel) (k.inst X' I) PySem.F.entry_list_append ?_ (PySem.F.args_list_append_2 _ _);unfold dg.«list.append»;refine ae (cH (show selfAndOne "list.append" ⟨[.ref a,w],[]⟩=bO (b9 a,w) by rfl) ?_);refine ae (il I.at_ U ?_ (by have:=q.length;simp;exact bD (by lia)) (by have:=q.length;simp;rw[fz];lia));exact av ⟨_,U,α,u.1,u.2,U⟩
theorem shadow(P:ag)(i:Int)(tk t:Tok):shadowIn (aa (qO P i tk t)) (aF "push")=aa false/\shadowIn (aa (qO P i tk t)) (aF "pop")=aa false /\
  shadowIn (aa (qO P i tk t)) (aF "part_count")=aa false/\shadowIn (aa (qO P i tk t)) (aF "append")=aa false:=⟨ak,ak,ak,ak⟩
variable{o:Expr}{name:Str}{jJ:Pos}{args:List Expr}
theorem a8.wN{i: Int}{fa: Nat}{of: Obj}{fd: cO}{pl:Env->Sem Bool}(k:Kl K C)(X:K.In G.h₀)(hf:d8 K (.ref C) name=aa (aa (.ref fa)))(ht:jm K (.ref fa)=aa (.type "function"))(ho:G.h₀.get? fa=aa of)(hdf:of.data=.func fd)
  (h1:a8 G e o σ (.ref n) σ1) (en:σ1.get n=aa (.bT C d xs)) (ed:σ1.get d=aa (.size i)) (hs:∀tk t,shadowIn (aa (qO G.w.params i tk t)) name=aa false) (h2:jK G e pos args σ1 cs σ2) (h3:bM G (λvs=>call (.ref fa) vs) (.ref n::cs) σ2 c σ3)
  (he:autoParam (∀env,eval (.Call (.Attribute o name jJ) args [] pos) env=(do
   let ov ←eval o env
   f6 jJ.atName
   let(f,first) ←h_ [ov] (jh ov name (pl env))
   callWith pos f first (j8 pos (eA args env)) [])) j2):a8 G e (.Call (.Attribute o name jJ) args [] pos) σ c σ3:=by
 intro α s env E ei g;refine fw (pl:=pl env) (iI (h1 α s env E ei g) λβ v s1 l1 g1 r1=>?_) (he env);obtain⟨a,b,vs,j,tk,t,rfl,ha,I,q⟩:=g1.r7 en ed r1;refine Ba (X.keeps λb o eb=>(g1.base b o eb).2) I k.ga k.gn hf ht (hs tk t) ?_;refine nI (o:=of) (fd:=fd) (c_ h2.1 (iI (h2.2 β s1 env E (ei.mono l1) g1) λγ vs s2 l2 g2 r2=>?_));exact⟨⟨(g2.base _ _ ho).2,hdf⟩,wQ (h3 γ s2 (.ref a::vs) E g2 ⟨_,_,U,⟨a,U,l2.le _ aE _ ha⟩,r2⟩) λzz zz w=>w.trans (l1.trans l2)⟩
theorem a8.LR{i: Int}{id:String}{pl:Env->Sem Bool}(k:Kl K C)(X:K.In G.h₀)(hf:d8 K (.ref C) name=aa (aa (.builtin id)))(ht:jm K (.builtin id)=aa (.type "method_descriptor"))
  (h1:a8 G e o σ (.ref n) σ1) (en:σ1.get n=aa (.bT C d xs)) (ed:σ1.get d=aa (.size i)) (hs:∀tk t,shadowIn (aa (qO G.w.params i tk t)) name=aa false) (h2:jK G e pos args σ1 cs σ2) (h3:bM G (λvs=>call (.builtin id) vs) (.ref n::cs) σ2 c σ3)
  (he:autoParam (∀env,eval (.Call (.Attribute o name jJ) args [] pos) env=(do
   let ov ←eval o env
   f6 jJ.atName
   let(f,first) ←h_ [ov] (jh ov name (pl env))
   callWith pos f first (j8 pos (eA args env)) [])) j2):a8 G e (.Call (.Attribute o name jJ) args [] pos) σ c σ3:=by
 intro α s env E ei g;refine fw (pl:=pl env) (iI (h1 α s env E ei g) λβ v s1 l1 g1 r1=>?_) (he env);obtain⟨a,b,vs,j,tk,t,rfl,ha,I,q⟩:=g1.r7 en ed r1;refine Mine.Internal.Bb (X.keeps λb o eb=>(g1.base b o eb).2) I k.ga k.gn hf ht (hs tk t) ?_;refine dW (plain_any h2.1) (c_ h2.1 (iI (h2.2 β s1 env E (ei.mono l1) g1) λγ vs s2 l2 g2 r2=>?_));exact wQ (h3 γ s2 (.ref a::vs) E g2 ⟨_,_,U,⟨a,U,l2.le _ aE _ ha⟩,r2⟩) λzz zz w=>w.trans (l1.trans l2)
end
section
set_option maxHeartbeats 2000000
theorem CI:Slot "method_descriptor" "__get__" "method_descriptor.__get__" :=
 .of (owner:="method_descriptor") (n:="__get__") (by rw[typeLookup_type,builtinLookup_eq_fast];kernel_rfl) (by decide +kernel) (by decide +kernel) (by decide +kernel)
  (by first|exact .inl (by decide +kernel)|exact .inr (by decide +kernel)) (by rw[kW];kernel_rfl)
theorem Iq:entryFor g_ "method_descriptor.__get__"=aa dg.«method_descriptor.__get__»:=entryFor_of_tree ak
theorem LS(a b c:aq):argsOk "method_descriptor.__get__" ⟨[a,b,c],[]⟩:=by unfold argsOk;kernel_rfl
theorem sd:Slot "wrapper_descriptor" "__get__" "wrapper_descriptor.__get__" :=
 .of (owner:="wrapper_descriptor") (n:="__get__") (by rw[typeLookup_type,builtinLookup_eq_fast];kernel_rfl) (by decide +kernel) (by decide +kernel) (by decide +kernel)
  (by first|exact .inl (by decide +kernel)|exact .inr (by decide +kernel)) (by rw[kW];kernel_rfl)
theorem yb:entryFor g_ "wrapper_descriptor.__get__"=aa dg.«wrapper_descriptor.__get__»:=entryFor_of_tree ak
theorem B7(a b c:aq):argsOk "wrapper_descriptor.__get__" ⟨[a,b,c],[]⟩:=by unfold argsOk;kernel_rfl
theorem Lk:(kfb_private% "ownerAndName") "list.pop"=("list","pop"):=by first|decide +kernel|kernel_rfl
theorem Ll:(kfb_private% "ownerAndName") "list.__len__"=("list","__len__"):=by first|decide +kernel|kernel_rfl
theorem G6:(kfb_private% "ownerAndName") "list.__init__"=("list","__init__"):=by first|decide +kernel|kernel_rfl
noncomputable abbrev mK(bt id:String)(x:Nat):Obj:={cls:=.type bt,data:=.fields #[.builtin id,.ref x]}
section
variable{M:gw}{A:bZ}{E:aq->aA->Prop}{s:aA}
theorem Qq{id n:String}{x C:Nat}{P:PySem.Fin->aA->Prop}(hnt:Manifest.toldItsClass.contains id=false)(SM:(kfb_private% "ownerAndName") id=("list",n))(hi:eF M s.heap (dA (.ref x) (.type "list")) af)
  (h:P (.done (.ret (.ref s.heap.objs.size))) {s with heap:=s.heap.push (mK "builtin_function_or_method" id x)}):
  aH M A (dg.«method_descriptor.__get__» ⟨[.builtin id,.ref x,.ref C],[]⟩) P E s:=by
 unfold dg.«method_descriptor.__get__»;refine ae (cH (a:=(Value.builtin id,aa (b9 x),aa (b9 C))) (by first|rfl|kernel_rfl) ?_);dsimp only;rw[hnt];rw[if_neg aN];show aH M A ((kfb_private% "checkInstance") (.builtin id) (.ref x) >>= λzz=>newFields "builtin_function_or_method" [.builtin id,.ref x] >>= λr=>ret r) P E s;show aH M A (((let(owner,name):=(kfb_private% "ownerAndName") id;bO (name,cx owner):Sem (Str×aq)) >>= _) >>= _) P E s;rw[SM];refine ae (ae (av ?_));dsimp only;refine ae (hi.here ?_);rw[if_neg (show ¬((!af)=af)from aN)];refine av (ae (d7 (av h)))
theorem GC{id n:String}{x C:Nat}{P:PySem.Fin->aA->Prop}(SM:(kfb_private% "ownerAndName") id=("list",n))(hi:eF M s.heap (dA (.ref x) (.type "list")) af)
  (h:P (.done (.ret (.ref s.heap.objs.size))) {s with heap:=s.heap.push (mK "method-wrapper" id x)}):
  aH M A (dg.«wrapper_descriptor.__get__» ⟨[.builtin id,.ref x,.ref C],[]⟩) P E s:=by
 unfold dg.«wrapper_descriptor.__get__»;refine ae (cH (a:=(Value.builtin id,aa (b9 x),aa (b9 C))) (by first|rfl|kernel_rfl) ?_);dsimp only;show aH M A ((kfb_private% "checkInstance") (.builtin id) (.ref x) >>= λzz=>newFields "method-wrapper" [.builtin id,.ref x] >>= λr=>ret r) P E s;show aH M A (((let(owner,name):=(kfb_private% "ownerAndName") id;bO (name,cx owner):Sem (Str×aq)) >>= _) >>= _) P E s;rw[SM];refine ae (ae (av ?_));dsimp only;refine ae (hi.here ?_);rw[if_neg (show ¬((!af)=af)from aN)];refine av (ae (d7 (av h)))
end
section
variable{prog:cY}{w:cW}{A:bZ}{E:aq->aA->Prop}{h:Heap}{g:Array GenState}{d:Drawn}{t:Nat}{os:dc}
theorem wc{so D x C:Addr}{l₀ l:List aq}{K:Frag}{name:Str}{tk:Tok}{id Tn Om:String}{bo:Obj}{Q:PySem.Fin->aA->Prop}
  (Uk:h.get? so=aa {cls:=.type "super",dict:=none,data:=.fields #[.ref D,.ref x,.ref C],slots:=#[]}) (hno:eF (ba prog w) h (opaqueClassAbove (.ref C)) none)
  (hC:eF (ba prog w) h (mroOf (.ref C)) l₀) (hl:(l₀.dropWhile (· != .ref D)).drop 1=l) (X:K.In h)
  (hf:alongIn K name l=aa (aa (.builtin id))) (hT:∀s:aA,s.TypeIs (.builtin id) Tn) (hlk:typeLookup (.type Tn) "__get__"=pure (aa (.builtin Om))) (XS:x≠C) (hn:(name==("__class__":Str))=false)
  (tW:∀(A:bZ)(Q:aq->aA->Prop)(E:aq->aA->Prop),Q (.ref h.objs.size) ⟨h.push bo,g,d,t,os⟩->aH (ba prog w) A (call (.builtin Om) [.builtin id,.ref x,.ref C]) Q E ⟨h,g,d,t,os⟩)
  (hq:Q (.done (.ret (.ref h.objs.size))) ⟨h.push bo,g,d,t,os⟩):
  aH (ba prog w) A (dg.«super.__getattribute__» ⟨[.ref so,.str name tk],[]⟩) Q E ⟨h,g,d,t,os⟩:=by
 have su:(b9 x==b9 C)=false:=by simp[XS]
 have hTf:=hT ⟨h,g,d,t,os⟩;have hdt:({cls:=.type "super",dict:=none,data:=.fields #[.ref D,.ref x,.ref C],slots:=#[]}:Obj).data=.fields #[.ref D,.ref x,.ref C]:=U;have f0:(#[.ref D,.ref x,.ref C]:Array aq)[0]?=aa (.ref D):=U;have f1:(#[.ref D,.ref x,.ref C]:Array aq)[1]?=aa (.ref x):=U;have f2:(#[.ref D,.ref x,.ref C]:Array aq)[2]?=aa (.ref C):=U;unfold dg.«super.__getattribute__»
 repeat (first
  |(with_reducible refine dR Uk hdt f0 ?_)|(with_reducible refine dR Uk hdt f1 ?_)|(with_reducible refine dR Uk hdt f2 ?_)
  |(with_reducible refine ks_wpAny_notOpaque hno ?_)
  |(with_reducible refine Looks.at hC ?_;rw[hl])
  |(refine ks_forIn_along X (λzz zz=>U) U ?_ hf)
  |(with_reducible refine wpAny_typeOf hTf ?_)
  |(with_reducible refine tW _ _ _ ?_)
  |(simp only[hn,su,Bool.or_false,dG,if_false])
  |wp_step
  |dsimp only)
 all_goals exact hq
theorem o_{so D x C:Addr}{l₀ l:List aq}{K:Frag}{name:Str}{id Tn Om:String}{bo:Obj}{pl:Sem Bool}{Q:aq×List aq->aA->Prop}
  (Uk:h.get? so=aa {cls:=.type "super",dict:=none,data:=.fields #[.ref D,.ref x,.ref C],slots:=#[]}) (hno:eF (ba prog w) h (opaqueClassAbove (.ref C)) none)
  (hC:eF (ba prog w) h (mroOf (.ref C)) l₀) (hl:(l₀.dropWhile (· != .ref D)).drop 1=l) (X:K.In h)
  (hf:alongIn K name l=aa (aa (.builtin id))) (hT:∀s:aA,s.TypeIs (.builtin id) Tn) (hlk:typeLookup (.type Tn) "__get__"=pure (aa (.builtin Om))) (XS:x≠C) (hn:(name==("__class__":Str))=false)
  (tW:∀(t:Nat)(A:bZ)(Q:aq->aA->Prop)(E:aq->aA->Prop),Q (.ref h.objs.size) ⟨h.push bo,g,d,t,os⟩->aH (ba prog w) A (call (.builtin Om) [.builtin id,.ref x,.ref C]) Q E ⟨h,g,d,t,os⟩)
  (hq:Q (.ref h.objs.size,[]) ⟨h.push bo,g,d,t+1,os⟩):
  aH (ba prog w) A (jh (.ref so) name pl) Q E ⟨h,g,d,t,os⟩:=by
 have Ya:=F.ks_slot_super_ga.lookup;have I9:=F.ks_canon_super_ga;have hT':∀t',(⟨h,g,d,t',os⟩:aA).TypeIs (.ref so) "super":=λzz=>⟨_,Uk,U⟩;unfold jh;refine ae (jN (hT' _) Ya ?_);show aH _ _ (if(Manifest.canonical "super.__getattribute__" != "object.__getattribute__")=af then _ else _) _ _ _;rw[if_pos I9];unfold getAttr getAttrBy;refine ae (ae (wpAny_mkText (aQ (ae (wpAny_typeOf (hT' _) (ae (cH Ya ?_)))))));show aH _ _ (jP (.ref so) (.str name t) (.type "super") (.builtin "super.__getattribute__") af false) _ _ _;unfold jP hookBefore callGetattribute boundAndCalled;refine ae (cH (show(if onTheHeap (.type "super")then typeLookup (.type "super") "__getattr__" else pure none)=pure none from U) ?_);refine ae (ij (aQ ?_));show aH _ _ (bindSpecial (.builtin "super.__getattribute__") (.ref so) >>= _) _ _ _;refine ae (cH (F.ks_slot_super_ga.bind _) ?_);refine dz (Q:=λv s'=>v=.ref h.objs.size/\s'=⟨h.push bo,g,d,t+1,os⟩) (E:=λzz zz=>False)
  (dT F.ks_slot_super_ga (hT' _) F.ks_entry_super_ga (wc Uk hno hC hl X hf hT hlk XS hn (tW _) ⟨_,U,U,U⟩) (F.ks_gaArgs_super _ _)) (λv s' hv=>?_) λzz zz z=>z.elim
 obtain⟨rfl,rfl⟩:=hv;exact av (av hq)
end
section
variable{M:gw}{A:bZ}{E:aq->aA->Prop}{s:aA}
theorem xD{pos:Pos}{u x:Nat}{bt id:String}{first:List aq}{args:List (Bool×Sem aq)}{Q:aq->aA->Prop}(SV:bt="builtin_function_or_method"∨bt="method-wrapper")(SJ:args.any (·.1)=false)
  (h:aH M A (evalArgs (.ref u) af args []) (λy cZ=>cZ.heap.get? u=aa (mK bt id x)/\aH M A (call (.ref u) (first++y.pos) y.kw) Q E cZ) E s):aH M A (callWith pos (.ref u) first args []) Q E s:=by
 unfold callWith;refine ae (aQ (dz h (λx cZ rZ=>ae (de ?_)) λzz zz x=>x));obtain⟨ho,tW⟩:=rZ;rw[SJ];refine ae (m:=keeperOf (.ref u)) ?_;unfold keeperOf;refine ae (wpAny_load ho ?_);refine cH (a:=Keeper.machine) (by rcases SV with rfl|rfl<;>kernel_rfl) ?_;exact ae (wQ tW λr ie hr=>ae (aQ (wpAny_point (av hr))))
end
section
variable{prog:cY}{w:cW}{A:bZ}{E:aq->aA->Prop}{s:aA}
theorem JH{u x:Nat}{bt id:String}{b:dg}{Q:aq->aA->Prop}(SV:bt="builtin_function_or_method"∨bt="method-wrapper")(ho:s.heap.get? u=aa (mK bt id x))(hp:plainId id=af)(hb:entryFor g_ id=aa b)
  (hc:eF (ba prog w) s.heap (fX id ⟨[.ref x],[]⟩) ())
  (h:aH (ba prog w) A.in1 (b ⟨[.ref x],[]⟩) (λfin s'=>∃v,fin=.done (.ret v)/\Q v s') E s):aH (ba prog w) A (call (.ref u) []) Q E s:=by
 refine gA (codeAny_of_tree ?_);show aH _ _ (callAny (.ref u) _) _ _ _;unfold callAny;refine ae (wpAny_load ho ?_);have Yx:((cx bt==cx "method") || (cx bt==cx "builtin_function_or_method") || (cx bt==cx "method-wrapper"))=af:=by rcases SV with rfl|rfl<;>decide
 have su:(cx bt != cx "method")=af:=by rcases SV with rfl|rfl<;>decide
 show aH _ _ (if((cx bt==cx "method") || (cx bt==cx "builtin_function_or_method") || (cx bt==cx "method-wrapper"))=af then _ else _) _ _ _;rw[if_pos Yx];show aH _ _ (if(cx bt != cx "method")=af then(fX id ⟨[.ref x],[]⟩ >>= λzz=>again (.builtin id ⟨[.ref x],[]⟩) >>= λr=>bO r)else _) _ _ _;rw[if_pos su];refine ae (hc.here ?_);refine av ⟨lR hp _,mJ hb ?_⟩;rw[fT hp _];refine dz h (λfin s' hf=>?_) λzz zz e=>e;refine aR (hf) λv An hv=>?_;obtain rfl:=An;exact hv
end
theorem MP{x C:Nat}{K:Frag}{M:gw}{h:Heap}{ox:Obj}{od:Option Obj}{cd:ClassData}(X:K.In h)(I:InstAt h x ox C od)(abM:mroIn K C (.type "module")=aa false)(hc:clsIn K C=aa cd)(hT:jm K (.ref C)=aa (.type "type"))
  (ha:∀Ac,eM "list.pop"=aa Ac->j1 "list.pop" {Ac with full:=s!"{cd.qualname.toString}.{Bind.lastOf "list.pop"}"} ⟨[.ref x],[]⟩=bO ()):eF M h (fX "list.pop" ⟨[.ref x],[]⟩) ():=by
 unfold fX;cases hs:eM "list.pop" with
 |none=>exact .now
 |some Ac =>
  dsimp only;rw[show lZ "list.pop"=aa .method by decide +kernel];dsimp only;rw[if_neg ay];have L1:eF M h (dA (.ref x) (.type "module")) false:=by unfold dA;exact I.type.andThen (iY X abM)
  refine L1.andThen ?_;rw[if_neg (by decide +kernel)];have L2:eF M h (isType (.ref x)) false:=by
   intro A Q E s k q;obtain⟨hp,g,d,t,os⟩:=s;refine ks_wpAny_isType_inst (k _ _ I.at_) (λc e=>?_) q;have:=I.no;unfold notCls at this;rw[e]at this;cases this
  refine L2.andThen ?_;rw[if_neg ay];refine I.type.andThen ?_;dsimp only;refine(looks_clsIn X hc).andThen ((looks_typeIn X hT).andThen ?_);rw[if_pos ay];exact Looks.of_pure (ha Ac hs)
variable{G:Gv}{σ:St}{c:CV}{xs:List CV}{n C d:Nat}{i:Int}
def Run(G:Gv)(n:Nat)(b:dg)(σ:St)(c:CV)(σ':St):Prop:=∀A α s a E,GS G α σ s->α.f n=aa a->aH G.M A (b ⟨[.ref a],[]⟩) (λfin s'=>∃v,fin=.done (.ret v)/\W VR G α s.heap c σ' v s') E s
theorem K9(e:σ.get n=aa (.bT C d (xs++[c])))(ed:σ.get d=aa (.size i))(hf:xs.length<2^20):Run G n dg.«list.pop» σ c (σ.set n (.bT C d xs)):=by
 intro A α s a E g ha;refine dH λlg eS=>?_;obtain⟨a',b,ws,j,tk,t,ev,xX,I,q⟩:=g.r7 e ed ⟨a,U,ha⟩;cases ev;have hl:=q.length;rw[aB,kQ]at hl;obtain⟨pU,v,rfl⟩:∃pU v,ws=pU++[v]:=by
  have:ws≠[]:=by intro h;rw[h]at hl;cases hl
  exact Aa ws.dropLast (ws.getLast this) ((List.dropLast_concat_getLast this).symm)
 refine eS ?_;have Oc:pU.length=xs.length:=by rw[aB,kQ]at hl;exact Nat.succ.inj hl
 have r1:=q.take xs.length;have r2:=q.drop xs.length;rw[List.take_left' U,List.take_left' Oc]at r1;rw[List.drop_left' U,List.drop_left' Oc]at r2;refine f5 (r2) λzz zz e3 rv Ao=>?_;obtain rfl:=Ao;cases e3;have u:=g.Qk (f:=(·.eraseIdxIfInBounds pU.length)) (ws:=pU) (ys:=xs) e ha I.at_ (by
  apply Array.toList_inj.mp;simp[jH]) r1 s.toks
 unfold dg.«list.pop»;refine ae (cH (show selfAndSome "list.pop" "pop" 0 1 ⟨[.ref a],[]⟩=bO (b9 a,[]) by rfl) ?_);refine ae (av ?_);dsimp only;rw[show cG (-1)=af from U];rw[if_neg (show ¬((!af)=af)from aN)];refine ae (listItems_at I.at_ U ?_);have hi:((lE (-1) (pU++[v]).toArray.size).bind λk=>(pU++[v]).toArray[k]?.map (k,·))=aa (pU.length,v):=by
  have:lE (-1) (pU++[v]).toArray.size=aa pU.length:=by
   unfold lE;simp;lia
  rw[this];simp
 rw[if_neg (by simp),hi];refine ae (il I.at_ U ?_ (by simp at hl ⊢;exact bD (by lia)) (by simp[jH];rw[fz];simp at hl;lia));exact av ⟨_,U,α,u.1,u.2,rv.mono u.1⟩
theorem K_(e:σ.get n=aa (.bT C d xs))(ed:σ.get d=aa (.size i)):Run G n dg.«list.__len__» σ (.int xs.length) σ:=by
 intro A α s a E g ha;refine dH λlg eS=>?_;obtain⟨a',b,ws,j,tk,t,ev,xX,I,q⟩:=g.r7 e ed ⟨a,U,ha⟩;cases ev;refine eS ?_;unfold dg.«list.__len__»;refine ae (cH (show slotArgs "__len__" 0 ⟨[.ref a],[]⟩=bO (b9 a,[]) by rfl) ?_);dsimp only;unfold seqSize;refine ae (ae (fV I.at_ (av ?_)));have hl:((ws.toArray.size:Nat):Int)=xs.length:=by rw[a_,q.length]
 rw[hl];exact ae (wpAny_mkInt (av ⟨_,U,g.fh ⟨_,U⟩⟩))
theorem GF(e:σ.get n=aa (.bT C d []))(ed:σ.get d=aa (.size i)):Run G n dg.«list.__init__» σ .none σ:=by
 intro A α s a E g ha;refine dH λlg eS=>?_;obtain⟨a',b,ws,j,tk,t,ev,xX,I,q⟩:=g.r7 e ed ⟨a,U,ha⟩;cases ev;obtain rfl:=q;refine eS ?_;have u:=g.Qk (f:=λzz=>#[]) (ws:=[]) (ys:=[]) e ha I.at_ U U s.toks;rw[St.set_same e]at u;unfold dg.«list.__init__»;dsimp only;simp only[List.isEmpty_nil,Bool.not_true,dG,if_false];rw[if_neg ay];refine ae (listItems_at I.at_ U ?_);refine ae (il I.at_ U ?_ (by simp) (by simp));refine ae (wpAny_letGo ?_);exact av ⟨_,U,α,u.1,u.2,U⟩
end
section
set_option maxHeartbeats 2000000
variable{G:Gv}{m:Nat}{e:Env}{P:Env->Prop}{body:List Stmt}{σ σ1 σ2:St}{a b c:CV}{f:CF}{ks xs:List CV}{n C d:Nat}{K:Frag}
def uR(G:Gv)(m:Nat)(e:Env)(P:Env->Prop)(body x:List Stmt)(σ:St)(f:CF)(σ':St):Prop:=∀α s env E,EI α e env->P env->GS G α σ s->_root_.PySem.wpAt G.M G.A (.func body env) (jI x env) (WM m G α s.heap f σ') E s
def SEA(G:Gv)(e:Env)(P:Env->Prop)(body:List Stmt)(x:Expr)(σ:St)(c:CV)(σ':St):Prop:=∀α s env E,EI α e env->P env->GS G α σ s->_root_.PySem.wpAt G.M G.A (.func body env) (eval x env) (W VR G α s.heap c σ') E s
theorem uR.of{x}(h:eY G m e x σ f σ1):uR G m e P body x σ f σ1:=λα s env E i zz g=>_root_.PySem.wpAt_of_wpAny (h α s env E i g)
theorem uR.cons{st c8}(h:SS G m e st σ .next σ1)(k:uR G m e P body c8 σ1 f σ2)(hb:EB m e=af):uR G m e P body (st::c8) σ f σ2:=by
 intro α s env E i p g;refine nA (_root_.PySem.wpAt_of_wpAny (Va (h α s env E i g) λβ s1 x g1=>?_));exact _root_.PySem.wpAt_mono (k β s1 env E (i.pj x hb) p g1) (λzz zz w=>w.trans x) λzz zz w=>w
theorem uR.js{t x y pos}{b: Bool}(h:cS G e t σ b σ1)(k:uR G m e P body (if b then x else y) σ1 f σ2)(hf:f.wV=af){c8}:uR G m e P body (.If t x y pos::c8) σ f σ2:=by
 intro α s env E i p g;refine nA (ks_wpAt_If (_root_.PySem.wpAt_of_wpAny (Aq (h α s env E i g) λβ s1 x g1=>?_)));have go:∀{z},uR G m e P body z σ1 f σ2->_root_.PySem.wpAt G.M G.A (.func body env) (jI z env) (λf' s'=>match f' with | .next=>_root_.PySem.wpAt G.M G.A (.func body env) (jI c8 env) (WM m G α s.heap f σ2) E s'|f'=>WM m G α s.heap f σ2 f' s') E s1:=λk=>by
  refine _root_.PySem.wpAt_mono (k β s1 env E (i.mono x) p g1) (λv s2 w=>?_) λzz zz w=>w;have w:=w.trans x.nj;cases v with
  |next=>obtain⟨γ,y,g2,r⟩:=w;cases f with
   |next=>cases hf
   |brk=>cases r
   |cont=>cases r
   |ret c=>obtain⟨v,q,_⟩:=r;cases q
  |brk=>exact w
  |cont=>exact w
  |ret v=>exact w
 cases b
 ·exact go k
 ·exact go k
theorem uR.ret{x pos c8}(h:SEA G e P body x σ c σ1):uR G m e P body (.Return (aa x) pos::c8) σ (.ret c) σ1:=by
 intro α s env E i p g;refine nA (ks_wpAt_Return_some (_root_.PySem.wpAt_mono (h α s env E i p g) (λv s1 w=>?_) λzz zz w=>w));obtain⟨β,x,g1,r1⟩:=w;exact⟨β,x.nj,g1,v,U,r1⟩
theorem uR.expr{x pos c8}(h:SEA G e P body x σ .none σ1)(k:uR G m e P body c8 σ1 f σ2)(hb:EB m e=af)(hk:autoParam ((e.scope.kind==.function)=af) iU)(hc:autoParam (pK x=false) iU):uR G m e P body (.Expr x pos::c8) σ f σ2:=by
 intro α s env E i p g;have hi:interactive env=false:=by
  unfold interactive;rw[i.scope,beq_iff_eq.mp hk];rfl
 refine nA (ks_wpAt_Expr_any (_root_.PySem.wpAt_mono (h α s env E i p g) (λv s1 w=>?_) λzz zz w=>w) hi (tE hc _ _ _));obtain⟨β,x,g1,r1⟩:=w;exact _root_.PySem.wpAt_mono (k β s1 env E (i.pj x.nj hb) p g1) (λzz zz w=>w.trans x.nj) λzz zz w=>w
structure mu(G:Gv)(K:Frag)(C:Nat)(env:Env):Prop where
 ks:env.kindOf "super"=aa .globalImplicit
 kc:env.kindOf "__class__"=aa .free
 kd:env.scope.kind=.function
 gl:env.globals=3
 bu:env.builtins=0
 sup:Glob G "super" (.type "super")
 fn:∃f of fd ar,env.func=aa f/\G.h₀.get? f=aa of/\of.data=.func fd/\(fd.params.posonlyargs++fd.params.args).head?=aa ar/\ar.arg=aF "self"
 code:∃cc oc vs file tf,env.code=.ref cc/\G.h₀.get? cc=aa oc/\oc.data=.fields vs/\vs[2]?=aa (.str file tf)/\((G.prog.main.file:Str)==file)=af
 top:(G.prog.main.scope.names.lookup ("super":Str)).isSome=false
 cell:∃cca,env.cells.lookup (aF "__class__")=aa cca/\G.h₀.IsCell cca (aa (.ref C))
 cls:∃cd,clsIn K C=aa cd/\mroIn K C (.ref C)=aa af/\((cd.mro.dropWhile (· != .ref C)).drop 1)=[.type "list",.type "object"]
 opq:nsIn K cStatics "thirdparty.any"=aa none
theorem ub{C: Addr}{cd:ClassData}(h:clsIn K C=aa cd):∃o,K.lookup C=aa o/\o.data=.cls cd:=by
 unfold clsIn at h;cases hl:K.lookup C with
 |none=>rw[hl]at h;cases h
 |some o =>
  rw[hl]at h;obtain⟨c,d,da,sl⟩:=o;cases da<;>first|(cases h;done)|(cases h;exact⟨_,U,U⟩)
theorem SEA.super{i: Int}{mm: List (Str×CV)}{p0 p1 jJ pos: Pos}{name: Str}{id Tn Om bt:String}{bl:dg}{pl:Env->Sem Bool}(k:Kl K C)(X:K.In G.h₀)(hP:∀env,P env->mu G K C env)
  (hl:bB e (aF "self") .local=af) (hf:σ.get e.locals=aa (.frame mm)) (hm:mm.lookup (aF "self")=aa (.ref n)) (hx:σ.get n=aa (.bT C d xs)) (hd:σ.get d=aa (.size i))
  (hn:(name==("__class__":Str))=false) (Yk:alongIn K name [.type "list",.type "object"]=aa (aa (.builtin id))) (hT:∀s:aA,s.TypeIs (.builtin id) Tn) (hlk:typeLookup (.type Tn) "__get__"=pure (aa (.builtin Om)))
  (SV:bt="builtin_function_or_method"∨bt="method-wrapper")
  (tW:∀(a:Nat)(s:aA)(A:bZ)(Q:aq->aA->Prop)(E:aq->aA->Prop),eF G.M s.heap (dA (.ref a) (.type "list")) af->Q (.ref s.heap.objs.size) {s with heap:=s.heap.push (mK bt id a)}->aH G.M A (call (.builtin Om) [.builtin id,.ref a,.ref C]) Q E s)
  (hp:plainId id=af) (hb:entryFor g_ id=aa bl) (hc:∀(h:Heap)(a:Nat)(ox od:Obj),K.In h->InstAt h a ox C (aa od)->eF G.M h (fX id ⟨[.ref a],[]⟩) ())
  (Ep:Run G n bl σ c σ1)
  (he:autoParam (∀env,eval (.Call (.Attribute (.Call (.Name "super" p0) [] [] p1) name jJ) [] [] pos) env=(do
   let ov ←attributeBase (.Call (.Name "super" p0) [] [] p1) name env (eval (.Call (.Name "super" p0) [] [] p1) env)
   f6 jJ.atName
   let(f,first) ←h_ [ov] (jh ov name (pl env))
   callWith pos f first (j8 pos (eA [] env)) [])) j2):
  SEA G e P body (.Call (.Attribute (.Call (.Name "super" p0) [] [] p1) name jJ) [] [] pos) σ c σ1:=by
 intro α s env E ei pe g;have S:=hP env pe;refine UO (S.fn) λf of fd ar hfu hfo hfd abI har=>?_;refine UN (S.code) λcc oc vs file tf ze hcc hoc hvs Yl=>?_;refine aR (S.cell) λcca I8 hic=>?_;refine nJ (S.cls) λcd xg En abL=>?_;have kp:=λb o eb=>(g.base b o eb).2;refine ks_wpAt_MethodCall (pl:=pl env) ?_ (he env);refine ks_wpAt_super_base S.ks S.kc hn hfu (kp _ _ hfo) hfd abI ze (kp _ _ hcc) hoc hvs Yl S.top ?_;have sup:∀Q:aq->aA->Prop,Q (.type "super") s->aH G.M G.A (loadName env "super") Q E s:=λQ h=>by
  rw[gM S.kd S.ks];rcases S.sup with⟨mg,n1,e1⟩|⟨mg,mb,n1,e1,n2,e2⟩
  ·exact gx (S.gl▸n1.keeps kp) e1 h
  ·exact i4 (S.gl▸n1.keeps kp) e1 (S.bu▸n2.keeps kp) e2 h
 refine sup _ ⟨U,?_⟩;refine wpAny_loadName_free S.kd S.kc I8 (hic.keeps kp) ?_;rw[har];have hl:=bB.is hl ei;refine dH λlg eS=>?_;obtain⟨L,hL,mf,tU,hr⟩:=g.own _ _ hf;cases hL.symm.trans ei.loc;refine eS ?_;refine aR (hr _ _ hm) λv hv rv=>?_;refine dQ hl.1 hl.2 tU hv ?_;obtain⟨a,b,ws,j,tk,tt,rfl,ha,I,q⟩:=g.r7 hx hd rv;have X1:K.In s.heap:=X.keeps kp;obtain⟨hh,gg,dr,t,os⟩:=s;obtain⟨oD,hD1,hD2⟩:∃oD,hh.get? C=aa oD/\oD.data=.cls cd:=by
  exact aR (ub xg) λo ho ed=>⟨o,X1 _ _ ho,ed⟩
 have XS:a≠C:=ks_ne X1 I xg;refine ks_wpAny_isType_cls hD1 hD2 ⟨U,?_⟩;refine ks_wpAny_call_super hD1 hD2 I.at_ I.cls (λc e=>?_) (iY X1 En) (λh' e kk=>?_)
 ·cases e
 ·have t2:=g.same (h':=h') kk t
  have X2:K.In h':=X1.keeps kk;have I2:InstAt h' a (n7 C b ws j) C (aa (qO G.w.params i tk tt)):=⟨kk _ _ I.at_,U,U,kk _ _ I.dict⟩;refine o_ (bo:=mK bt id a) e (looks_opaque X2 S.opq) (l₀:=cd.mro) ?_ abL X2 Yk hT hlk XS hn (λt A Q E q=>tW a ⟨h',gg,dr,t,os⟩ A Q E (k.inst X2 I2) q) ?_
  ·exact λA Q E s k q=>ae ((looks_clsIn X2 xg) A _ E s k (av q))
  ·have up:∀b o,h'.get? b=aa o->(h'.push (mK bt id a)).get? b=aa o:=λb o e=>aC _ e
   have t3:=t2.2.same (h':=h'.push (mK bt id a)) up (t+1);have hbo:(h'.push (mK bt id a)).get? h'.objs.size=aa (mK bt id a):=aJ _ U;refine xD (bt:=bt) (id:=id) (x:=a) SV U ?_;refine c_ (args:=[]) U (eN ⟨hbo,?_⟩);refine JH SV hbo hp hb (hc _ _ _ _ (X2.keeps up) ⟨up _ _ I2.at_,U,U,up _ _ I2.dict⟩) ?_;refine wQ (Ep _ α _ a _ t3.2 ha) ?_;intro fin s' Py;refine aR (Py) λv Pb w=>?_;obtain rfl:=Pb;exact⟨v,U,w.trans (t2.1.trans t3.1)⟩
end
section
set_option maxHeartbeats 2000000
variable{G:Gv}{m:Nat}{P:Env->Prop}{σ σ2:St}{f:CF}{cs:List CV}{n C:Nat}{K:Frag}{fd:cO}{a:Nat}{body:List Stmt}
theorem mu.deep{env kX: Env}(S:mu G K C env):mu (Mine.Internal.deep G kX) K C env:=⟨S.ks,S.kc,S.kd,S.gl,S.bu,S.sup,S.fn,S.code,S.top,S.cell,S.cls,S.opq⟩
theorem oF{rb: List (Str×CV)}{α: AM}{s: aA}{vs: List aq}{R:Result->aA->Prop}(room:G.A.depth<bA)(D:eZ G a fd)(gV:G.h₀.NoLimit)(xg:G.h₀.CodeRec fd.code fd.qualname)(zf:fd.body=.stmts body)
  (kM:∃dn,bW s fd ⟨vs,[]⟩ dn/\dn.reverse.map (·.1)=rb.map (·.1)/\di α s.heap (rb.map (·.2)) (dn.reverse.map (·.2)))
  (lO:(fd.scope.names.all λx=>x.2 != .cell)=af) (hk:(rb.all λp=>fd.scope.names.lookup p.1==aa .local)=af) (hP:∀L,P (callEnv fd L a)) (hm:σ.n<=m)
  (h:∀env,uR (deep G env) m (entryE fd [] σ.n a) P body body (σ.push (.frame rb)) f σ2) (g:GS G α σ s) (hR:∀v s',W VR G α s.heap (vd f) σ2 v s'->R (.ok (.ret v)) s')
  (ze:fd.scope.isCoroutine=false) (Bx:fd.scope.isGenerator=false) (Ul:fd.scope.kind=.function):codeAny G.M G.A (.call (.ref a) ⟨vs,[]⟩) R s:=by
 refine aR (D) λo ho hd=>?_;refine nJ (kM) λdn hb he hv=>?_;have kp:=λb o eb=>(g.base b o eb).2;refine ks_codeAny_call_defAt room (kp _ _ ho) hd (gV.keeps kp) (xg.keeps kp) zf hb (λx hx q=>?_) (λx hx=>?_) (λh1 tU Un=>?_) ze Bx Ul
 ·have:=List.all_eq_true.mp lO x hx
  rw[q]at this;cases this
 ·have:x.1∈rb.map (·.1):=he▸List.mem_map.mpr ⟨x,List.mem_reverse.mpr hx,U⟩
  refine aR (List.mem_map.mp this) λy hy e=>?_;rw[←e];exact beq_iff_eq.mp (List.all_eq_true.mp hk y hy)
 ·have t:=g.more (h':=h1) (ao:=.frame rb) Un (ez _) (λle=>⟨_,tU,λy c hy=>by obtain⟨v,SH,r⟩:=(di.lookup (x:=y) he hv).2 c hy;exact⟨v,SH,r.mono le⟩⟩) (s.toks+dn.length)
  have ei:EI (α.add σ.n s.heap.objs.size) (entryE fd [] σ.n a) (callEnv fd s.heap.objs.size a):=⟨AM.fQ _ _ _,λx k e=>(nomatch e),U,U,U,U,U⟩;refine _root_.PySem.wpAt_mono (h (callEnv fd s.heap.objs.size a) _ _ _ _ ei (hP _) (t.2.deep _)) (λv s2 w=>?_) λzz zz w=>w;obtain⟨β,x2,g2,r2⟩:=w;have wX:Le α s.heap β s2.heap:=rm.trans' t.1 x2 λk b zz e=>x2.le k (aM (by
    cases kh k σ.n with
    |inl q=>exact q
    |inr q=>rw[g.new k q]at e;cases e) hm) b (t.1.le k aE b e)
  have g3:GS G β σ2 s2:=g2.v7;cases f with
  |next=>obtain rfl:=r2;exact hR _ _ ⟨β,wX,g3,U⟩
  |brk=>obtain rfl:=r2;exact hR _ _ ⟨β,wX,g3,U⟩
  |cont=>obtain rfl:=r2;exact hR _ _ ⟨β,wX,g3,U⟩
  |ret c=>obtain⟨v,rfl,r⟩:=r2;exact hR _ _ ⟨β,wX,g3,r⟩
theorem SL.Jq{rb: List (Str×CV)}(room:G.A.depth<bA)(D:eZ G a fd)(gV:G.h₀.NoLimit)(xg:G.h₀.CodeRec fd.code fd.qualname)(zf:fd.body=.stmts body)
  (kM:∀α s vs,GS G α σ s->di α s.heap cs vs->∃dn,bW s fd ⟨vs,[]⟩ dn/\dn.reverse.map (·.1)=rb.map (·.1)/\di α s.heap (rb.map (·.2)) (dn.reverse.map (·.2)))
  (lO:(fd.scope.names.all λx=>x.2 != .cell)=af) (hk:(rb.all λp=>fd.scope.names.lookup p.1==aa .local)=af) (hP:∀L,P (callEnv fd L a)) (hm:σ.n<=m)
  (h:∀env,uR (deep G env) m (entryE fd [] σ.n a) P body body (σ.push (.frame rb)) f σ2) (ze:fd.scope.isCoroutine=false) (Bx:fd.scope.isGenerator=false) (Ul:fd.scope.kind=.function):bM G (λvs=>call (.ref a) vs) cs σ (vd f) σ2:=by
 intro α s vs E g r;exact gA (oF (P:=P) room D gV xg zf (kM α s vs g r) lO hk hP hm h g (λv s' w=>w) ze Bx Ul)
end
section
set_option maxHeartbeats 4000000
variable{items:Array aq}{i:Nat}{x:aq}{l:Addr}
def SeqAt(h:Heap)(a:Nat)(items:Array aq):Prop:=∃o n,h.get? a=aa o/\o.data=.seq items n
section
variable{prog:cY}{w:cW}{A:bZ}{E:aq->aA->Prop}{s:aA}
theorem uD{it: Addr}{Q:Option aq->aA->Prop}(hit:s.heap.IsListIter it l i)(hl:SeqAt s.heap l items)(hx:items[i]?=aa x)
  (hQ:∀h',h'.IsListIter it l (i+1)->gQ it s.heap h'->Q (aa x) {s with heap:=h'}):aH (ba prog w) A (iW (.ref it)) Q E s:=by
 refine nJ (id hit) λo ho hc hd=>?_;refine mU (hl) λol nl hol hdl=>?_;unfold iW;refine ae (ij (gU (name:=aF "__next__") hit.typeIs nq (dT nq hit.typeIs entry_listiter_next ?_ (args_listiter_next _))));show aH _ _ (field (.ref it) 0 >>= _) _ _ s;refine ae (dR ho hd (x:=.ref l) U ?_);show aH _ _ (if(b9 l==ji)=af then _ else _) _ _ s;rw[if_neg (show ¬((b9 l==ji)=af)from aN)];show aH _ _ (field (.ref it) 1 >>= _) _ _ s;refine ae (dR ho hd (x:=.int i 0) U ?_);show aH _ _ (seqItems? (.ref l) >>= _) _ _ s;refine ae (iV hol hdl ?_);dsimp only;rw[show items[((i:Nat):Int).toNat]?=aa x from hx];refine ae (wpAny_setField ho hd (by simp) (av ⟨x,U,av (hQ _ ?_ (fR ..))⟩));exact⟨_,d_ _ ho (Obj.isFreed_of_fields (Obj.data_mapFields hd _)),(Obj.cls_mapFields ..).trans hc,by
  rw[Obj.data_mapFields hd];simp[ey]⟩
theorem wG{it l: Addr}{i: Nat}{items: Array aq}{Q:Option aq->aA->Prop}(hh:A.handled=none)
  (hit:s.heap.IsListIter it l i) (hl:SeqAt s.heap l items) (hx:items[i]?=none)
  (hQ:∀h',jA it s.heap h'->Q none {s with heap:=h'}):aH (ba prog w) A (iW (.ref it)) Q E s:=by
 refine nJ (id hit) λo ho hc hd=>?_;refine mU (hl) λol nl hol hdl=>?_;unfold iW;refine ae (ij (gU (name:=aF "__next__") hit.typeIs nq
  (dT nq hit.typeIs entry_listiter_next ?_ (args_listiter_next _))))
 show aH _ _ (field (.ref it) 0 >>= _) _ _ s;refine ae (dR ho hd (x:=.ref l) U ?_);show aH _ _ (if(b9 l==ji)=af then _ else _) _ _ s;rw[if_neg (show ¬((b9 l==ji)=af)from aN)];show aH _ _ (field (.ref it) 1 >>= _) _ _ s;refine ae (dR ho hd (x:=.int i 0) U ?_);show aH _ _ (seqItems? (.ref l) >>= _) _ _ s;refine ae (iV hol hdl ?_);dsimp only;rw[show items[((i:Nat):Int).toNat]?=none from hx];refine ae (fU (ae (wpAny_setField ho hd (by simp) ?_)));show aH _ _ (newExc (.type "StopIteration") [] >>= _) _ _ _;refine ae ?_;unfold newExc newTuple;refine ae (d7 ?_ (by size_fits));refine ae (m:=firstArgMember _ _) (cH (a:=ji) (by first|rfl|(simp only[firstArgMember];rfl)) ?_);refine d7 ?_ (by size_fits);unfold raiseNew;refine ae (wpAny_handled ?_);rw[show A.in1.handled=none from hh];refine ae (av (wpAny_throw ?_));refine ae (gR (T:="StopIteration") (b:=af) ⟨_,aJ _ U,U⟩ isSubtype_stop ?_);exact av (hQ _ (((fR ..).extBut.push _).push _))
theorem WalksU.bT(hh:A.handled=none)(I ax:Addr)(su:ax≠I)(items:Array aq)(Ts:Nat->Addr)(vals:Nat->Array aq)
  (hit:∀j,j<items.size->items[j]?=aa (.ref (Ts j))) (Uv:∀j,j<items.size->Ts j≠I):
  WalksU prog w A I (I::ax::(bc items.size).map Ts) [I] items.size (λj v=>j<items.size/\v=vals j)
   (λj h=>h.IsListIter I ax j/\SeqAt h ax items/\∀k,k<items.size->h.IsTuple (Ts k) (vals k))
   (λj T h=>(j<items.size/\T=Ts j)/\h.IsListIter I ax (j+1)/\SeqAt h ax items/\∀k,k<items.size->h.IsTuple (Ts k) (vals k)) where
 sub:=λb hb=>by simp at hb;simp[hb]
 frame:=λzz zz zz st hk=>⟨st.1.at λo e=>hk I (by simp) o e,(let⟨o,n,e,d⟩:=st.2.1;⟨o,n,hk ax (by simp) o e,d⟩),
  λk zb=>(st.2.2 k zb).at λo e=>hk (Ts k) (List.mem_cons_of_mem _ (List.mem_cons_of_mem _ (List.mem_map.mpr ⟨k,List.mem_range.mpr zb,U⟩))) o e⟩
 item:=λi s Q E hi st hQ=>by
  refine uD st.1 st.2.1 (x:=.ref (Ts i)) (hit i hi) λh' abO xc=>?_;have tup:∀k,k<items.size->h'.IsTuple (Ts k) (vals k):=λk zb=>(st.2.2 k zb).extBut xc.extBut (Uv k zb);exact hQ (Ts i) (vals i) h' s.toks ⟨hi,U⟩ (tup i hi) ⟨⟨hi,U⟩,abO,(let⟨o,n,e,d⟩:=st.2.1;⟨o,n,xc.extBut _ _ su e,d⟩),tup⟩ λb o hb e=>xc.extBut b o (λh=>hb (by simp[h])) e
 go:=λzz zz zz zz zz s Q zz hm hQ=>wpAny_letOwnedTupleGo_listiter hm.2.1 (hQ s.heap hm.2 λzz zz zz e=>e)
 apart:=λj T zz hm I4=>by
  rcases List.mem_cons.mp I4 with e|e
  ·exact Uv j hm.1.1 (hm.1.2▸e)
  ·cases e
 done:=λs Q E st hQ=>wG hh st.1 st.2.1 (by simp) λh' he'=>hQ h' s.toks λb o hb e=>he' b o (λh=>hb (by simp[h])) e
 self:=λzz zz zz zz st hQ=>wpAny_pyIter_listiter st.1 hQ
theorem vD{K: Frag}{x C: Addr}{ox: Obj}{od: Option Obj}{Q:aq->aA->Prop}(X:K.In s.heap)(I:InstAt s.heap x ox C od)(En:mroIn K C (.type "list")=aa af)(hf:d8 K (.ref C) "__iter__"=aa (aa (.builtin "list.__iter__")))
  (h:Q (.ref s.heap.objs.size) {s with heap:=s.heap.push {cls:=.type "list_iterator",data:=.fields #[.ref x,.int 0 0]}}):aH (ba prog w) A (fc (.ref x)) Q E s:=by
 have hi:eF (ba prog w) s.heap (dA (.ref x) (.type "list")) af:=by unfold dA;exact I.type.andThen (iY X En)
 have L:eF (ba prog w) s.heap (specialOf (.ref x) "__iter__") (aa (.builtin "list.__iter__")):=I.type.andThen (dv X hf);have hb:∀self,bindSpecial (.builtin "list.__iter__") self=pure (.builtin "list.__iter__",[self]):=slot_list_iter.bind;unfold fc;refine ae (L.here ?_);show aH _ _ (lY (.ref x) "__iter__" _ >>= _) Q E s;refine ae (?_:aH _ _ (lY (.ref x) "__iter__" _) _ E s);unfold lY bindSpecialIfBound?;refine aQ (ae (ae (L.here ?_)));dsimp only;rw[hb];refine ae (wpAny_askSetting (wpAny_ite ?_));have fin:∀(E':aq->aA->Prop)(refuse:Sem aq)(Q':Option aq->aA->Prop),Q' (aa (.ref s.heap.objs.size)) {s with heap:=s.heap.push {cls:=.type "list_iterator",data:=.fields #[.ref x,.int 0 0]}} ->
   aH (ba prog w) A (if(Value.builtin "list.__iter__"==ji)=af then(refuse >>= λv=>pure (aa v))else(call (.builtin "list.__iter__") [.ref x] >>= λv=>pure (aa v))) Q' E' s:=by
  intro E' refuse Q' hq;rw[if_neg ay];refine ae (qD (owner:="list") (n:="__iter__") (.inl (by decide +kernel)) (by decide +kernel) (by decide +kernel) hi entry_list_iter ?_ (args_list_iter _));show aH _ _ (do ret (←newFields "list_iterator" [.ref x,ey 0])) _ _ s;exact ae (d7 (av ⟨_,U,av hq⟩))
 have last:aH (ba prog w) A (match(aa (b9 s.heap.objs.size):Option aq)with
   |some it=>do
    match ←specialOf it "__next__" with
    |none=>rule "iter.non-iterator";raiseError "TypeError" s!"iter() returned non-iterator of type '{← typeNameOf it}'"
    |some _=>pure it
   |none=>pure ji) Q E {s with heap:=s.heap.push {cls:=.type "list_iterator",data:=.fields #[.ref x,.int 0 0]}}:=by
  refine ae (jN (T:="list_iterator") ⟨_,aJ _ U,U⟩ slot_listiter_next.lookup (av h))
 split
 ·refine ae (av (av (fin _ _ _ ?_)))
  exact last
 ·refine wpAny_tryCatch (ae (av (av (fin _ _ _ ?_))))
  exact last
end
section
variable{prog:cY}{w:cW}{A:bZ}{E:aq->aA->Prop}{s:aA}
noncomputable def qP(k:Int)(val:Nat->Int):Nat->Int
 |0=>k
 |i+1=>val i
theorem qi(k:Int)(val:Nat->Int):∀n,preSum (qP k val) (n+1)=k+preSum val n
 |0=>by simp[preSum,qP]
 |n+1=>by
  have:=qi k val n;show preSum (qP k val) (n+1)+val n=k+(preSum val n+val n);rw[this];lia
theorem WalksS.shift{I: Addr}{fp wr: List Addr}{G:Array GenState->Array GenState->Prop}{n: Nat}{P:Nat->aq->Prop}{St:Nat->aA->Prop}(W:WalksS prog w A I fp wr G n P St):
  WalksS prog w A I fp wr G (n+1) (λi v=>∃j,i=j+1/\P j v) (λi s=>∃j,i=j+1/\St j s) where
 sub:=W.sub
 grefl:=W.grefl
 gtrans:=W.gtrans
 frame:=λi s h' tk st ht hk=>let⟨j,e,st⟩:=st;⟨j,e,W.frame j s h' tk st ht hk⟩
 item:=λi s Q E hi st hQ=>by
  obtain⟨j,rfl,st⟩:=st;exact W.item j s Q E (by lia) st λv s' p T9 m=>hQ v s' ⟨j,U,p⟩ ⟨j+1,U,T9⟩ m
 done:=λs Q E st hQ=>by
  refine aR (st) λj e st=>?_;obtain rfl:n=j:=by lia
  exact W.done s Q E st hQ
 self:=λi s Q E st hq=>let⟨j,e,st⟩:=st;W.self j s Q E st hq
theorem EV(a b:aq):argsOk "sum" ⟨[a,b],[]⟩:=by unfold argsOk;kernel_rfl
theorem ud{x: aq}{k: Int}{PS:Tok}{Q:aq->aA->Prop}(hk:(decide (-(2^63)<=k)&&decide (k<2^63))=af)
  (h:aH (ba prog w) A.in1 (fc x) (λit ie=>∃I fp wr G n P St val,it=.ref I/\WalksS prog w A.in1 I fp wr G n P St/\St 0 ie/\(∀b∈fp,b<ie.heap.objs.size) /\
   (∀i v,P i v->∃t,v=.int (val i) t) /\
   ∀s' t',Moved wr G ie s'->Q (.int (k+preSum val n) t') s') E s):
  aH (ba prog w) A (call (.builtin "sum") [x,.int k PS]) Q E s:=by
 refine call_function_tree F.kind_sum F.plain_sum F.entry_sum (EV _ _) ?_;unfold dg.«sum»;refine ae (cH (show Builtin.Builtins.bindParams "sum" ["start"] 0 {pos:=[.int k PS]}=pure [aa (.int k PS)]from U) ?_);refine ae (dz h (λit ie w_=>?_) λzz zz e=>e);refine UM (w_) λI fp wr G n P St val Po W X4 hfp abA hQ=>?_;obtain rfl:=Po;dsimp only;show aH _ _ (if(decide (-(2^63)<=k)&&decide (k<2^63))=af then _ else _) _ _ _;rw[if_pos hk];refine ae (fU (ae (wpAny_mkInt (ae (av ?_)))));rw[dC];refine ae (ae (ae (gR (T:="int") (b:=false) (typeIs_int _ _ _) PySem.sub_int_str ?_)));rw[if_neg aN];refine av (ae (ae (gR (T:="int") (b:=false) (typeIs_int _ _ _) PySem.sub_int_bytes ?_)));rw[if_neg aN];refine av (ae (ae (gR (T:="int") (b:=false) (typeIs_int _ _ _) PySem.sub_int_bytearray ?_)));rw[if_neg aN];refine av (av ?_);refine ae (d7 ?_);have hSf:ie.heap.objs.size ∉ fp:=λhm=>eE _ (hfp _ hm);have W':=WalksS.shift W;refine av ⟨lR F.plain_sum_loop _,codeAny_sum_loopAnyS W' (qP k val) (λi v ⟨j,e,p⟩=>by subst e;exact abA j v p) ie.heap.objs.size hSf n 1 _ ie.toks 0 0 (.inl U) (by lia) (by lia)
  ⟨0,U,W.frame 0 ie _ _ X4 (by first|exact aW _|exact cm _|lia) λb zz o e=>aC _ e⟩ (by
   have:preSum (qP k val) 1=k:=by simp[preSum,qP]
   rw[this];exact aJ _ U) λs' t' hm=>?_⟩
 rw[qi];exact hQ s' t' (hm.drop_new (by first|exact aW _|exact cm _|lia))
end
end
section
set_option maxHeartbeats 4000000
noncomputable def qn(K:Frag)(C:Addr):Bool:=(K.lookup C).elim false λo=>(clsIn K C).elim false λcd=>!cd.abstract&&!cd.hasDel&&cd.hasDict&&(o.slots.toList[4]?).join==aa (.builtin "list.__new__")&&!cd.mro.isEmpty&&cd.mro.contains (.ref C)&&cd.mro.contains (.type "list") &&
   specialIn K (.ref C) "__call__"==aa (aa (.builtin "type.__call__"))&&instIn K (.ref C) (.type "type")==aa af
structure J1(M:gw)(h:Heap)(C:Addr):Prop where
 Z2:∃oc od cd sl,h.get? C=aa ⟨oc,od,.cls cd,sl⟩/\cd.abstract=false/\cd.hasDel=false/\cd.mro.isEmpty=false/\cd.hasDict=af
 made:eF M h (Bind.madeBy (.ref C)) (aa "list.__new__")
 base:eF M h (Bind.staticBase (.ref C)) (.ref C)
 self:eF M h (isSubtype (.ref C) (.ref C)) af
 top:eF M h (isSubtype (.ref C) (.type "list")) af
 call:eF M h (specialOf (.ref C) "__call__") (aa (.builtin "type.__call__"))
 typ:eF M h (dA (.ref C) (.type "type")) af
theorem D8{K: Frag}{M:gw}{h: Heap}(X:K.In h){C: Addr}(e:qn K C=af):J1 M h C:=by
 unfold qn at e;cases ho:K.lookup C with
 |none=>rw[ho]at e;cases e
 |some o =>
 cases hc:clsIn K C with
 |none=>rw[ho,hc]at e;cases e
 |some cd =>
  rw[ho,hc]at e;obtain⟨oc,od,da,sl⟩:=o;obtain rfl:da=.cls cd:=aR (ub hc) λo' h1 h2=>by cases ho.symm.trans h1;exact h2
  dsimp only[Option.elim]at e;simp only[aV,Bool.not_eq_true',beq_iff_eq]at e;refine dH λlg eS=>?_;obtain⟨⟨⟨⟨⟨⟨⟨⟨e1,e2⟩,e22⟩,e3⟩,e4⟩,e5⟩,e6⟩,e7⟩,e8⟩:=e;have hm:eF M h (mroOf (.ref C)) cd.mro:=(looks_clsIn X hc).andThen .now;obtain⟨c,l,hl⟩:∃c l,cd.mro=c::l:=by cases q:cd.mro with|nil=>rw[q]at e4;cases e4|cons c l=>exact⟨c,l,U⟩
  refine eS ?_;have made:eF M h (Bind.madeBy (.ref C)) (aa "list.__new__"):=by
   intro A Q E s k q;unfold Bind.madeBy;refine ae (hm A _ E s k ?_);rw[hl,dC];refine ae (ae (ae (ae (fV (k _ _ (X _ _ ho)) (av ?_)))));dsimp only;rw[←kB,e3];exact av (av (av q))
  refine⟨⟨oc,od,cd,sl,X _ _ ho,e1,e2,e4,e22⟩,made,?_,iY X ?_,iY X ?_,looks_specialIn X e7,looks_instIn X e8⟩
  ·intro A Q E s k q
   unfold Bind.staticBase;refine ae (hm A _ E s k ?_);rw[hl,dC];exact ae (ae (ae (made A _ E s k (av (av (av q))))))
  ·unfold mroIn;rw[hc,Option.bind_some,if_neg (by rw[e4];decide),e5]
  ·unfold mroIn;rw[hc,Option.bind_some,if_neg (by rw[e4];decide),e6]
section
variable{prog:cY}{w:cW}{A:bZ}{K:Frag}{C:Addr}{R:Result->aA->Prop}{h:Heap}{g:Array GenState}{d:Drawn}{t:Nat}{os:dc}
theorem LY:lZ "list.__new__"=aa .builtinFn:=by decide +kernel
theorem Iz:splitId "list.__new__"=aa ("list","__new__"):=by decide +kernel
theorem Xi{v: aq}(Y:J1 (ba prog w) h C)
  (hq:R (.ok (.ret (.ref (h.objs.size+1)))) ⟨(h.push ip).push (n7 C h.objs.size [] 0),g,d,t,os⟩):
  codeAny (ba prog w) A (.call (.builtin "list.__new__") ⟨[.ref C,v],[]⟩) R ⟨h,g,d,t,os⟩:=by
 refine dH λlg eS=>?_;obtain⟨⟨oc,od,cd,sl,hC,e1,e2,e4,e5⟩,made,base,self,top,call,typ⟩:=Y;refine eS ?_;refine codeAny_call_builtin_code (lR F.plain_list_new _) ?_;unfold checkBuiltinCall;rw[LY];dsimp only;rw[Iz];dsimp only;have here:eF (ba prog w) h (Bind.madeHere "list.__new__" (.ref C)) ():=base.andThen (made.andThen (Looks.of_pure (by simp only[Option.map_some,bne_self_eq_false,dG,if_false])));have isT:eF (ba prog w) h (isType (.ref C)) af:=by
  intro A Q E s k q;obtain⟨hp,gg,dd,tt,oo⟩:=s;exact ks_wpAny_isType_cls (k _ _ hC) U q
 refine ae (isT.at ?_);rw[if_neg (show ¬((!af)=af)from aN)];refine ae (top.at ?_);rw[if_neg (show ¬((!af)=af)from aN)];refine ae (base.at (ae (made.at ?_)));dsimp only;rw[if_neg ay];refine cH (a:=()) ak ?_;refine codeAny_builtin_stack F.entry_list_new U λp st=>?_;rw[fT F.plain_list_new _];dsimp only;rw[owner_list_new];refine ae (isT.at ?_);rw[if_neg (show ¬((!af)=af)from aN)];refine ae (top.at ?_);rw[if_neg (show ¬((!af)=af)from aN)];refine ae (av ?_);rw[show typeHasDict (.ref C)=af from U];rw[if_neg (show ¬((!af)=af)from aN)];unfold newDict;refine ae (d7 ?_ (bJ _));dsimp only;refine ae (m:=newObj (.ref C) (.seq #[]) (aa h.objs.size)) ?_;unfold newObj;dsimp only;rw[if_neg (show ¬(#[]:Array aq).size>bC from Nat.not_lt.mpr (bJ _))];unfold newObjAsIs classHasDel;refine ae (wpAny_alloc (ae (ae (wpAny_load (aC _ (aC _ hC)) (av ?_)))));rw[e2];refine av (av ?_);show R _ _;rw[fx];exact hq
theorem Si{v: aq}{f: Addr}(X:K.In h)(hm:qn K C=af)(hi:d8 K (.ref C) "__init__"=aa (aa (.ref f)))(hf:jm K (.ref f)=aa (.type "function"))
  (hq:codeAny (ba prog w) (A.under (.builtin "type.__call__" ⟨[.ref C,v],[]⟩)) (.call (.ref f) ⟨[.ref (h.objs.size+1),v],[]⟩) (InitBack (h.objs.size+1) R) ⟨(h.push ip).push (n7 C h.objs.size [] 0),g,d,t,os⟩):
  codeAny (ba prog w) A (.call (.ref C) ⟨[v],[]⟩) R ⟨h,g,d,t,os⟩:=by
 have Y:=D8 (M:=ba prog w) X hm;have Y':=Y;have sx:=dv (M:=ba prog w) X hi;have hb:=λself=>bind_fn (M:=ba prog w) X self hf;refine dH λlg eS=>?_;obtain⟨⟨oc,od,cd,sl,hC,e1,e2,e4,e5⟩,made,base,self,top,call,typ⟩:=Y;refine eS ?_;refine codeAny_of_tree ?_;show aH _ _ (callAny (.ref C) _) _ _ _;refine nd_load hC ?_;show aH _ _ (callAny.viaDunder (.ref C) _) _ _ _;unfold callAny.viaDunder;refine ae (call.at ?_);dsimp only;rw[tc_bind];refine ae (av (ae (av ?_)));refine av (a:=PySem.Fin.again (.call (.builtin "type.__call__") ⟨[.ref C,v],[]⟩)) (And.intro U ?_);refine codeAny_call_builtin_at (Code.quiet_builtin _ (by decide +kernel)) entry_typeCall (check_slot tc_kind tc_split typ (tc_args _ _ _) ?_);unfold dg.«type.__call__»;have hm:eF (ba prog w) h (mroOf (.ref C)) cd.mro:=((Looks.ld (part:=none) hC).andThen .now).andThen .now
 repeat (first|rw[e4,if_neg aN]|with_reducible refine gA ?_|lk)
 refine Xi Y' ?_;have k:∀b o,h.get? b=aa o->((h.push ip).push (n7 C h.objs.size [] 0)).get? b=aa o:=λb o e=>aC _ (aC _ e);have hx:((h.push ip).push (n7 C h.objs.size [] 0)).get? (h.objs.size+1)=aa (n7 C h.objs.size [] 0):=by heap_get
 have t1:eF (ba prog w) ((h.push ip).push (n7 C h.objs.size [] 0)) (typeOf (.ref (h.objs.size+1))) (.ref C):=(Looks.ld hx).andThen .now;have s1:=self.keeps k;have i1:=sx.keeps k;have b1:=(hb (.ref (h.objs.size+1))).keeps k;unfold dA callSpecial? specialOf
 repeat (first|with_reducible refine gA ?_|lk)
 refine codeAny_mono hq λr s' z=>?_;rcases r with e|(v|_|_|_)<;>first|exact z|exact z.elim|skip
 obtain⟨rfl,z⟩:=z;exact av (av z)
end
theorem yy(self:aq):refuseLoop self "__setattr__" [.type "list",.type "object"]=pure ():=by kernel_rfl
theorem Ln(self v:aq)(name:Str)(tk:Tok):dg.«object.__setattr__» ⟨[self,.str name tk,v],[]⟩=(Builtin.ObjectAttr.refuseIfOverridden self "__setattr__" >>= λzz=>typeOf self >>= λtp=>typeLookup tp name >>= λJU=>Builtin.ObjectAttr.storeTaker? JU >>= λr =>
  match r with|some a=>Builtin.ObjectAttr.setByDescriptor a self v|none=>Builtin.ObjectAttr.storeInOwnDict self tp (.str name tk) name v JU.isSome):=osa_eq self v name tk
section
variable{prog:cY}{w:cW}{A:bZ}{K:Frag}{C x:Addr}{s:aA}{E:aq->aA->Prop}
theorem Gz{ox od Z1: Obj}{dx: Addr}{name: Str}{v: aq}{es: List bI}{n: Nat}{cd:ClassData}{Q:Unit->aA->Prop}(X:K.In s.heap)(I:InstAt s.heap x ox C (aa od))(hd:ox.dict=aa dx)
  (hs:d8 K (.ref C) "__setattr__"=aa (aa (.builtin "object.__setattr__"))) (hc:clsIn K C=aa cd) (hm:cd.mro=[.ref C,.type "list",.type "object"]) (hhd:cd.hasDict=af)
  (ht:takerIn K C name=aa none) (hl:(lookIn name od).isSome=af)
  (e:lh name (gu w.params name) (.str name (s.toks+1)) v od=Z1) (e':Z1.data=.dict es.toArray n) (hz:es.length<=1000) (xf:Z1.isFreed=false)
  (h:Q () {s with heap:=s.heap.update dx (lh name (gu w.params name) (.str name (s.toks+1)) v),toks:=s.toks+1+1}):aH (ba prog w) A (setAttr (.ref x) name v) Q E s:=by
 have SF:=PySem.F.store_object;refine set_plain X I hs ?_;generalize xc:({s with toks:=s.toks+1}:aA)=s1;have X1:K.In s1.heap:=by rw[←xc];exact X
 have I1:InstAt s1.heap x ox C (aa od):=by rw[←xc];exact I
 have ne:cd.mro.isEmpty=false:=by rw[hm];rfl
 have sub:eF (ba prog w) s1.heap (dA (.ref x) (.type "object")) af:=I1.type.andThen (iY X1 (by unfold mroIn;rw[hc,Option.bind_some,if_neg (by rw[ne];decide),hm];simp));refine codeAny_call_builtin SF.slot.plain SF.entry (@check_slot (ba prog w) _ _ s1 "object.__setattr__" "object" "__setattr__" (.ref x) [.str name s.toks,v] [] _ SF.kind SF.split sub (SF.args (.ref x) (.str name s.toks) v) ?_);refine aR (Option.bind_eq_some_iff.mp ht) λJU ha hr=>?_;have hmr:eF (ba prog w) s1.heap (mroOf (.ref C)) cd.mro:=(looks_clsIn X1 hc).andThen .now;have L3:eF (ba prog w) s1.heap (Builtin.ObjectAttr.storeTaker? JU) none:=by
  cases JU with
  |none=>exact .now
  |some a =>
   refine aR (Option.map_eq_some_iff.mp hr) λb hb hbb=>?_;refine(looks_takesIn X1 hb).andThen ?_;cases b
   ·exact .now
   ·cases hbb
 rw[Ln,refuse_eq];refine ae (ae (I1.type.here (ae (hmr.here ?_))));rw[hm,refuseLoop_ref,yy];refine av (ae (I1.type.here (ae ((dv X1 ha).here (ae (L3.here ?_))))));subst xc;refine dH λlg eS=>?_;obtain⟨hx,I8,hn,Ut⟩:=I;obtain⟨oc,odi,oda,osl⟩:=ox;refine eS ?_;dsimp only at I8 hd;subst I8 hd;refine ae (av (ae (ae (fV hx (ae ((looks_clsIn X1 hc).here ?_))))));rw[hhd];refine av (a:=aa dx) (ae (av (ae ?_)));unfold nsSet;refine ae (ae (wpAny_askSetting (av (ae (wpAny_mkText (ae (fV Ut ?_)))))));unfold lookIn at hl;have hD':(s.heap.update dx (lh name (gu w.params name) (.str name (s.toks+1)) v)).get? dx=aa Z1:=by
  rw[←e];exact d_ _ Ut (by rw[e];exact xf)
 split at hl
 ·rename_i rR n₀ q
  rw[q];dsimp only;have c:(!rR.any (·.key.isStr name)&&rR.any (·.refKey))=false:=by
   rw[←Array.any_toList,←Array.any_toList]
   split at hl
   ·rename_i en he
    rw[List.any_eq_true.mpr ⟨en,List.mem_of_find?_eq_some he,List.find?_some he⟩];rfl
   ·split at hl
    ·cases hl
    ·rename_i z;rw[Bool.not_eq_true]at z;rw[z,Bool.and_false]
  rw[aRefKeyMayBeTheName_at,c];refine wpAny_updatePart Ut ?_;refine ae (wpAny_lookBehind hD' (by rw[e'];exact pastItsLine_dict (by rw[a_,fz];lia)) ?_);exact av h
 ·cases hl
end
end
section
set_option maxHeartbeats 4000000
variable{G:Gv}{e:Env}{σ:St}{k:Nat}
theorem CQ{c P:Nat}{q:Nat->Nat->Str}{pos:Pos}{qualname:Str}{scope:jk}{α:AM}{s:aA}{env:Env}{Q:aq->aA->Prop}{E:aq->aA->Prop}(hc:env.code=.ref c)(C:iA G.h₀ c P)(g:GS G α σ s)(hm:σ.get k=aa (.tab P q))(hq:q pos.line pos.col=qualname)
  (hQ:∀code h' tk,GS G α σ {s with heap:=h',toks:=tk}->jA P s.heap h'->Le α s.heap α h'->Q code {s with heap:=h',toks:=tk}):aH G.M G.A (genexprCode env pos qualname scope) Q E s:=by
 refine dH λlg eS=>?_;obtain⟨P',SD,rfl,ps,hP,ht,rec⟩:=g.own _ _ hm;obtain⟨o,vs,file,tf,Ji,tg,inF,text,tt,ho,I8,hd,acA,h11,h2,h7,h9,h10,su⟩:=C.keeps λb o eb=>(g.base b o eb).2;refine eS ?_;have hpd:(tabObj ps).data=.fields ps:=U;unfold genexprCode codeAt;rw[hc,if_neg (show ¬((b9 c==ji)=af)from aN)];refine ae (wpAny_fieldsOf ho hd ?_);rw[h11];refine ae (wpAny_fieldsOf hP hpd ?_);cases hnf:iq pos ps.toList with
 |some cv=>exact av (hQ cv s.heap s.toks (g.tok _) (Heap.ExtBut.refl _ _) (Le.refl _ _))
 |none =>
  rw[h2,h7,h9,h10];refine ae (wpAny_newCode λc' Pc h' tk hk hc' hPc abV X6=>?_);have X8:=hk _ _ hP;refine ae (wpAny_updateFieldsOfTheText X8 hpd ?_);have X9:(Obj.mapFields (λvs=>if(iq pos vs.toList).isSome=af then vs else vs++#[ey pos.line,ey pos.col,.ref c']) (tabObj ps))=tabObj (ps++#[ey pos.line,ey pos.col,.ref c']):=by
   show tabObj (if(iq pos ps.toList).isSome=af then ps else ps++#[ey pos.line,ey pos.col,.ref c'])=_;rw[hnf];rfl
  have Bw:=d_ (h:=h') (λo=>Obj.mapFields (λvs=>if(iq pos vs.toList).isSome=af then vs else
   vs++#[ey pos.line,ey pos.col,.ref c']) o) X8 (by rw[X9];rfl)
  rw[X9]at Bw;refine ae (wpAny_fieldsOf Bw U ?_);have hl:(ps++#[ey pos.line,ey pos.col,b9 c']).toList=ps.toList++[ey pos.line,ey pos.col,.ref c']:=by simp
  rw[hl,codeAmong_snoc _ ht hnf];generalize hH:h'.update P' (Obj.mapFields λvs=>if(iq pos vs.toList).isSome=af then vs else vs++#[ey pos.line,ey pos.col,.ref c'])=H at Bw ⊢;have Z_:gQ P' h' H:=hH▸fR ..;have hx:jA P' s.heap H:=λb o' hb e=>Z_.extBut b o' hb (hk b o' e);have nn:s.heap.get? c'=bz:=by
   cases z:s.heap.get? c' with
   |none=>rfl
   |some o=>exact absurd (bx z) (Nat.not_lt.mpr hc')
  have hcP:c'≠P':=λe=>by rw[e,hP]at nn;cases nn
  have off:kA α H (.ref c') (q pos.line pos.col):=by
   refine⟨?_,λc2 z=>?_⟩
   ·refine UP (X6) λcc oc vc tc e1 e2 e3 e4=>?_
    cases e1;exact xi4 _ oc vc tc ⟨U,Z_.extBut _ _ hcP e2,e3,hq▸e4⟩
   ·cases z
    exact⟨λh=>(by obtain⟨o,z⟩:=g.lt _ h;rw[nn]at z;cases z),λh=>(by obtain⟨o,z,_⟩:=g.qf _ h;rw[nn]at z;cases z)⟩
  have t:=g.turn (h':=H) (ao':=.tab P' q) hm SD hx (λle=>⟨U,_,Bw,by simpa using TriplesOk_snoc pos.line pos.col (.ref c') ps.toList ht,λtj cv Yv=>?_⟩) tk
  ·rw[St.set_same hm]at t
   exact av (hQ _ _ _ t.2 hx t.1)
  ·rw[hl]at Yv
   rcases nP _ ht Yv with h1|⟨rfl,h2,h3⟩
   ·exact(rec tj cv h1).mono le
   ·rw[h2,h3];exact off
end
section
set_option maxHeartbeats 4000000
noncomputable def dZ(p:Str×Str):CV:=.tup [.str p.1,.str p.2]
noncomputable def kJ(xs:List (Str×Str)):List Int:=xs.map λp=>(p.1.length:Int)+p.2.length
theorem KW{α:AM}{h:Heap}{xs:List (Str×Str)}:∀{vs:List aq},di α h (xs.map dZ) vs->∀j (hj:j<xs.length),∃a t u,vs[j]?=aa (.ref a)/\h.IsTuple a #[.str xs[j].1 t,.str xs[j].2 u]:=by
 induction xs with
 |nil=>exact λzz j hj=>absurd hj (Nat.not_lt_zero j)
 |cons p xs ih =>
  intro _ Fz j hj;refine f5 (Fz) λv ws kD r q=>?_;obtain rfl:=kD;cases j with
  |zero =>
   refine dH λlg eS=>?_;obtain⟨a,vs,n,rfl,_,_,e,_,_,rfl,⟨t,rfl⟩,_,_,rfl,⟨u,rfl⟩,rfl⟩:=r;refine eS ?_;exact xi3 a t u ⟨U,_,e,U,_,U⟩
  |succ j=>exact ih q j (ki hj)
theorem ma(n:Nat):passing (λzz=>af) n 0=bc n:=by
 unfold passing;rw[jX];exact List.filter_eq_self.mpr λzz zz=>rfl
variable{env:Env}
section
variable{prog:cY}{w:cW}{A:bZ}{E:aq->aA->Prop}{s:aA}
theorem yW{p q pos:Pos}{x y:Str}{t:Tok}{mg mb m:Str->Option aq}{Q:aq->aA->Prop}(hk:env.scope.kind=.function)(dw:env.kindOf "len"=aa .globalImplicit)(hg:s.heap.Ns env.globals mg)(Ur:mg "len"=none)
  (hb:s.heap.Ns env.builtins mb) (Uu:mb "len"=aa (.builtin "len")) (hx:env.kindOf x=aa .local) (hn:s.heap.Ns env.locals m) (hm:m x=aa (.str y t)) (hf:y.length<2^60) (hxd:(x==("__debug__":Str))=false)
  (h:∀tk t',Q (.int y.length t') {s with toks:=tk}):aH (ba prog w) A (eval (.Call (.Name "len" p) [.Name x q] [] pos) env) Q E s:=by
 refine ae (gB ?_ ay);rw[gM hk dw];refine i4 hg Ur hb Uu ?_;refine dW (plain_any (args:=[.Name x q]) U) (c_ (args:=[.Name x q]) U ?_);refine dE (gB (dQ hk hx hn hm ?_) hxd);refine eN ?_;exact PyProof.Rows.len_str (by lia) (h _ _)
end
end
section
set_option maxHeartbeats 4000000
variable{G:Gv}{e:Env}{σ:St}{P k:Nat}{vs:List aq}{h:Heap}{xs:List (Str×Str)}
theorem IE{prog:cY}{w:cW}{A:bZ}{E:aq->aA->Prop}{s: aA}{env: Env}{l1 l2 l3 l4 e1 e2 bp: Pos}{xa xb x y: Str}{t u:Tok}{mg mb m:Str->Option aq}{Q:aq->aA->Prop}(hk:env.scope.kind=.function)(dw:env.kindOf "len"=aa .globalImplicit)(hg:s.heap.Ns env.globals mg)(Ur:mg "len"=none)
  (hb:s.heap.Ns env.builtins mb) (Uu:mb "len"=aa (.builtin "len")) (hx:env.kindOf xa=aa .local) (hy:env.kindOf xb=aa .local) (hn:s.heap.Ns env.locals m) (ha:m xa=aa (.str x t)) (hm:m xb=aa (.str y u)) (hf:x.length<2^60/\y.length<2^60) (hxd:(xa==("__debug__":Str))=false) (hyd:(xb==("__debug__":Str))=false)
  (h:∀tk t',Q (.int ((x.length:Int)+y.length) t') {s with toks:=tk}):aH (ba prog w) A (eval (.BinOp (.Call (.Name "len" l1) [.Name xa e1] [] l2) .Add (.Call (.Name "len" l3) [.Name xb e2] [] l4) bp) env) Q E s:=
 wpAny_BinOp (yW hk dw hg Ur hb Uu hx hn ha hf.1 hxd λAG t1=>yW (s:={s with toks:=AG}) hk dw hg Ur hb Uu hy hn hm hf.2 hyd λtk2 t2=>PySem.P.add_int (h _ _))
structure Pairs(h:Heap)(vs:List aq)(xs:List (Str×Str))(Ts:Nat->Addr)(vals:Nat->Array aq):Prop where
 two:∀j,∃va vb,vals j=#[va,vb]
 item:∀j,j<vs.length->vs[j]?=aa (.ref (Ts j))
 tup:∀j,j<vs.length->h.IsTuple (Ts j) (vals j)
 str:∀j,j<vs.length->∃t u,vals j=#[.str (xs.getD j (⟨#[]⟩,⟨#[]⟩)).1 t,.str (xs.getD j (⟨#[]⟩,⟨#[]⟩)).2 u]
theorem yE{α: AM}(r:di α h (xs.map dZ) vs):∃Ts vals,Pairs h vs xs Ts vals:=by
 have hl:vs.length=xs.length:=r.length.trans (aG _);have:∀j,∃p:Addr×Array aq,(∃va vb,p.2=#[va,vb])/\(j<vs.length->vs[j]?=aa (.ref p.1)/\h.IsTuple p.1 p.2/\∃t u,p.2=#[.str (xs.getD j (⟨#[]⟩,⟨#[]⟩)).1 t,.str (xs.getD j (⟨#[]⟩,⟨#[]⟩)).2 u]):=by
  intro j;by_cases hj:j<vs.length
  ·refine B4 (KW r j (hl▸hj)) λa t u e1 e2=>?_
   have hg:xs.getD j (⟨#[]⟩,⟨#[]⟩)=xs[j]'(hl▸hj):=by rw[aU,aP (hl▸hj)];rfl
   exact⟨(a,_),⟨_,_,U⟩,λzz=>⟨e1,e2,t,u,by rw[hg]⟩⟩
  ·exact⟨(0,#[.none,.none]),⟨_,_,U⟩,λh=>absurd h hj⟩
 refine iH (Classical.skolem.mp this) λf hf=>?_;exact Aa (λj=>(f j).1) (λj=>(f j).2) ⟨λj=>(hf j).1,λj l=>((hf j).2 l).1,λj l=>((hf j).2 l).2.1,λj l=>((hf j).2 l).2.2⟩
theorem Pairs.abq{Ts:Nat->Addr}{vals:Nat->Array aq}{j: Nat}{va vb: aq}(p:Pairs h vs xs Ts vals)(hj:j<vs.length)(hl:vs.length=xs.length)(e:(#[va,vb]:Array aq)=vals j):
  ∃x y t u,va=.str x t/\vb=.str y u/\(x,y)∈xs/\(kJ xs).getD j 0=(x.length:Int)+y.length:=by
 have Uo:j<xs.length:=hl▸hj;have hg:xs.getD j (⟨#[]⟩,⟨#[]⟩)=xs[j]:=by rw[aU,aP Uo];rfl
 obtain⟨t,u,ev⟩:=p.str j hj;rw[hg]at ev;have e:=congrArg Array.toList (e.trans ev);injection e with e1 e
 injection e with e2 _
 refine⟨_,_,t,u,e1,e2,ew Uo,?_⟩;unfold kJ;rw[aU,cM,aP Uo];rfl
theorem yl{β: AM}{s1 s3 s6: aA}{it: Nat}{q:Nat->Nat->Str}{oi: Obj}(g1:GS G β σ s1)(g3:GS G β σ s3)(k3:Le β s1.heap β s3.heap)(hP:σ.get k=aa (.tab P q))(itn:s1.heap.get? it=none)(hi:s3.heap.get? it=aa oi)(hic:∀vs t q,oi.data=.fields vs->vs[1]?≠aa (.str q t))(hPi:it≠P)
  (up:∀b o,b≠P->s1.heap.get? b=aa o->s3.heap.get? b=aa o) (hold:∀b o,b≠it->s3.heap.get? b=aa o->s6.heap.get? b=aa o) (hos:s6.os=G.os) (hb:AllBare s6.gens):Le β s1.heap β s6.heap/\GS G β σ s6:=by
 have Xh:∀b o,s1.heap.get? b=aa o->b≠it:=λb o e z=>by rw[z,itn]at e;cases e
 have le:Le β s1.heap β s6.heap:=⟨λzz zz zz e=>e,λzz h=>.inl h,U,λb o f e=>hold b o (Xh b o e) (k3.keep b o f e)⟩;refine⟨le,λk' ao e=>?_,g3.ow,λb o e=>⟨(g3.base b o e).1,hold b o (Xh b o (g1.base b o e).2) (g3.base b o e).2⟩,g3.inj,g3.new,λb h=>?_,λb h=>?_,hos,hb⟩
 ·by_cases hkt:k'=k
  ·subst hkt
   cases e.symm.trans hP;obtain⟨b,hb,z,ps3,e3,t3,aaQ⟩:=g3.own _ _ hP;subst z;refine⟨b,hb,U,ps3,hold _ _ (Ne.symm hPi) e3,t3,λpos cv hc=>?_⟩;obtain⟨⟨c1,o1,vs1,t1,ec,eg,d1,g1'⟩,f1⟩:=aaQ pos cv hc;exact⟨⟨c1,o1,vs1,t1,ec,hold _ _ (λz=>by rw[z,hi]at eg;cases eg;exact hic _ _ _ d1 g1') eg,d1,g1'⟩,f1⟩
  ·obtain⟨a,ha,z,_⟩:=g1.own _ _ hP
   obtain⟨b,hb,r⟩:=g1.own _ _ e;exact⟨b,hb,r.mono le λo eo=>hold b o (Xh b o eo) (up b o (λy=>hkt (g1.inj _ _ _ _ _ e hP (y.trans z.symm▸hb) ha)) eo)⟩
 ·obtain⟨o,z⟩:=g1.lt b h
  obtain⟨o',ho⟩:=g3.lt b h;exact⟨o',hold b o' (Xh b o z) ho⟩
 ·obtain⟨o,ho,f⟩:=g1.qf b h
  obtain⟨o',ho',f'⟩:=g3.qf b h;exact⟨o',hold b o' (Xh b o ho) ho',f'⟩
theorem Ga{K: Frag}{C x d k: Nat}{xs: List (Str×Str)}{i: Int}{m: List (Str×CV)}{c P: Nat}{q:Nat->Nat->Str}{mg mb:Str->Option aq}{xa xb nm: Str}{p l1 l2 l3 l4 e1 e2 bp pa pb pt sp tY s2 ap pos: Pos}{kt: Nat}{scope: jk}
  (hh:G.A.handled=none) (tT:G.A.depth<bA) (Ml:G.h₀.NoLimit) (kl:Kl K C) (X:K.In G.h₀) (zc:d8 K (.ref C) "__iter__"=aa (aa (.builtin "list.__iter__")))
  (hl:bB e (aF "self") .local=af) (hf:σ.get e.locals=aa (.frame m)) (hm:m.lookup (aF "self")=aa (.ref x)) (hx:σ.get x=aa (.bT C d (xs.map dZ))) (hd:σ.get d=aa (.size i))
  (hfo:∀tk t,findObj K C (aa (qO G.w.params i tk t)) nm=aa (.value (.int i t))) (hi:(decide (-(2^63)<=i)&&decide (i<2^63))=af) (kL:∀p∈xs,p.1.length<2^60/\p.2.length<2^60)
  (abC:Glob G "sum" (.builtin "sum")) (abD:bB e "sum" .globalImplicit=af) (Kc:e.globals=3) (hbe:e.builtins=0) (rO:e.code=.ref c) (hC:iA G.h₀ c P) (hP:σ.get k=aa (.tab P q)) (hq:q tY.line tY.col=e.qual++"<genexpr>")
  (sv:G.h₀.Ns dk mg) (y':mg "len"=none) (mH:G.h₀.BuiltinsAt mg P) (hmb:G.h₀.Ns builtinsNs mb) (SN:mb "len"=aa (.builtin "len"))
  (ze:scope.isCoroutine=false) (tV:nQ e scope.names []=aa []) (lO:∀y∈scope.names,y.2≠.cell) (h0:scope.names.lookup (".0":Str)=aa NameKind.local)
  (Mj:scope.names.lookup xa=aa .local) (Mi:scope.names.lookup xb=aa .local) (YG:xa≠xb) (oA:scope.kind=.function) (Yb:scope.names.lookup ("len":Str)=aa .globalImplicit)
  (Yt:(xa==("__debug__":Str))=false) (Yr:(xb==("__debug__":Str))=false):
  a8 G e (.Call (.Name "sum" p) [.GeneratorExp (.BinOp (.Call (.Name "len" l1) [.Name xa e1] [] l2) .Add (.Call (.Name "len" l3) [.Name xb e2] [] l4) bp) [⟨.Tuple [.Name xa pa,.Name xb pb] kt pt,.Name (aF "self") sp,[],0⟩] scope tY,
   .Attribute (.Name (aF "self") s2) nm ap] [] pos) σ (.int (i+(kJ xs).sum)) σ:=by
 intro α s env E ei g;obtain⟨cl0,SU,rfl⟩:=sA ei tV;have By:env.globals=dk:=ei.globals.trans Kc;have hl:=bB.is hl ei;refine ae (J9 (a8.glob (G:=G) (e:=e) (σ:=σ) (p:=p) abC abD Kc hbe U α s env E ei g) λβ s1 x1 g1=>?_);have Ou:=ei.mono x1;have kp:=λb o eb=>(g1.base b o eb).2;refine dH λlg eS=>?_;obtain⟨L,hL,mf,tU,hr⟩:=g1.own _ _ hf;cases hL.symm.trans Ou.loc;obtain⟨v,hv,rv⟩:=hr _ _ hm;obtain⟨ax,ab,vs,n,PS,tt,rfl,hax,I,r⟩:=g1.r7 hx hd rv;obtain⟨P',abX,rfl,ps1,ME,_⟩:=g1.own _ _ hP;obtain⟨Ts,vals,TV⟩:=yE r;obtain⟨bm,ob,b1,b2,b3,b4,b5,b6,b7,b8⟩:=mH;have dw:vs.length=xs.length:=r.length.trans (aG _);have Z9:ax≠P':=λe=>by have:=I.at_;rw[e,ME]at this;cases this
 have hbP:ab≠P':=λe=>by have:s1.heap.get? ab=aa (qO G.w.params i PS tt):=I.dict;rw[e,ME]at this;cases this
 obtain⟨of,es,ep,eL,dL⟩:=tU;have hLP:env.locals≠P':=λe=>by rw[e,ME]at eL;cases eL;cases dL.1
 have hTP:∀j,j<vs.length->Ts j≠P':=λj hj e=>by
  obtain⟨o,eo,ec,_⟩:=TV.tup j hj;rw[e,ME]at eo;cases eo;cases ec
 refine eS ?_;refine dW (plain_any U) (c_ U (dE ?_));refine wpAny_GeneratorExp_walksQT (cl:=[]) hh ze SU lO h0 Mj Mi YG oA tT ?_ (λzz=>U);refine gB (dQ hl.1 hl.2 ⟨of,es,ep,eL,dL⟩ hv ?_) ay;refine vD (X.keeps kp) I kl.sub zc ?_;generalize hit:s1.heap.objs.size=it;have Vr:∀b o,s1.heap.get? b=aa o->(s1.heap.push {cls:=.type "list_iterator",data:=.fields #[.ref ax,.int 0 0]}).get? b=aa o:=λb o e=>aC _ e;have t2:=g1.same (h':=s1.heap.push {cls:=.type "list_iterator",data:=.fields #[.ref ax,.int 0 0]}) Vr s1.toks;have SO:(s1.heap.push {cls:=.type "list_iterator",data:=.fields #[.ref ax,.int 0 0]}).get? it=aa {cls:=.type "list_iterator",data:=.fields #[.ref ax,.int 0 0]}:=hit▸aJ _ U;have D':∀{b o},s1.heap.get? b=aa o->b<it:=λe=>hit▸bx e;have I6:it≠P':=(bL (D' ME)).symm;refine⟨Ml.keeps λb o eb=>(t2.2.base b o eb).2,?_⟩;refine CQ (ei.code.trans rO) hC t2.2 hP (hq.trans (by rw[ei.qual])) λcode h3 tk g3 XT k3=>?_;have EU:=λb o eb=>(g3.base b o eb).2;refine wpAny_builtinsFor (By.symm▸sv.keeps EU) b1 b2 (EU _ _ b5) b6 b7 b8 ?_;have J_:∀b o,b≠P'->s1.heap.get? b=aa o->h3.get? b=aa o:=λb o hb e=>XT b o hb (Vr b o e);have qw:h3.get? it=aa {cls:=.type "list_iterator",data:=.fields #[.ref ax,.int 0 0]}:=XT _ _ I6 SO;have Xs:∀{b},b<it->b<h3.objs.size:=λhb=>ka hb (bx qw);refine xi8 it (it::ax::(bc vs.toArray.size).map Ts) [it] vs.toArray.size _ _ _ (λzz=>af) ⟨λj y=>∃t,y=.int ((kJ xs).getD j 0) t,U,λA' hA=>WalksU.bT hA it ax (bL (D' I.at_)) vs.toArray Ts vals (λj hj=>by rw[bH];exact TV.item j hj) (λj hj=>let⟨o,e,_⟩:=TV.tup j hj;bL (D' e)),?_,?_,?_,Ml.keeps EU,?_,?_,?_⟩
 ·exact λj v q=>q.2▸TV.two j
 ·exact⟨⟨_,qw,U,U⟩,⟨_,_,J_ _ _ Z9 I.at_,U⟩,λj hj=>let⟨o,e,rr⟩:=TV.tup j hj;⟨o,J_ _ _ (hTP j hj) e,rr⟩⟩
 ·intro b hb
  rcases List.mem_cons.mp hb with rfl|hb
  ·exact bx qw
  ·rcases List.mem_cons.mp hb with rfl|hb
   ·exact Xs (D' I.at_)
   ·obtain⟨j,hj,rfl⟩:=List.mem_map.mp hb
    exact let⟨o,e,_⟩:=TV.tup j (List.mem_range.mp hj);Xs (D' e)
 ·intro hc
  obtain⟨_,hn,_⟩:=Ml.keeps kp;exact eE _ (List.mem_singleton.mp hc▸hit▸hn.lt)
 ·refine λabF I7=>⟨λA' E' j va vb ie wL hA hP hn ha hb I_=>av ⟨U,ie.heap,ie.toks,U,λzz zz e=>e⟩,λA' E' j va vb ie wL hA YH zz hn ha hb I_=>?_⟩
  have bb:∀b o,G.h₀.get? b=aa o->ie.heap.get? b=aa o:=λb o e =>
   I_ b (List.mem_range.mpr (bx (EU _ _ e))) (λhb=>eE _ (List.mem_singleton.mp hb▸D' (kp _ _ e))) o (I7 _ _ (EU _ _ e))
  obtain⟨x,y,t,u,rfl,rfl,hm,hs⟩:=TV.abq YH.1 dw YH.2;exact IE (mg:=mg) (mb:=mb) oA Yb (By.symm▸sv.keeps bb) y' (hmb.keeps bb) SN Mj Mi hn ha hb (kL _ hm) Yt Yr λAG t1=>⟨⟨_,by rw[hs]⟩,_,_,U,λzz zz e=>e⟩
 ·intro a h5 tk5 gs hgs ha SI Um W X4
  refine dE ?_;have up5:∀b o,b≠P'->s1.heap.get? b=aa o->h5.get? b=aa o:=λb o hb e=>Um _ _ (J_ b o hb e);refine PyProof.Rows.Attribute_name (gB (dQ hl.1 hl.2 ⟨of,es,ep,up5 _ _ hLP eL,dL⟩ hv ?_) ay);refine t7 (X.keeps λb o e=>Um _ _ (EU b o e)) ⟨up5 _ _ Z9 I.at_,U,U,up5 _ _ hbP I.dict⟩ kl.ga kl.gn kl.sub (hfo PS tt) U ?_;refine eN ?_;have W1:=W.in4_1;have X3:=W1.frame 0 _ h5 (tk5+1) X4 (cm _) λzz zz zz e=>e;refine ud hi (W1.self 0 _ _ _ X3 (xi8 a _ _ _ _ _ _ (λj=>(kJ xs).getD j 0) ⟨U,W1,X3,?_,?_,λs6 t6 Mm=>?_⟩))
  ·intro b hb
   rw[show h5.objs.size=a+1 from SI];rcases List.mem_cons.mp hb with rfl|hb
   ·exact bq _
   ·rcases List.mem_cons.mp hb with rfl|hb
    ·exact d0 ha
    ·exact d0 (ka (List.mem_range.mp hb) ha)
  ·rintro j v ⟨j',Od,t,rfl⟩
   rw[ma]at Od;have:j'=j:=by
    obtain⟨h1,h2⟩:=List.getElem?_eq_some_iff.mp Od;rw[jl]at h2;exact h2.symm
   exact⟨t,this▸U⟩
  ·have hpn:(passing (λzz=>af) vs.toArray.size 0).length=(kJ xs).length:=by
    rw[ma,dY];unfold kJ;rw[aG,←dw];rfl
   rw[hpn,preSum_getD,List.take_length];have hold:∀b o,b≠it->h3.get? b=aa o->s6.heap.get? b=aa o:=λb o hb e=>Mm.heap b o (λI4=>(List.mem_cons.mp I4).elim (λe'=>eE _ (bx (e'▸e))) λe'=>hb (List.mem_singleton.mp e')) (Um _ _ e);have fin:=yl g1 g3 (t2.1.trans k3) hP (hit▸ez _) qw (λvs t q e=>by cases e;exact λz=>by cases z) I6 J_ hold (Mm.os.trans g3.os) (AllBare.movedS (g3.bare.push hgs) Mm);exact⟨β,x1.trans fin.1,fin.2,⟨_,U⟩⟩
end
section
set_option maxHeartbeats 4000000
variable{G:Gv}{σ σ1:St}{K:Frag}{C x d:Nat}{xs:List CV}
theorem len_own{f:Nat}{i j:Int}(X:K.In G.h₀)(hf:d8 K (.ref C) (aF "__len__")=aa (aa (.ref f)))(ht:jm K (.ref f)=aa (.type "function"))
  (hx:σ.get x=aa (.bT C d xs)) (hd:σ.get d=aa (.size i)) (h:bM (om G) (λvs=>call (.ref f) vs) [.ref x] σ (.int j) σ1) (h0:0<=j) (h1:j<2^63):bM G (λvs=>call (.builtin "len") vs) [.ref x] σ (.int j) σ1:=by
 intro α s _ E g pX;refine f5 (pX) λv zz mV r nW=>?_;obtain rfl:=mV;obtain rfl:=nW;obtain⟨a,b,vs,k,tk,tt,rfl,ha,I,q⟩:=g.r7 hx hd r;have X1:K.In s.heap:=X.keeps λb o eb=>(g.base b o eb).2;have L:eF G.M s.heap (specialOf (.ref a) "__len__") (aa (.ref f)):=I.type.andThen (dv X1 hf);have Lb:=bind_fn (M:=G.M) X1 (.ref a) ht;refine Calls.call_function_entry kind_len plain_len entry_len (args_len1 _) ?_;unfold dg.«len»;refine ae (m:=oneArg "len" _) (av ?_);refine ae (m:=callSpecial? (.ref a) (aF "__len__")) ?_;unfold callSpecial?;refine ae (L.here ?_);dsimp only;refine aQ (ae (Lb.here ?_));refine ae (iI (h α s [.ref a] E g.in1 ⟨_,_,U,⟨a,U,ha⟩,U⟩) λβ vq s1 x1 g1 rq=>?_);obtain⟨t,rfl⟩:=rq;refine av ?_;refine ae (aQ (av ?_));refine ae (wpAny_letGo ?_);show aH _ _ (if j<0 then _ else _) _ _ _;rw[if_neg (Int.not_lt.mpr h0)];show aH _ _ (if j ≥ 2^63 then _ else _) _ _ _;rw[if_neg (Int.not_le.mpr h1)];exact ae (wpAny_mkInt (av ⟨_,U,(g1.Vt.fh ⟨_,U⟩).trans x1⟩))
end
section
noncomputable abbrev So(x:String):Str:=aF x
noncomputable def jD(lt:Int->Bool):Nat->Int->Int->Int
 |0,lo,hi=>lo
 |n+1,lo,hi=>if lo<hi then(if lt ((lo+hi).fdiv 2)then jD lt n lo ((lo+hi).fdiv 2)else jD lt n ((lo+hi).fdiv 2+1) hi)else lo
theorem rH{lo hi:Int}(h:lo<hi):lo<=(lo+hi).fdiv 2/\(lo+hi).fdiv 2<hi:=by
 rw[Int.fdiv_eq_ediv_of_nonneg _ ay];lia
theorem nG(lt:Int->Bool):∀(n:Nat)(lo hi:Int),lo<=hi->lo<=jD lt n lo hi/\jD lt n lo hi<=hi:=by
 intro n
 induction n with
 |zero=>exact λlo hi h=>⟨b_ lo,h⟩
 |succ n ih =>
  intro lo hi h;unfold jD;by_cases c:lo<hi
  ·have hm:=rH c
   rw[if_pos c];cases lt ((lo+hi).fdiv 2)with
   |true=>exact(ih lo _ hm.1).imp id λq=>bY q (d4 hm.2)
   |false=>exact(ih _ hi hm.2).imp (λq=>bY hm.1 (bY (d4 (Int.lt_succ _)) q)) id
  ·rw[if_neg c];exact⟨b_ lo,h⟩
theorem TB{lt:Int->Bool}{k:Nat}{lo hi:Int}(h:lo<hi):jD lt (k+1) lo hi=bif lt ((lo+hi).fdiv 2)then jD lt k lo ((lo+hi).fdiv 2)else jD lt k ((lo+hi).fdiv 2+1) hi:=by
 rw[jD,if_pos h];cases lt ((lo+hi).fdiv 2)<;>rfl
structure BE(e:Env):Prop where
 a:bB e (So "a") .local=af
 x:bB e (So "x") .local=af
 lo:bB e (So "lo") .local=af
 hi:bB e (So "hi") .local=af
 key:bB e (So "key") .local=af
 mid:bB e (So "mid") .local=af
 len:bB e (So "len") .globalImplicit=af
 g:e.globals=3
 b:e.builtins=0
variable{G:Gv}{e:Env}{m:Nat}{σ σ1:St}
noncomputable abbrev bF(a x lo hi key:CV):List (Str×CV):=[(So "key",key),(So "hi",hi),(So "lo",lo),(So "x",x),(So "a",a)]
noncomputable abbrev TP(a x lo hi key mid:CV):List (Str×CV):=[(So "key",key),(So "hi",hi),(So "lo",lo),(So "x",x),(So "a",a),(So "mid",mid)]
structure xY(e:Env)(Z:List (Str×CV)->St):Prop where
 get:∀m,(Z m).get e.locals=aa (.frame m)
 set:∀m m',(Z m).set e.locals (.frame m')=Z m'
variable{Z Z':List (Str×CV)->St}
theorem xY.loc{x p fr c}(z:xY e Z)(hx:fr.lookup x=aa c)(hl:autoParam (bB e x .local=af) uw)(hd:autoParam (C4 x=false) iU):a8 G e (.Name x p) (Z fr) c (Z fr):=.loc (z.get fr) hx hl hd
theorem xY.put{x p value pos c fr r8}(z:xY e Z)(h:a8 G e value σ c (Z fr))(hl:bB e x .local=af)(hu:upd fr x c=r8)(hc:autoParam (pK value=false) iU):SS G m e (.Assign [.Name x p] value pos) σ .next (Z r8):=
 hu▸z.set fr (upd fr x c)▸SS.assign h (.loc (z.get fr) hl) hc
theorem zG{a x key: CV}{lo hi: Int}{t up: Bool}{T: Expr}{p4 p5 p6 p7 p8 p9 E5 E4 q1 q2 q3 q4 q5 q6 q7 q8: Pos}{k8 kk: Nat}(b:BE e)(z:xY e Z)(z':xY e Z')(hb:EB m e=af)
  (hT:cS G e T (Z (TP a x (.int lo) (.int hi) key (.int ((lo+hi).fdiv 2)))) t (Z' (TP a x (.int lo) (.int hi) key (.int ((lo+hi).fdiv 2))))):
  eY G m e [.Assign [.Name (So "mid") p4] (.BinOp (.BinOp (.Name (So "lo") p5) .Add (.Name (So "hi") p6) p7) .FloorDiv (.Constant (.int 2) k8 p8) p9) E5,
    .If T (cond up [.Assign [.Name (So "lo") q1] (.BinOp (.Name (So "mid") q2) .Add (.Constant (.int 1) kk q3) q4) q5] [.Assign [.Name (So "hi") q6] (.Name (So "mid") q7) q8])
    (cond up [.Assign [.Name (So "hi") q6] (.Name (So "mid") q7) q8] [.Assign [.Name (So "lo") q1] (.BinOp (.Name (So "mid") q2) .Add (.Constant (.int 1) kk q3) q4) q5]) E4] (Z (bF a x (.int lo) (.int hi) key)) .next
   (Z' (TP a x (.int (bif cond up (!t) t then lo else(lo+hi).fdiv 2+1)) (.int (bif cond up (!t) t then(lo+hi).fdiv 2 else hi)) key (.int ((lo+hi).fdiv 2)))):=by
 refine .cons (z.put (.bin (.bin (z.loc U b.lo) (z.loc U b.hi) jq) .int (mc ay ay)) b.mid U) (.cons (.js hT ?_) .nil hb) hb;clear hT;generalize (lo+hi).fdiv 2=mid;cases up<;>cases t<;>first|exact .cons (z'.put (z'.loc U b.mid) b.hi U) .nil hb|exact .cons (z'.put (.bin (z'.loc U b.mid) .int jq) b.lo U) .nil hb
theorem zH{S:Int->Int->St}{n: Int}{l:Int->Bool}{wa: Expr}{body: List Stmt}{pos: Pos}(hb:EB m e=af)(ht:∀lo hi,cS G e wa (S lo hi) (decide (lo<hi)) (S lo hi))
  (h:∀lo hi,0<=(lo+hi).fdiv 2->(lo+hi).fdiv 2<n->∃τ,eY G m e body (S lo hi) .next τ/\gN m τ (S (bif l ((lo+hi).fdiv 2)then lo else(lo+hi).fdiv 2+1) (bif l ((lo+hi).fdiv 2)then(lo+hi).fdiv 2 else hi)))
  {k:Nat}{lo hi:Int}(h0:0<=lo) (j6:lo<=hi) (hn:hi<=n) (hk:hi<=lo+k) {r:Int}(hr:jD l k lo hi=r):SS G m e (.While wa body [] pos) (S lo hi) .next (S r r):=by
 refine SS.Au (λk σ=>∃lo hi,σ=S lo hi/\0<=lo/\lo<=hi/\hi<=n/\hi<=lo+k/\jD l k lo hi=r) _ ⟨lo,hi,U,h0,j6,hn,hk,hr⟩ hb ?_;clear h0 j6 hn hk hr lo hi k;intro k _ ya;refine Fq (ya) λlo hi pW h0 j6 hn hk hr=>?_;obtain rfl:=pW;by_cases i8:lo<hi
 ·refine lA (rH i8) λm3 m4=>?_
  cases k with
  |zero=>exact absurd (jz i8 (Int.add_zero lo▸hk)) (Int.lt_irrefl lo)
  |succ k =>
  rw[TB i8]at hr;have m0:=bY h0 m3;refine aR (h lo hi m0 (jz m4 hn)) λτ h1 h2=>?_;have ht:=ht lo hi;rw[decide_eq_true i8]at ht;refine .inr ⟨_,τ,_,k,ht,h1,h2,bq k,_,_,U,?_⟩;clear h1 h2 ht;cases hx:l ((lo+hi).fdiv 2)with
  |true=>rw[hx]at hr;exact⟨h0,m3,bY (d4 m4) hn,Int.lt_add_one_iff.mp (jz m4 (Int.add_assoc lo k 1▸hk)),hr⟩
  |false=>rw[hx]at hr;exact⟨bY m0 (d4 (Int.lt_succ _)),m4,hn,bY hk (bY (Int.add_le_add_right m3 _) (Int.le_of_eq ((congrArg _ (Int.add_comm (k:Int) 1)).trans (Int.add_assoc _ _ _).symm))),hr⟩
 ·obtain rfl:lo=hi:=Int.le_antisymm j6 (Int.not_lt.mp i8)
  have hr':jD l k lo lo=lo:=by
   cases k with
   |zero=>rfl
   |succ k=>rw[jD,if_neg (Int.lt_irrefl lo)]
  obtain rfl:lo=r:=hr'.symm.trans hr;have ht:=ht lo lo;rw[decide_eq_false i8]at ht;exact .inl ht
noncomputable def ng:Option Int->CV
 |some h=>.int h
 |none=>.none
theorem zI{xs: List CV}{x key: CV}{hi: Option Int}{lo r: Int}{R W1 W2: List Stmt}{bb: Bool}{p1 p2 p3 p4 p5 p6 p7 p8 p9 E5 E4 J' NI NH NG NF q1 q2 q3: Pos}{k1 k2 k3: Nat}(b:BE e)(z:xY e Z)(hb:EB m e=af)(dw:Glob G (So "len") (.builtin "len"))
  (ha:∀fr,(Z fr).get 0=aa (.list xs)) (hf:xs.length<2^60) (h0:0<=lo) (hk:∀fr,bN G (bS .Is) key .none (Z fr) (.bool bb) (Z fr))
  (hw:eY G m e (cond bb W1 W2) (Z (bF (.ref 0) x (.int lo) (.int (hi.getD xs.length)) key)) .next (Z (bF (.ref 0) x (.int r) (.int r) key))):
  eY G m e [.If (.Compare (.Name (So "lo") p1) [.Lt] [.Constant (.int 0) k1 p2] p3) R [] p4,
   .If (.Compare (.Name (So "hi") p5) [.Is] [.Constant .none k2 p6] p7) [.Assign [.Name (So "hi") p8] (.Call (.Name (So "len") p9) [.Name (So "a") E5] [] E4) J'] [] NI,
   .If (.Compare (.Name (So "key") NH) [.Is] [.Constant .none k3 NG] NF) W1 W2 q1,.Return (aa (.Name (So "lo") q2)) q3] (Z (bF (.ref 0) x (.int lo) (ng hi) key)) (.ret (.int r)) (Z (bF (.ref 0) x (.int r) (.int r) key)):=by
 refine .cons (.js (b:=false) (.cmp (z.loc U b.lo) .int (decide_eq_false (Int.not_lt.mpr h0)▸iK)) .nil) ?_ hb;refine .cons (σ1:=Z (bF (.ref 0) x (.int lo) (.int (hi.getD xs.length)) key)) ?_ ?_ hb
 ·cases hi with
  |none=>exact .js (b:=af) (.cmp (z.loc U b.hi) .none nv) (.cons (z.put (.mn (.glob dw b.len b.g b.b) (.cons (z.loc U b.a) .nil) (Ec (ha _) (aM hf ay))) b.hi U) .nil hb)
  |some h=>exact .js (b:=false) (.cmp (z.loc U b.hi) .none (lJ U)) .nil
 ·refine .cons (.js (b:=bb) (.cmp (z.loc U b.key) .none (hk _)) (by cases bb<;>exact hw)) (.stop (.ret (z.loc U b.lo)) U) hb
theorem n9{xs: List Int}{i: Int}(h0:0<=i)(h:i<xs.length):(xs.map CV.int)[i.toNat]?=aa (.int (xs.getD i.toNat 0)):=by
 have:i.toNat<xs.length:=by lia
 simp[cM,this]
end
section
variable{G:Gv}{e:Env}{m:Nat}{f:CF}{Z:List (Str×CV)->St}{Zm:Int->List (Str×CV)->St}{n:Nat}
structure Nb(G:Gv)(e:Env)(m:Nat)(Z:List (Str×CV)->St)(Zm:Int->List (Str×CV)->St)(xs:List CV)(key:CV)(v:Int->Int)(I:Expr):Prop where
 b:BE e
 z:xY e Z
 zm:∀mid,xY e (Zm mid)
 hb:EB m e=af
 len:Glob G (So "len") (.builtin "len")
 a:∀fr,(Z fr).get 0=aa (.list xs)
 f:xs.length<2^60
 i:∀x lo hi mid:Int,0<=mid->mid<xs.length->a8 G e I (Z (TP (.ref 0) (.int x) (.int lo) (.int hi) key (.int mid))) (.int (v mid)) (Zm mid (TP (.ref 0) (.int x) (.int lo) (.int hi) key (.int mid)))
 s:∀x lo hi mid:Int,gN m (Zm mid (TP (.ref 0) (.int x) (.int lo) (.int hi) key (.int mid))) (Z (bF (.ref 0) (.int x) (.int lo) (.int hi) key))
variable{xs:List CV}{key:CV}{v:Int->Int}{I:Expr}{x lo r:Int}{hi:Option Int}{R W1 W2:List Stmt}{bb:Bool}{p1 p2 p3 p4 p5 p6 p7 p8 p9 E5 E4 J' NI NH NG NF q1 q2 q3:Pos}{k1 k2 k3:Nat}
theorem F7{a b: Int}(h:a<=b):b<=a+((b-a).toNat:Nat):=by
 rw[lT (Int.sub_nonneg.mpr h),Int.add_comm,Int.sub_add_cancel];exact b_ b
theorem Nb.right{w1 w2 w3 w4 w5 w6 w7 w8 w9 Vq Vp Vo u0 u1 u2 u3 u4 u5 u6 u7 u8 u9: Pos}{k8 kk: Nat}(S:Nb G e m Z Zm xs key v I)(hN:xs.length=n)(h0:0<=lo)(j6:lo<=hi.getD n)(hn:hi.getD n<=n)(hk:∀fr,bN G (bS .Is) key .none (Z fr) (.bool bb) (Z fr))
  (hr:jD (λk=>decide (x<v k)) (hi.getD n-lo).toNat lo (hi.getD n)=r)
  (hw:cond bb W1 W2=[.While (.Compare (.Name (So "lo") w1) [.Lt] [.Name (So "hi") w2] w3) [.Assign [.Name (So "mid") w4] (.BinOp (.BinOp (.Name (So "lo") w5) .Add (.Name (So "hi") w6) w7) .FloorDiv (.Constant (.int 2) k8 w8) w9) Vq,
   .If (.Compare (.Name (So "x") u0) [.Lt] [I] u9) [.Assign [.Name (So "hi") u6] (.Name (So "mid") u7) u8] [.Assign [.Name (So "lo") u1] (.BinOp (.Name (So "mid") u2) .Add (.Constant (.int 1) kk u3) u4) u5] Vp] [] Vo]) (hm:behindInMarks .Lt I=false):
  eY G m e [.If (.Compare (.Name (So "lo") p1) [.Lt] [.Constant (.int 0) k1 p2] p3) R [] p4,
   .If (.Compare (.Name (So "hi") p5) [.Is] [.Constant .none k2 p6] p7) [.Assign [.Name (So "hi") p8] (.Call (.Name (So "len") p9) [.Name (So "a") E5] [] E4) J'] [] NI,
   .If (.Compare (.Name (So "key") NH) [.Is] [.Constant .none k3 NG] NF) W1 W2 q1,.Return (aa (.Name (So "lo") q2)) q3] (Z (bF (.ref 0) (.int x) (.int lo) (ng hi) key)) (.ret (.int r)) (Z (bF (.ref 0) (.int x) (.int r) (.int r) key)):=
 by subst hN;exact zI S.b S.z S.hb S.len S.a S.f h0 hk (hw ▸ .cons (zH (S:=λlo hi=>Z (bF (.ref 0) (.int x) (.int lo) (.int hi) key)) (n:=xs.length) S.hb (λlo hi=>.cmp (S.z.loc U S.b.lo) (S.z.loc U S.b.hi) iK)
  (λlo hi c0 c1=>⟨_,zG (up:=false) S.b S.z (S.zm _) S.hb (.cmp (S.z.loc U S.b.x) (S.i _ _ _ _ c0 c1) iK hm),S.s _ _ _ _⟩) h0 j6 hn (F7 j6) hr) .nil S.hb)
theorem Nb.left{w1 w2 w3 w4 w5 w6 w7 w8 w9 Vq Vp Vo u0 u1 u2 u3 u4 u5 u6 u7 u8 u9: Pos}{k8 kk: Nat}(S:Nb G e m Z Zm xs key v I)(hN:xs.length=n)(h0:0<=lo)(j6:lo<=hi.getD n)(hn:hi.getD n<=n)(hk:∀fr,bN G (bS .Is) key .none (Z fr) (.bool bb) (Z fr))
  (hr:jD (λk=>!decide (v k<x)) (hi.getD n-lo).toNat lo (hi.getD n)=r)
  (hw:cond bb W1 W2=[.While (.Compare (.Name (So "lo") w1) [.Lt] [.Name (So "hi") w2] w3) [.Assign [.Name (So "mid") w4] (.BinOp (.BinOp (.Name (So "lo") w5) .Add (.Name (So "hi") w6) w7) .FloorDiv (.Constant (.int 2) k8 w8) w9) Vq,
   .If (.Compare I [.Lt] [.Name (So "x") u0] u9) [.Assign [.Name (So "lo") u1] (.BinOp (.Name (So "mid") u2) .Add (.Constant (.int 1) kk u3) u4) u5] [.Assign [.Name (So "hi") u6] (.Name (So "mid") u7) u8] Vp] [] Vo]):
  eY G m e [.If (.Compare (.Name (So "lo") p1) [.Lt] [.Constant (.int 0) k1 p2] p3) R [] p4,
   .If (.Compare (.Name (So "hi") p5) [.Is] [.Constant .none k2 p6] p7) [.Assign [.Name (So "hi") p8] (.Call (.Name (So "len") p9) [.Name (So "a") E5] [] E4) J'] [] NI,
   .If (.Compare (.Name (So "key") NH) [.Is] [.Constant .none k3 NG] NF) W1 W2 q1,.Return (aa (.Name (So "lo") q2)) q3] (Z (bF (.ref 0) (.int x) (.int lo) (ng hi) key)) (.ret (.int r)) (Z (bF (.ref 0) (.int x) (.int r) (.int r) key)):=
 by subst hN;exact zI S.b S.z S.hb S.len S.a S.f h0 hk (hw ▸ .cons (zH (S:=λlo hi=>Z (bF (.ref 0) (.int x) (.int lo) (.int hi) key)) (n:=xs.length) S.hb (λlo hi=>.cmp (S.z.loc U S.b.lo) (S.z.loc U S.b.hi) iK)
  (λlo hi c0 c1=>⟨_,zG (up:=af) S.b S.z (S.zm _) S.hb (.cmp (S.i _ _ _ _ c0 c1) ((S.zm _).loc U S.b.x) iK),S.s _ _ _ _⟩) h0 j6 hn (F7 j6) hr) .nil S.hb)
noncomputable abbrev Zp(ns:List Int)(fr:List (Str×CV)):St:=⟨[(1,.frame fr),(0,.list (ns.map .int))],2⟩
theorem Nb.plain{ns: List Int}{p1 p2 p3: Pos}(b:BE e)(he:e.locals=1)(hb:EB 2 e=af)(len:Glob G (So "len") (.builtin "len"))(f:ns.length<2^60)(hs:autoParam (∀a b,lV (.Name (So "mid") p2) false a b=operate [a,b] (getItem a b)) Kh):
  Nb G e 2 (Zp ns) (λzz=>Zp ns) (ns.map .int) .none (λk=>ns.getD k.toNat 0) (.Subscript (.Name (So "a") p1) (.Name (So "mid") p2) p3):=
 have z:xY e (Zp ns):=⟨λm=>he▸U,λm m'=>he▸U⟩;have fl:(ns.map CV.int).length<2^60:=by rw[aG];exact f
 ⟨b,z,λzz=>z,hb,len,λzz=>U,fl,
  λx lo hi mid h0 h1=>.sub (z.loc U b.a) (z.loc U b.mid) (cz U h0 (n9 h0 (by rw[aG]at h1;exact h1)) (aM fl ay) hs),
  λx lo hi mid=>gN.mk [] U U ⟨⟨_,U,_,U,U,U,U,U,U,aE⟩,⟨_,U,aS⟩,aE⟩⟩
end
section
variable{e:Env}{g:k7}
theorem vL{x: Str}{k:NameKind}(h1:e.scope.kind=.function)(h2:e.scope.names.lookup x=aa k):bB e x k=af:=by
 unfold bB;rw[h1,show e.kindOf x=aa k from h2];simp
theorem getD_mem{ns: List Int}{i: Int}(h0:0<=i)(h:i<ns.length):ns.getD i.toNat 0∈ns:=by
 have:i.toNat<ns.length:=by lia
 have e:ns.getD i.toNat 0=ns[i.toNat]:=by simp[this]
 exact e▸ew this
noncomputable abbrev Zk(g:k7)(row ns:List Int)(fr:List (Str×CV)):St:=⟨[(4,.frame fr),(3,.list (row.map .int)),(2,.cell (aa (.ref 3))),(1,.fn g),(0,.list (ns.map .int))],5⟩
end
section
variable{G:Gv}{cs:List CV}{a b c d k:CV}
theorem di.aZ{α h}{v: aq}{vs: List aq}(r:VR α h c v)(q:di α h cs vs):di α h (c::cs) (v::vs):=⟨v,vs,U,r,q⟩
theorem ni{α h}{i: Int}{t:Tok}:VR α h (.int i) (.int i t):=⟨t,U⟩
theorem cy{α h}:di α h [] []:=rfl
theorem fo{α h}:VR α h .none .none:=rfl
theorem SK.fj{cs ks: List CV}{σ σ1 σ2: St}{f: CF}{m a: Nat}{fd body cl rb}{names: List Str}(room:G.A.depth<bA)(D:eZ G a fd)(gV:G.h₀.NoLimit)(xg:G.h₀.CodeRec fd.code fd.qualname)(K:jf fd body cl)
  (kM:∀α s vs ws,GS G α σ s->di α s.heap cs vs->di α s.heap ks ws->∃dn,bW s fd ⟨vs,names.zip ws⟩ dn/\dn.reverse.map (·.1)=rb.map (·.1)/\di α s.heap (rb.map (·.2)) (dn.reverse.map (·.2)))
  (hk:(rb.all λp=>fd.scope.names.lookup p.1==aa .local || (fd.scope.names.lookup p.1==aa .cell&&(cl.lookup p.1).isSome))=af) (hm:dM σ.n m=af) (he:xr fd cl rb σ=σ1)
  (h:∀env,eY (deep G env) m (entryE fd cl σ.n a) body σ1 f σ2) {c:CV}(hc:autoParam (vd f=c) iU):SK G (λvs ws=>call (.ref a) vs (names.zip ws)) cs ks σ c σ2:=
 hc▸SK.entry room D gV xg K kM hk (bw hm) λenv=>he▸h env
theorem Et{σ: St}{P:AM->aA->List aq->List aq->Prop}(h:∀α s v w,GS G α σ s->VR α s.heap a v->VR α s.heap b w->P α s [v,w] []):∀α s vs ws,GS G α σ s->di α s.heap [a,b] vs->di α s.heap [] ws->P α s vs ws:=by
 intro α s _ _ g qu qt;refine dH λlg eS=>?_;obtain⟨va,_,rfl,ra,vx,_,rfl,rx,rfl⟩:=qu;obtain rfl:=qt;refine eS ?_;exact h α s va vx g ra rx
theorem Ms{σ: St}{P:AM->aA->List aq->List aq->Prop}(h:∀α s v w u,GS G α σ s->VR α s.heap a v->VR α s.heap b w->VR α s.heap k u->P α s [v,w] [u]):∀α s vs ws,GS G α σ s->di α s.heap [a,b] vs->di α s.heap [k] ws->P α s vs ws:=by
 intro α s _ _ g qu qt;refine dH λlg eS=>?_;obtain⟨va,_,rfl,ra,vx,_,rfl,rx,rfl⟩:=qu;obtain⟨vk,_,rfl,rk,rfl⟩:=qt;refine eS ?_;exact h α s va vx vk g ra rx rk
theorem YE{σ: St}{P:AM->aA->List aq->List aq->Prop}(h:∀α s v w x y,GS G α σ s->VR α s.heap a v->VR α s.heap b w->VR α s.heap c x->VR α s.heap d y->P α s [v,w,x,y] []):∀α s vs ws,GS G α σ s->di α s.heap [a,b,c,d] vs->di α s.heap [] ws->P α s vs ws:=by
 intro α s _ _ g qu qt;refine dH λlg eS=>?_;obtain⟨va,_,rfl,ra,vx,_,rfl,rx,vl,_,rfl,rl,vh,_,rfl,rh,rfl⟩:=qu;obtain rfl:=qt;refine eS ?_;exact h α s va vx vl vh g ra rx rl rh
theorem Es{σ: St}{P:AM->aA->List aq->List aq->Prop}(h:∀α s v w x y u,GS G α σ s->VR α s.heap a v->VR α s.heap b w->VR α s.heap c x->VR α s.heap d y->VR α s.heap k u->P α s [v,w,x,y] [u]):∀α s vs ws,GS G α σ s->di α s.heap [a,b,c,d] vs->di α s.heap [k] ws->P α s vs ws:=by
 intro α s _ _ g qu qt;refine dH λlg eS=>?_;obtain⟨va,_,rfl,ra,vx,_,rfl,rx,vl,_,rfl,rl,vh,_,rfl,rh,rfl⟩:=qu;obtain⟨vk,_,rfl,rk,rfl⟩:=qt;refine eS ?_;exact h α s va vx vl vh vk g ra rx rl rh rk
noncomputable abbrev sP(xs:List Int):St:=⟨[(0,.list (xs.map .int))],1⟩
variable{e:Env}{m:Nat}{σ:St}{ns:List Int}{g:k7}{bn:Str}{x lo r:Int}{hi:Option Int}{bf:Nat}{fd:cO}{E:List Stmt}{p1 p2 p3 p4 p5 p6 p7 p8 p9 E5 E4 J':Pos}{k1:Nat}{r8:List (Str×CV)}
structure BI(e:Env)(bn:Str):Prop where
 a:bB e (So "a") .local=af
 x:bB e (So "x") .local=af
 lo:bB e (So "lo") .local=af
 hi:bB e (So "hi") .local=af
 key:bB e (So "key") .local=af
 fn:bB e bn .globalImplicit=af
 g:e.globals=3
 b:e.builtins=0
 d:C4 bn=false
noncomputable def insI(xs:List Int)(k:Int)(x:Int):List Int:=xs.take k.toNat++x::xs.drop k.toNat
theorem Ek(xs:List Int)(k x:Int):IX (xs.map CV.int) k (.int x)=(insI xs k x).map CV.int:=by
 simp[IX,insI,List.map_take,List.map_drop]
theorem BC{k: Int}(h0:0<=k)(h1:k<2^40):cG k=af:=by
 unfold cG;simp;lia
theorem tQ{k: Int}(h0:0<=k)(h1:k<=ns.length)(h:ns.length<2^20):k<=(ns.map CV.int).length/\(ns.map CV.int).length<=bC/\cG k=af:=by
 rw[aG];exact⟨h1,by simp[bC];lia,BC h0 (by lia)⟩
theorem xe{r:Nat->Nat}:ny r (ng hi)=ng hi:=by cases hi<;>rfl
theorem vH{T: Stmt}{σ: St}(b:BI e bn)(he:e.locals=1)(hb:EB 2 e=af)(D:eZ G bf fd)(hg:Glob G bn (.ref bf))(spec:∀h₀,(∀b o,G.h₀.get? b=aa o->h₀.get? b=aa o)->SK (ext G h₀) (λvs ws=>call (.ref bf) vs ([].zip ws)) [.ref 0,.int x,.int lo,ng hi] [] (sP ns) (.int r) (Zp ns r8))
  (hT:eY G 2 e [T] (Zp ns (bF (.ref 0) (.int x) (.int r) (ng hi) .none)) .next σ):
  eY G 2 e [.If (.Compare (.Name (So "key") p1) [.Is] [.Constant .none k1 p2] p3) [.Assign [.Name (So "lo") p4] (.Call (.Name bn p5) [.Name (So "a") p6,.Name (So "x") p7,.Name (So "lo") p8,.Name (So "hi") p9] [] E5) E4] E J',T]
   (Zp ns (bF (.ref 0) (.int x) (.int lo) (ng hi) .none)) .next σ:=
 have z:xY e (Zp ns):=⟨λm=>he▸U,λm m'=>he▸U⟩
 .cons (.js (b:=af) (.cmp (z.loc U b.key) .none nv) (.cons (z.put (.i_ D (.glob hg b.fn b.g b.b b.d) (.cons (z.loc U b.a) (.cons (z.loc U b.x) (.cons (z.loc U b.lo) (.cons (z.loc U b.hi) .nil))))
  (SK.sU (g:=λvs=>call (.ref bf) vs) (SK.m7 (τ0:=sP ns) (τ1:=Zp ns r8) (l:=[(0,0)]) (c:=.int r) (ks:=[]) (ks0:=[]) U U U ⟨⟨_,U,aS⟩,aE⟩ U (λzz zz h zz=>h) ⟨⟨_,_,U,U,aS⟩,aE⟩ spec (by rw[cK,cK,cK,cK,xe];rfl) U U)) ) b.lo U) .nil hb)) hT hb
end
section
variable{G:Gv}{σ:St}{ns row:List Int}{g:k7}{nm:Str}{x r:Int}{fr:List (Str×CV)}
noncomputable abbrev Z6(g:k7)(row ns:List Int)(nm:Str)(x:Int)(fr:List (Str×CV)):St:=(Zk g row ns fr).push (.frame [(nm,.int x)])
theorem mh{n:Nat}(h:σ.get n=aa (.list (ns.map .int)))(h0:0<=r)(h1:r<=ns.length)(hf:ns.length<2^20):bM G (λvs=>call (.builtin "list.insert") vs) [.ref n,.int r,.int x] σ .none (σ.set n (.list ((insI ns r x).map .int))):=
 Ek ns r x▸yU h h0 (tQ h0 h1 hf).1 (tQ h0 h1 hf).2.1 (tQ h0 h1 hf).2.2
end
section
variable{G:Gv}{σ τ1:St}{ns Z4:List Int}{g:k7}{f:List aq->List aq->Sem aq}{cs0:List CV}{c0:CV}{k0:Nat}
theorem SS.shp{m: Nat}{e: Env}{x: Stmt}{σ1 σ2: St}(h:SS G m e x σ .next σ1)(k:gN m σ1 σ2):SS G m e x σ .next σ2:=by
 intro α s env E i g;refine wQ (h α s env E i g) ?_;rintro v s' ⟨β,le,g',rfl⟩;obtain⟨γ,wX,g2⟩:=k _ _ _ g';exact⟨γ,le.trans wX,g2,U⟩
theorem GS.below{α s k ao}(g:GS G α σ s)(e:σ.get k=aa ao):cf k σ.n=af:=by
 obtain⟨a,ha,_⟩:=g.own _ _ e;exact Nat.blt_eq.mpr (Nat.lt_of_not_le λh=>by rw[g.new k h]at ha;cases ha)
theorem ach(k:Nat):dM 0 k=af:=Nat.ble_eq.mpr (bJ k)
theorem SK.G3(h:σ.get k0=aa (.list (ns.map .int)))(spec:∀h₀,(∀b o,G.h₀.get? b=aa o->h₀.get? b=aa o)->SK (ext G h₀) f (.ref 0::cs0) [] (sP ns) c0 τ1)(e0:τ1.get 0=aa (.list (Z4.map .int)))
  (r6:∀r,cK r cs0=cs0) (Mq:∀r,ny r c0=c0):SK G f (.ref k0::cs0) [] σ c0 (σ.set k0 (.list (Z4.map .int))):=by
 intro α s vs ws E g;have hb:=g.below h;have ht:τ1.get 0=aa (.list (Z4.map .int)):=e0;refine SK.m7 (σ':=σ.set k0 (.list (Z4.map .int))) (τ0:=sP ns) (τ1:=τ1) (l:=[(k0,0)]) (ks0:=[]) ?_ ?_ ?_ ⟨⟨_,h,aS⟩,aE⟩ U (lM (.head _)) ⟨⟨_,_,?_,e0,aS⟩,aE⟩ spec ?_ U (Mq _).symm α s vs ws E g
 ·show(cf 0 1&&dM 0 k0&&af&&af)=af
  rw[ach];rfl
 ·show(af&&cf k0 σ.n&&af)=af
  rw[hb];rfl
 ·show(cf k0 σ.n&&dM 0 0&&af&&af)=af
  rw[hb];rfl
 ·show dh (lU σ.objs k0 _) k0=_
  have h:dh σ.objs k0=aa (.list (ns.map .int)):=h;rw[fi,if_pos U,h];rfl
 ·rw[cK,r6];rfl
end
section
theorem ky{α β:Type}(f:α->β)(l:List α):∀is:List Nat,is.filterMap ((l.map f)[·]?)=(is.filterMap (l[·]?)).map f
 |[]=>U
 |i::is=>by
  cases e:l[i]? with
  |none=>rw[je (by simp[e]),je e,ky f l is]
  |some a=>rw[jd (by simp[e];rfl),jd e,ky f l is];rfl
theorem lG{α:Type}(xs:List α)(d:α):(bc xs.length).map (λi=>xs.getD i d)=xs:=by
 refine List.ext_getElem (by simp) λi h1 h2=>?_;simp at h1;simp[h1]
theorem yC(xs:List CV)(lo hi st:Option Int)(is:List Nat)(h:slicePick (((bc xs.length).map λi=>b9 i).toArray) lo hi st=(is.map λi=>b9 i).toArray):n8 xs lo hi st=is.map (λi=>xs.getD i .none):=by
 have h2:=j5 ((bc xs.length).map λi=>b9 i) lo hi st;rw[h]at h2;simp only[aG,dY]at h2;rw[ky]at h2;have h3:=congrArg Array.toList h2;simp only at h3;have h4:=(List.map_inj_right (f:=λi:Nat=>b9 i) (λa b e=>by cases e;rfl)).mp h3;unfold n8
 conv=>lhs;rw[←lG xs CV.none]
 rw[show((bc xs.length).map λi=>xs.getD i CV.none).length=xs.length by simp,ky,←h4]
theorem tm(xs:List CV)(k:Int)(h:0<=k):n8 xs none (aa k) none=xs.take k.toNat:=by
 obtain⟨n,rfl⟩:=eQ h;rw[yC xs _ _ _ ((bc xs.length).take n)]
 ·rw[List.map_take,lG];rfl
 ·rw[slicePick_upto',List.map_take]
theorem tn(xs:List CV)(k:Int)(h:0<=k):n8 xs (aa k) none none=xs.drop k.toNat:=by
 obtain⟨n,rfl⟩:=eQ h;rw[yC xs _ _ _ ((bc xs.length).drop n)]
 ·rw[List.map_drop,lG];rfl
 ·rw[slicePick_from',List.map_drop]
theorem uV(ns:List Int){k:Int}(h:0<=k):n8 (ns.map .int) none (aa k) none=(ns.take k.toNat).map .int:=by rw[tm _ _ h,List.map_take]
theorem Ez(ns:List Int){k:Int}(h:0<=k):n8 (ns.map .int) (aa k) none none=(ns.drop k.toNat).map .int:=by rw[tn _ _ h,List.map_drop]
variable{G:Gv}{σ:St}{ns ms:List Int}{j k:Nat}{o:Obj}{vs:Array aq}{h:Heap}{i:Int}{c:Nat}
theorem zr(h:ns.length<2^20):(ns.map CV.int).length<=bC:=by rw[aG];exact bD (bX h)
theorem sY(e:σ.get k=aa (.list (ns.map .int)))(h:0<=i)(hf:ns.length<2^20):cR G (.ref k) none (aa i) none σ (.ref σ.n) (σ.push (.list ((ns.take i.toNat).map .int))):=uV ns h▸slice_list e ay (zr hf)
theorem AQ(e:σ.get k=aa (.list (ns.map .int)))(h:0<=i)(hf:ns.length<2^20):cR G (.ref k) (aa i) none none σ (.ref σ.n) (σ.push (.list ((ns.drop i.toNat).map .int))):=Ez ns h▸slice_list e ay (zr hf)
theorem zV(e1:σ.get j=aa (.list (ns.map .int)))(e2:σ.get k=aa (.list (ms.map .int)))(hf:ns.length+ms.length<=2^20):bN G (eB .Add) (.ref j) (.ref k) σ (.ref σ.n) (σ.push (.list ((ns++ms).map .int))):=
 bG (f:=CV.int)▸add_lists e1 e2 (by rw[aG,aG];exact bD hf)
theorem SK.CL{k0: Nat}{τ1: St}{f:List aq->List aq->Sem aq}{cs0: List CV}{c0: CV}(h:σ.get k0=aa (.list (ns.map .int)))(spec:∀h₀,(∀b o,G.h₀.get? b=aa o->h₀.get? b=aa o)->SK (ext G h₀) f (.ref 0::cs0) [] (sP ns) c0 τ1)(e0:τ1.get 0=aa (.list (ns.map .int)))
  (r6:∀r,cK r cs0=cs0) (Mq:∀r,ny r c0=c0):SK G f (.ref k0::cs0) [] σ c0 σ:=by
 have:=SK.G3 h spec e0 r6 Mq
 rwa [St.set_same h]at this
theorem oX{P: Nat}{file: Str}{tf:Tok}{Ji: Int}{tg:Tok}{inF: Bool}{text: Int}{tt:Tok}(e:h.get? c=aa o)(e1:o.cls=.type "code")(e2:o.data=.fields vs)(e3:vs[11]?=aa (.ref P))(e4:vs.getD 11 .none=.ref P)(e5:vs.getD 18 .none=.str file tf)
  (e6:vs.getD 7 .none=.int Ji tg) (e7:vs.getD 9 .none=.bool inF) (e8:vs.getD 10 .none=.int text tt) (e9:br c P=false):iA h c P:=
 ⟨o,vs,file,tf,Ji,tg,inF,text,tt,e,e1,e2,e3,e4,e5,e6,e7,e8,λq=>by cases q;rw[cD]at e9;cases e9⟩
theorem dB{q: Str}{t:Tok}(e:h.get? c=aa o)(e1:o.data=.fields vs)(e2:vs[1]?=aa (.str q t)):h.CodeRec (.ref c) q:=⟨c,o,vs,t,U,e,e1,e2⟩
theorem bQ{ts: List Expr}{v: Expr}{env e: Env}(h:env.scope=e.scope):swappedStores ts v env=swappedStores ts v e:=by
 cases env;cases e;cases h;rfl
end
section
variable{G:Gv}{σ:St}{l:List Nat}
noncomputable abbrev tx(l:List Nat):Str:=⟨l.toArray⟩
theorem cw(l:List Nat):(tx l).length=l.length:=a_
theorem s7{i j: Int}(h0:0<=i)(h1:i<=j)(h2:j<=l.length):fv (tx l) (aa i) (aa j)=tx ((l.drop i.toNat).take (j-i).toNat):=by
 have:=PySem.StrLaws.sliceText_plain (x:=tx l) (i:=i) (j:=j) ⟨h0,h1,by simpa using h2⟩;exact this
theorem XK{c: Nat}:(!(iF (tx l) ⟨#[c]⟩ 0 (tx l).length 1).isEmpty)=decide (c∈l):=by
 rw[PySem.StrLaws.found_one]
theorem zh(xs:List (List Nat)):∀a:Array Nat,((xs.map tx).foldl (λacc p=>acc++(dy:Str).cps++p.cps) a)=a++xs.flatten.toArray:=by
 induction xs with
 |nil=>intro a;simp
 |cons x xs ih =>
  intro a;rw[cn,List.foldl_cons,f_,ih];simp[dy]
theorem t5(xs:List (List Nat)):Builtin.Str.glued dy (xs.map tx)=tx xs.flatten:=by
 cases xs with
 |nil=>rfl
 |cons x xs =>
  unfold Builtin.Str.glued;rw[cn,List.drop_succ_cons,jX,List.headD_cons,zh];simp
theorem Md(xs:List (List Nat)):N3 (dy) (xs.map tx)=tx xs.flatten:=by
 cases xs with
 |nil=>rfl
 |cons x xs =>
  cases xs with
  |nil=>show tx x=tx (x++[]);rw[bV]
  |cons y xs=>exact t5 (x::y::xs)
theorem IQ{k: Nat}{xs: List (List Nat)}(e:σ.get k=aa (.list (xs.map λx=>.str (tx x))))(hf:xs.flatten.length<=2^20):bM G (λvs=>call (.builtin "str.join") vs) [.str dy,.ref k] σ (.str (tx xs.flatten)) σ:=by
 have e':xs.map (λx=>CV.str (tx x))=(xs.map tx).map .str:=(f9 ..).symm;rw[e']at e;have hg:∀(ys:List (List Nat)) (k:Nat),((ys.map tx).foldl (λa b=>a+b.length+(dy:Str).length) k)=k+ys.flatten.length:=by
  intro ys
  induction ys with
  |nil=>intro k;rfl
  |cons y ys ih =>
   intro k;rw[cn,List.foldl_cons,f_,aB,ih,cw,←gq];rfl
 have:=join_list (G:=G) (sep:=dy) e ?_ (by rw[t5,cw];exact bD hf)
 ·rwa [Md]at this
 ·rw[←Array.foldl_toList,iQ,hg,gW]
  exact decide_eq_false (Nat.not_lt.mpr (bD hf))
end
section
variable{G:Gv}{m:Nat}{e:Env}{σ σ1 σ2 ZU:St}{a b:CV}{cs:List CV}{x y:Str}{target iter elt:Expr}{p pos:Pos}{it acc N n:Nat}{scope:jk}{o:Expr}{I:St}{i k:Nat}{lo:Int}{l l':List CV}{args:List Expr}{name:Str}{fr:List (Str×CV)}{jJ:Pos}{c:CV}
noncomputable abbrev PP(σ:St)(l:List CV)(fr:List (Str×CV)):St:=(σ.push (.list l)).push (.frame fr)
theorem GW{ao: AO}(h:(PP σ l []).get k=aa ao):(k=σ.n+1/\ao=.frame []/\(PP σ l fr).get k=aa (.frame fr))∨(PP σ l fr).get k=aa ao:=by
 have h:(match br k (σ.n+1)with|true=>aa (AO.frame [])|false=>dh (σ.push (.list l)).objs k)=aa ao:=h;have e:(PP σ l fr).get k=(match br k (σ.n+1)with|true=>aa (AO.frame fr)|false=>dh (σ.push (.list l)).objs k):=U;rw[e];cases z:br k (σ.n+1)with
 |true=>rw[z]at h;cases h;exact .inl ⟨a9 z,U,U⟩
 |false=>rw[z]at h;exact .inr h
theorem DN:gN m (PP σ l fr) (PP σ l []):=by
 intro G α s g;have ex:∀{k ao},(PP σ l []).get k=aa ao->∃ao',(PP σ l fr).get k=aa ao':=λh=>(GW h).elim (λq=>⟨_,q.2.2⟩) λq=>⟨_,q⟩;refine⟨α,rm.refl _ _,⟨λk ao h=>?_,λk ao a h ha=>?_,g.base,λj k ao ao' a h1 h2=>?_,g.new,g.lt,g.qf,g.os,g.bare⟩⟩
 ·rcases GW (fr:=fr) h with⟨_,rfl,q⟩|q
  ·obtain⟨a,ha,mf,hn,_⟩:=g.own _ _ q
   exact⟨a,ha,mf,hn,λy c hy=>nomatch hy⟩
  ·exact g.own _ _ q
 ·refine iH (ex h) λo q=>?_
  exact g.ow _ _ _ q ha
 ·refine iH (ex h1) λo q=>?_
  refine iH (ex h2) λo' q'=>?_;exact g.inj _ _ _ _ _ q q'
theorem cI.sf{gens:List dq}{g:dq}{st:aq->Env->Sem Unit}(I:Nat->St)(c:Nat->CV)(out:Nat->List CV)(hN:∀i,(I i).n=N)(hb:EB (N+2) e=af)(hit:it<N+2)(hg:gens[0]?=aa g)(ha:g.is_async=0)(h0:out 0=[])
  (Yo:∀it acc env,compTurn (.ListComp elt gens scope pos) 0 it acc env=mz target iter it env (st acc env) (again (.compLoop (.ListComp elt gens scope pos) 0 it acc env)))
  (self:dD G fc (.ref it) (PP (I 0) [] []) (.ref it) (PP (I 0) [] [])) (turn:∀i,i<n->∃τ1 uT τ,eC G target it (PP (I i) (out i) []) (c i) τ1/\cU G e target (c i) τ1 uT/\ef G (N+2) e st N uT τ/\gN (N+2) τ (PP (I (i+1)) (out (i+1)) []))
  (last:eX G it (PP (I n) (out n) []) ZU):cI G (N+2) e (λit acc env=>.compStart (.ListComp elt gens scope pos) 0 it acc env) it N (PP (I 0) [] []) ZU:=by
 have L:=cI.loop (m:=N+2) n (λi=>PP (I i) (out i) []) hb (aW _) hit (d0 (bq N)) Yo (λi hi=>by obtain⟨τ1,uT,τ,h1,h2,h3,h4⟩:=turn i hi;exact⟨τ,⟨c i,τ1,uT,h1,h2,h3⟩,h4⟩) last;rw[h0]at L;exact cI.start hg ha self L
theorem cI.simple{gens:List dq}{g:dq}{st:aq->Env->Sem Unit}(I:Nat->St)(c:Nat->CV)(fr:Nat->List (Str×CV))(out:Nat->List CV)(hN:∀i,(I i).n=N)(hb:EB (N+2) e=af)(hit:it<N+2)(hg:gens[0]?=aa g)(ha:g.is_async=0)(h0:out 0=[])
  (Yo:∀it acc env,compTurn (.ListComp elt gens scope pos) 0 it acc env=mz target iter it env (st acc env) (again (.compLoop (.ListComp elt gens scope pos) 0 it acc env)))
  (self:dD G fc (.ref it) (PP (I 0) [] []) (.ref it) (PP (I 0) [] [])) (turn:∀i,i<n->eC G target it (PP (I i) (out i) []) (c i) (PP (I (i+1)) (out i) [])/\cU G e target (c i) (PP (I (i+1)) (out i) []) (PP (I (i+1)) (out i) (fr i))/\ef G (N+2) e st N (PP (I (i+1)) (out i) (fr i)) (PP (I (i+1)) (out (i+1)) (fr i)))
  (last:eX G it (PP (I n) (out n) []) ZU):cI G (N+2) e (λit acc env=>.compStart (.ListComp elt gens scope pos) 0 it acc env) it N (PP (I 0) [] []) ZU:=
 cI.sf I c out hN hb hit hg ha h0 Yo self (λi hi=>⟨_,_,_,(turn i hi).1,(turn i hi).2.1,(turn i hi).2.2,DN⟩) last
theorem ef.ml{out Wr: List CV}(h:a8 G e elt σ c σ1)(hl:σ1.get acc=aa (.list out))(hf:out.length<=bC)(ho:out++[c]=Wr):ef G m e (oC elt) acc σ (σ1.set acc (.list Wr)):=ho▸ef.emit h hl hf
theorem We:(PP I l fr).get I.n=aa (.list l):=by
 show(match br I.n (I.n+1)with|true=>aa (AO.frame fr)|false=>match br I.n I.n with|true=>aa (AO.list l)|false=>_)=_;rw[oR (bL (bq _)),cD]
theorem QG:(PP I l fr).set I.n (.list l')=PP I l' fr:=by
 show St.mk (match br I.n (I.n+1)with|true=>_|false=>(I.n+1,AO.frame fr)::match br I.n I.n with|true=>(I.n,AO.list l')::I.objs|false=>_) _=_;rw[oR (bL (bq _)),cD];rfl
theorem ef.pz(h:a8 G e elt σ c (PP I l fr))(hN:I.n=acc)(hf:l.length<=bC)(ho:l++[c]=l'):ef G m e (oC elt) acc σ (PP I l' fr):=by
 subst hN;have:=ef.ml (G:=G) (m:=m) h We hf ho
 rwa [QG]at this
noncomputable def dI(F:Nat->CV)(i:Nat):List CV:=(bc i).map F
theorem gK{F:Nat->CV}:dI F i++[F i]=dI F (i+1):=by unfold dI;rw[List.range_succ,bG];rfl
theorem kG{F:Nat->CV}(h:i<=2^20):(dI F i).length<=bC:=by unfold dI;rw[aG,dY];exact bD h
noncomputable def outF(b:Nat->Bool)(F:Nat->CV)(i:Nat):List CV:=((bc i).filter b).map F
theorem tq{b:Nat->Bool}{F:Nat->CV}(h:b i=af):outF b F i++[F i]=outF b F (i+1):=by
 unfold outF;rw[List.range_succ,mv,bG];simp[h]
theorem wu{b:Nat->Bool}{F:Nat->CV}(h:b i=false):outF b F i=outF b F (i+1):=by
 unfold outF;rw[List.range_succ,mv,bG];simp[h]
theorem tv{b:Nat->Bool}{F:Nat->CV}(h:i<=2^20):(outF b F i).length<=bC:=by
 unfold outF;rw[aG];exact bD (au (kR _ _) (by rw[dY];exact h))
noncomputable def wY(lo:Int)(n i:Nat):AO:=.itR (lo+i) ((n:Int)-i) 1
theorem i6{hi: Int}(e:σ.get k=aa (.n5 lo hi 1))(hs:dF lo hi 1=af)(hn:cX lo hi 1=(n:Int)):dD G fc (.ref k) σ (.ref σ.n) (σ.push (wY lo n 0)):=by
 have:=Bq (G:=G) e hs (n:=n) hn;unfold wY
 rwa [show lo+((0:Nat):Int)=lo from Int.add_zero lo,show(n:Int)-((0:Nat):Int)=n from Int.sub_zero _]
theorem rB(hh:G.A.handled=none)(e:σ.get it=aa (wY lo n i))(h:i<=n):dD G fc (.ref it) σ (.ref it) σ:=AV hh e (Int.sub_nonneg.mpr (Int.ofNat_le.mpr h))
theorem X.kU(e:σ.get it=aa (wY lo n i))(h:i<n):eC G (.Name x p) it σ (.int (lo+i)) (σ.set it (wY lo n (i+1))):=by
 have:=X.range (G:=G) (x:=x) (p:=p) e (Int.sub_pos.mpr (Int.ofNat_lt.mpr h));unfold wY
 rwa [show lo+((i+1:Nat):Int)=lo+i+1 from(Int.add_assoc lo i 1).symm,show(n:Int)-((i+1:Nat):Int)=n-i-1 from(Int.sub_sub (n:Int) i 1).symm]
theorem D.kU(hh:G.A.handled=none)(e:σ.get it=aa (wY lo n n)):eX G it σ (σ.del it):=D.range hh e (Int.le_of_eq (Int.sub_self _))
theorem Jh{α β:Type}(g:α->β)(l:List α):(l.map λi=>[g i]).flatten=l.map g:=by
 induction l with
 |nil=>rfl
 |cons x l ih=>rw[cn,cn,f_,ih];rfl
theorem tP{h:Nat->Nat}(e:σ.get k=aa (.list (dI (λi=>.str (tx [h i])) n)))(hf:n<=2^20):bM G (λvs=>call (.builtin "str.join") vs) [.str dy,.ref k] σ (.str (tx ((bc n).map h))) σ:=by
 have e1:dI (λi=>.str (tx [h i])) n=((bc n).map λi=>[h i]).map λx=>CV.str (tx x):=by unfold dI;rw[f9];rfl
 have e2:=Jh h (bc n);rw[e1]at e;have:=IQ (G:=G) e (by rw[e2,aG,dY];exact hf)
 rwa [e2]at this
theorem SS.to{x: Stmt}{f: CF}(h:SS G m e x σ f σ1)(q:σ1=σ2):SS G m e x σ f σ2:=q▸h
theorem q_{env: Env}(h0:∀w,attributeBase o name env w=w)(hl:(jJ.endLine==pos.line)=af)(hf:methodCallForm (args.length+0) (j8 pos (eA args env)) (backToKw pos (keywordEach [] env))=af):
  eval (.Call (.Attribute o name jJ) args [] pos) env=(do
   let ov ←eval o env
   f6 jJ.atName
   let(f,first) ←h_ [ov] (jh ov name (do return (←importBound o env).getD af))
   callWith pos f first (j8 pos (eA args env)) []):=by
 have e:eval (.Call (.Attribute o name jJ) args [] pos) env=(do
  let ov ←attributeBase o name env (eval o env)
  f6 jJ.atName
  methodCall o name jJ pos env ov (args.length+0) (j8 pos (eA args env)) (backToKw pos (keywordEach [] env))):=U
 rw[e,h0];unfold methodCall methodCallPos calleeOf;rw[hf,hl];rfl
theorem a8.n_{o: Expr}{jJ pos: Pos}{args: List Expr}{id:String}{Tn:String}{c: CV}{σ3: St}(slot:Slot Tn name id)(pa:PlainAttrs Tn)(hty:typeOf (.builtin id)=pure (.type "method_descriptor"))
  (h1:a8 G e o σ a σ1) (ht:∀α s v,GS G α σ1 s->VR α s.heap a v->s.TypeIs v Tn/\∀a,v=.ref a->∃o,s.heap.get? a=aa o/\o.dict=bz) (h2:jK G e pos args σ1 cs σ2) (h3:bM G (λvs=>call (.builtin id) vs) (a::cs) σ2 c σ3)
  (h0:autoParam (∀env w,attributeBase o name env w=w) j2) (hl:autoParam ((jJ.endLine==pos.line)=af) iU) (hf:autoParam (∀env,methodCallForm (args.length+0) (j8 pos (eA args env)) (backToKw pos (keywordEach [] env))=af) j2):a8 G e (.Call (.Attribute o name jJ) args [] pos) σ c σ3:=
 a8.rW slot pa hty h1 ht h2 h3 λenv=>q_ (h0 env) hl (hf env)
end
section
variable{G:Gv}{σ τ1:St}{xs ys:List (Str×Str)}{f:List aq->List aq->Sem aq}{cs0:List CV}{c0:CV}{x d t P C:Nat}{k:Int}{q:Nat->Nat->Str}
noncomputable abbrev sC(C P:Nat)(q:Nat->Nat->Str)(k:Int)(xs:List (Str×Str)):St:=⟨[(2,.tab P q),(1,.size k),(0,.bT C 1 (xs.map dZ))],3⟩
theorem kH(r:Nat->Nat)(xs:List (Str×Str)):cK r (xs.map dZ)=xs.map dZ:=by
 induction xs with
 |nil=>rfl
 |cons p xs ih=>rw[cn,cK,ih];rfl
theorem SK.G2(hx:σ.get x=aa (.bT C d (xs.map dZ)))(hd:σ.get d=aa (.size k))(ht:σ.get t=aa (.tab P q))
  (spec:∀h₀,(∀b o,G.h₀.get? b=aa o->h₀.get? b=aa o)->SK (ext G h₀) f (.ref 0::cs0) [] (sC C P q k xs) c0 τ1) (e0:τ1.get 0=aa (.bT C 1 (ys.map dZ))) (e1:τ1.get 1=aa (.size k)) (e2:τ1.get 2=aa (.tab P q))
  (r6:∀r,cK r cs0=cs0) (Mq:∀r,ny r c0=c0):SK G f (.ref x::cs0) [] σ c0 (σ.set x (.bT C d (ys.map dZ))):=by
 intro α s vs ws E gs;have b0:=gs.below hx;have b1:=gs.below hd;have b2:=gs.below ht;have ne:∀{i j ao ao'},σ.get i=aa ao->σ.get j=aa ao'->ao≠ao'->br j i=false:=λ{i j ao ao'} e e' n=>oR λq=>n (by rw[q,e]at e';cases e';rfl);have Sh:=ne hx hd (by intro q;cases q);have Xo:=ne hx ht (by intro q;cases q);have n21:=ne hd ht (by intro q;cases q);have r1:∀z,eI [(x,0),(d,1),(t,2)] d z=1:=λz=>by
  show(match br d x with|true=>_|false=>match br d d with|true=>_|false=>_)=_;rw[Sh,cD]
 have gt:∀{k ao},br k x=false->σ.get k=aa ao->(σ.set x (.bT C d (ys.map dZ))).get k=aa ao:=λ{k ao} n e=>by
  show dh (lU σ.objs x _) k=_;rw[fi,if_neg λq=>by rw[q,cD]at n;cases n];exact e
 refine SK.m7 (σ':=σ.set x (.bT C d (ys.map dZ))) (τ0:=sC C P q k xs) (τ1:=τ1) (l:=[(x,0),(d,1),(t,2)]) (ks0:=[]) ?_ ?_ ?_ ⟨⟨_,ht,U⟩,⟨_,hd,U⟩,⟨_,hx,?_⟩,aE⟩ U (lM (.head _))
  ⟨⟨.bT C d (ys.map dZ),_,?_,e0,?_⟩,⟨_,_,gt Sh hd,e1,U⟩,⟨_,_,gt Xo ht,e2,U⟩,aE⟩ spec ?_ U (Mq _).symm α s vs ws E gs
 ·simp[ik,d6,Sh,Xo,n21]
 ·simp only[List.all,b0,b1,b2];rfl
 ·simp only[ik,List.all,b0,b1,b2];rfl
 ·show AO.bT C d _=AO.bT C _ (cK _ (xs.map dZ))
  rw[kH];rfl
 ·show dh (lU σ.objs x _) x=_
  have h:dh σ.objs x=aa (.bT C d (xs.map dZ)):=hx;rw[fi,if_pos U,h];rfl
 ·show AO.bT C 1 _=AO.bT C (eI [(x,0),(d,1),(t,2)] d τ1.n) (cK _ (ys.map dZ))
  rw[kH,r1]
 ·rw[cK,r6];rfl
end
section
variable{G:Gv}{m:Nat}{e:Env}{σ σ1 σ2 σ3:St}{cs xs:List CV}{c:CV}{x:Str}{p pos tj:Pos}{K:Frag}{n C d:Nat}{k:Int}{args:List Expr}
theorem a8.callC(X:K.In G.h₀)(hk:keepIn K (.ref C)=af)(hf:a8 G e (.Name x p) σ (.val (.ref C)) σ1)(h:jK G e pos args σ1 cs σ2)(k:bM G (λvs=>call (.ref C) vs) cs σ2 c σ3):a8 G e (.Call (.Name x p) args [] pos) σ c σ3:=by
 intro α s env E i g;refine ae (J9 (hf α s env E i g) λβ s1 y g1=>?_);refine callWith_of (P:=λh=>K.In h) (by rw[plain_any h.1];rfl) (keeps_K hk) (c_ h.1 (iI (h.2 β s1 env _ (i.mono y) g1) λγ vs s2 z g2 r=>?_));exact⟨λb o e=>(g2.base b o (X b o e)).2,wQ (k γ s2 vs E g2 r) λzz zz w=>w.trans (y.trans z)⟩
theorem DL(P:ag)(k:Int)(tk t:Tok):∃es n,(qO P k tk t).data=.dict es n/\es.size<=1000:=⟨_,_,U,show 1<=1000 by decide⟩
theorem SS.setField{o value:Expr}{cd:ClassData}(X:K.In G.h₀)(hs:d8 K (.ref C) "__setattr__"=aa (aa (.builtin "object.__setattr__")))(hc:clsIn K C=aa cd)(hm:cd.mro=[.ref C,.type "list",.type "object"])(hhd:cd.hasDict=af)
  (ht:takerIn K C (So "_initial_size")=aa bz) (h1:a8 G e value σ (.int k) σ1) (h2:a8 G e o σ1 (.ref n) σ2) (hx:σ2.get n=aa (.bT C d xs)) (hd:σ2.get d=aa .bare)
  (XY:autoParam (∀env,swapsWith value (aa (.Attribute o (So "_initial_size") tj)) pos.line env=bO false) j2):SS G m e (.Assign [.Attribute o (So "_initial_size") tj] value pos) σ .next (σ2.set d (.size k)):=by
 intro α s env E i g Γ q hΓ;refine ks_wpAt_Assign_Attr (c:=Γ.code) (_root_.PySem.wpAt_of_wpAny (iI (h1 α s env _ i g) λβ vq s1 y g1 rq=>?_)) (XY env) Γ q U hΓ;obtain⟨t,rfl⟩:=rq;refine Nj (h2 β s1 env _ (i.mono y) g1) λγ a s2 z g2 ha=>?_;refine dH λM' up1=>?_;obtain⟨a',xX,b,vs,j,hb,eh,_⟩:=g2.own _ _ hx;cases xX.symm.trans ha;refine up1 ?_;refine aR (g2.own _ _ hd) λb' Og ed=>?_;cases Og.symm.trans hb;refine mU (DL G.w.params k (s2.toks+1) t) λes j' e' hz=>?_;refine Gz (K:=K) (C:=C) (es:=es.toList) (n:=j') (λb o e=>(g2.base b o (X b o e)).2) ⟨eh,U,U,ed⟩ U hs hc hm hhd ht U U (by rw[Array.toArray_toList];exact e') hz U ?_;have T:=g2.turn (h':=s2.heap.update b _) (ao':=.size k) hd hb (λc o hc eo=>((fR s2.heap b _).2 c hc).trans eo) (λle=>⟨s2.toks+1,t,d_ _ ed U⟩) (s2.toks+1+1);exact⟨γ,((y.trans z).trans T.1).nj,T.2,U⟩
theorem GS.make{α s}(g:GS G α σ s):Le α s.heap (α.kZ σ.n s.heap.objs.size 2) ((s.heap.push ip).push (n7 C s.heap.objs.size [] 0))/\GS G (α.kZ σ.n s.heap.objs.size 2) (σ.n6 [.bare,.bT C σ.n []]) {s with heap:=(s.heap.push ip).push (n7 C s.heap.objs.size [] 0)}:=by
 have k1:∀b o,s.heap.get? b=aa o->((s.heap.push ip).push (n7 C s.heap.objs.size [] 0)).get? b=aa o:=λb o e=>aC _ (aC _ e);refine g.vy (os:=[.bare,.bT C σ.n []]) k1 (λi zz=>?_) (λle i ao h=>?_) s.toks
 ·cases e:s.heap.get? (s.heap.objs.size+i)with
  |none=>rfl
  |some o=>exact absurd (bx e) (Nat.not_lt.mpr (bg _ _))
 ·cases i with
  |zero=>cases h;exact aC _ (aJ _ U)
  |succ i=>cases i with
   |zero =>
    cases h;refine xi3 s.heap.objs.size [] 0 ⟨AM.d' (i:=0) (Nat.zero_lt_succ 1),?_,U⟩;have:=aJ (s.heap.push ip) (o:=n7 C s.heap.objs.size [] 0) U
    rwa [fx]at this
   |succ i=>cases h
end
section
open PyProof
variable{G:Gv}{e:Env}{σ:St}{α β:AM}{s s2:aA}{msg:Str}{ks:List Nat}{l:List Env}
def xZ(α:AM):List Nat->List Env->Prop
 |[],l=>l=[]
 |k::ks,l=>∃env r L,l=env::r/\env.scope.kind=.function/\env.frame=aa L/\α.f k=aa L/\xZ α ks r
def sI(σ:St)(ks:List Nat):Prop:=∀k∈ks,∃fr,σ.get k=aa (.frame fr)
theorem xZ.mono(le:∀k∈ks,∀a,α.f k=aa a->β.f k=aa a):∀{l},xZ α ks l->xZ β ks l:=by
 induction ks with
 |nil=>exact λh=>h
 |cons k ks ih=>rintro l ⟨env,r,L,e1,e2,e3,e4,h⟩;exact⟨env,r,L,e1,e2,e3,le k (.head _) _ e4,ih (λj hj=>le j (.tail _ hj)) h⟩
def um(α:AM)(σ:St)(e:Nat)(a:Nat):Prop:=a=e∨∃k fr,σ.get k=aa (.frame fr)/\α.f k=aa a
theorem GS.My{k a: Nat}{fr: List (Str×CV)}(g:GS G α σ s)(e:σ.get k=aa (.frame fr))(ha:α.f k=aa a):∃o,s.heap.get? a=aa o/\∀vs,o.data≠.fields vs:=by
 refine dH λlg eS=>?_;obtain⟨b,hb,mf,⟨o,es,ep,eo,d,_⟩,_⟩:=g.own _ _ e;cases hb.symm.trans ha;refine eS ?_;exact⟨o,eo,λvs q=>by rw[d]at q;cases q⟩
theorem GS.Ey{h1: Heap}{x: Nat}(g:GS G α σ s)(kp:∀b o,s.heap.get? b=aa o->h1.get? b=aa o):∀{l},sI σ ks->xZ α ks l->h1.FunFrames (pO h1 (um α σ x)) l:=by
 induction ks with
 |nil=>rintro l _ rfl;trivial
 |cons k ks ih =>
  intro l hs sN;refine B3 (sN) λenv r L U3 e2 e3 e4 h=>?_;obtain rfl:=U3;obtain⟨fr,hk⟩:=hs k (.head _);refine aR (g.My hk e4) λo eo hd=>?_;refine⟨by rw[e2];decide,⟨L,o,e3,?_,kp _ _ eo,hd⟩,ih (λj hj=>hs j (.tail _ hj)) h⟩;cases q:(pO h1 (um α σ x)).get? L with
  |none=>rfl
  |some o'=>exact absurd (.inr ⟨k,fr,hk,e4⟩) (fk.mp q).1
theorem GS.land{h: Heap}(g:GS G α σ s)(same:∀b o,(∀k fr,σ.get k=aa (.frame fr)->α.f k≠aa b)->s.heap.get? b=aa o->h.get? b=aa o)(up:∀k fr a mf,σ.get k=aa (.frame fr)->α.f k=aa a->s.heap.Ns a mf->h.Ns a mf):
  Le α s.heap α h/\GS G α σ {s with heap:=h}:=by
 have t:=g.goto (h':=h) (σ':=σ) (λk=>∃fr,σ.get k=aa (.frame fr)) (λzz=>False) U (λk ⟨fr,q⟩=>⟨_,q⟩) (λzz f=>f.elim) (λb o hb=>same b o λk fr hk=>hb k ⟨fr,hk⟩) (λle=>?_) s.toks
 ·rwa [AM.less_none]at t
 ·rw[AM.less_none]at le ⊢
  refine⟨λk ⟨fr,hk⟩ a ha _=>?_,λk ao hk=>?_⟩
  ·obtain⟨b,hb,mf,hn,_⟩:=g.own _ _ hk
   cases hb.symm.trans ha;refine B4 (up k fr a mf hk ha hn) λo es ep eo zz=>?_;exact⟨o,eo⟩
  ·rcases Classical.em (∃fr,σ.get k=aa (.frame fr))with⟨fr,q⟩|n
   ·cases q.symm.trans hk
    refine dH λM' up1=>?_;obtain⟨b,hb,mf,hn,hf⟩:=g.own _ _ q;refine up1 ?_;exact .inr ⟨⟨fr,q⟩,b,hb,id,mf,up k fr b mf q hb hn,λy c hy=>(hf y c hy).imp λv r=>⟨r.1,r.2.mono le⟩⟩
   ·exact .inl ⟨hk,n⟩
inductive z9(msg:Str)(α:AM)(σ:St)(s2:aA)(l:List Env)(e:Nat)(h:Heap):Prop
 |mk (h1:Heap) (t:Nat) (tk:Tok) (n:Nat) (made:Heap.MadeExc s2.heap h1 e "ValueError" [.str msg tk]) (Oq:Heap.FlyingW (pO h1 (um α σ e)) l e (.type "ValueError") (.ref t) h) (up:h1.UpToSlots h) (tup:h1.get? t=aa (ux [.str msg tk] n)) (v_:s2.heap.get? t=none):z9 msg α σ s2 l e h
end
section
open PyProof
variable{G:Gv}{m:Nat}{e:Env}{σ:St}{α β:AM}{s s2:aA}{msg:Str}{ks:List Nat}{l:List Env}{cs:List CV}{env:Env}{h:Heap}{x:Nat}
theorem z9.Ls{M:gw}{A:bZ}{h1: Heap}{k: Nat}{tk:Tok}{Q:Unit->aA->Prop}{E:aq->aA->Prop}(xf:A.frames=aa (env::l))(hs:sI σ (k::ks))(hr:xZ α (k::ks) (env::l))(g:GS G α σ s2)(made:Heap.MadeExc s2.heap h1 x "ValueError" [.str msg tk])
  (hq:∀h,z9 msg α σ s2 l x h->Q () {s2 with heap:=h}):aH M A (PySem.«leaving» env (.ref x)) Q E {s2 with heap:=h1}:=by
 refine nJ (made.there) λt he htn ht=>?_;have ff:=g.Ey (x:=x) made.keeps hs hr;refine B3 (hr) λzz zz L e0 zz eL zz zz=>?_;cases e0;have en:(pO h1 (um α σ x)).get? x=none:=by
  cases q:(pO h1 (um α σ x)).get? x with
  |none=>rfl
  |some o=>exact absurd (.inl U) (fk.mp q).1
 refine wpAny_leaving_firstW (base:=pO h1 (um α σ x)) (a0:=.ref t) xf ff eL he (λb o eb=>(fk.mp eb).2) en U U U λh2 hL2=>?_;refine Ni (hL2) λk1 Pq k3 k4=>?_;obtain⟨_,_,k2⟩:=Pq;exact hq h2 ⟨h1,t,tk,_,made,⟨k1,en,k2,k3⟩,k4,ht,htn⟩
theorem z9.wV{M:gw}{A:bZ}{L: Nat}{Q:Unit->aA->Prop}{E:aq->aA->Prop}(xf:A.frames=aa (env::l))(hL:env.frame=aa L)(f:z9 msg α σ s2 (env::l) x h)(hq:∀h',z9 msg α σ s2 l x h'->Q () {s2 with heap:=h'}):aH M A (PySem.«leaving» env (.ref x)) Q E {s2 with heap:=h}:=by
 obtain⟨h1,t,tk,n,made,Oq,up,tup,v_⟩:=f;exact wpAny_leaves_onW xf hL Oq λh' Us Z_=>hq h' ⟨h1,t,tk,n,made,Us,up.trans Z_,tup,v_⟩
theorem z9.land(f:z9 msg α σ s2 l x h)(g:GS G α σ s2):Le α s2.heap α h/\GS G α σ {s2 with heap:=h}:=by
 obtain⟨h1,t,tk,n,made,Oq,up,tup,v_⟩:=f;refine g.land (λb o hb eo=>Oq.1 b o (fk.mpr ⟨λq=>?_,made.keeps b o eo⟩)) λk fr a mf hk ha hn=>up.ns (hn.keeps made.keeps);rcases q with rfl|⟨k,fr,hk,ha⟩
 ·rw[made.new]at eo;cases eo
 ·exact hb k fr hk ha
def TY(A:bZ)(msg:Str)(β:AM)(σ:St)(s2:aA)(l:List Env)(env:Env)(v:aq)(s':aA):Prop:=
 ∃x,v=.ref x/\∀(M:gw)(Q:Unit->aA->Prop)(E:aq->aA->Prop),(∀h,z9 msg β σ s2 l x h->Q () {s2 with heap:=h})->aH M A (PySem.«leaving» env v) Q E s'
def pQ(G:Gv)(msg:Str)(m:Nat)(e:Env)(ks:List Nat)(xs:List Stmt)(σ σ':St):Prop:=∀α s env l Q E,EI α e env->GS G α σ s->G.A.frames=aa (env::l)->xZ α (e.locals::ks) (env::l) ->
 (∀β s2 v s',BU m α s.heap β s2.heap->GS G β σ' s2->TY G.A msg β σ' s2 l env v s'->E v s')->aH G.M G.A (jI xs env) Q E s
def ia(G:Gv)(msg:Str)(ks:List Nat)(f:List aq->Sem aq)(cs:List CV)(σ σ':St):Prop:=∀α s vs l Q E,GS G α σ s->di α s.heap cs vs->G.A.frames=aa l->xZ α ks l ->
 (∀β s2 x h,Le α s.heap β s2.heap->GS G β σ' s2->z9 msg β σ' s2 l x h->E (.ref x) {s2 with heap:=h})->aH G.M G.A (f vs) Q E s
end
section
open PyProof
variable{G:Gv}{m:Nat}{e:Env}{σ σ1 σ2:St}{α β:AM}{s s2:aA}{msg:Str}{ks:List Nat}{l:List Env}{env:Env}{x:Str}{p pos:Pos}{c:CV}{f:CF}{c8:List Stmt}{target:Expr}{it:Nat}
theorem xZ.le{h h'}(le:Le α h β h'){l}(r:xZ α ks l):xZ β ks l:=r.mono λk zz a ha=>le.le k aE a ha
theorem xZ.Z5{h h'}(hk:(ks.all λk=>cf k m)=af)(le:BU m α h β h'){l}(r:xZ α ks l):xZ β ks l:=r.mono λk q a ha=>le.le k (Nat.blt_eq.mp (List.all_eq_true.mp hk k q)) a ha
theorem pQ.ifX{t: Expr}{x y: List Stmt}{b: Bool}(h:cS G e t σ b σ1)(k:pQ G msg m e ks (if b then x else y) σ1 σ2):pQ G msg m e ks (.If t x y pos::c8) σ σ2:=by
 intro α s env l Q E i g xf hr hE;refine gT (wpAny_If (Aq (h α s env E i g) λβ s1 x g1=>?_));cases b<;>exact k β s1 env l _ E (i.mono x) g1 xf (hr.le x) λγ s2 v s' y=>hE γ s2 v s' (x.nj.trans y)
theorem pQ.raise{np Zr cp: Pos}{k: Nat}{c8: List Stmt}(hh:G.A.handled=none)(hx:a8 G e (.Name x np) σ (.val (.type "ValueError")) σ)(hs:sI σ (e.locals::ks)):
  pQ G msg m e ks (.Raise (aa (.Call (.Name x np) [.Constant (.str msg) k cp] [] Zr)) none pos::c8) σ σ:=by
 intro α s env l Q E i g xf hr hE;refine gT (Raise_madeB PySem.F.excCall_ValueError PySem.F.excRaise_ValueError hh (J9 (hx α s env E i g) λβ s1 y g1=>?_));refine⟨U,?_⟩;show aH _ _ (spliced ((false,eval (.Constant (.str msg) k cp) env)::j8 Zr (eA [] env))) _ _ _;refine dE (Calls.Constant_str (eN ⟨show 1<=bC by decide,λh' e' hm=>?_⟩));exact hE β {s1 with toks:=s1.toks+1} _ _ y.nj (g1.tok _) ⟨e',U,λM Q E hq=>z9.Ls xf hs (hr.le y) (g1.tok (s1.toks+1)) hm hq⟩
def uv(G:Gv)(msg:Str)(e:Env)(ks:List Nat)(x:Expr)(σ σ':St):Prop:=∀α s env l Q E,EI α e env->GS G α σ s->G.A.frames=aa (env::l)->xZ α ks (env::l) ->
 (∀β s2 y h,Le α s.heap β s2.heap->GS G β σ' s2->z9 msg β σ' s2 (env::l) y h->E (.ref y) {s2 with heap:=h})->aH G.M G.A (eval x env) Q E s
theorem pQ.assign{v: Expr}(h:uv G msg e (e.locals::ks) v σ σ1)(hc:autoParam (pK v=false) iU):pQ G msg m e ks (.Assign [.Name x p] v pos::c8) σ σ1:=by
 intro α s env l Q E i g xf hr hE;have hr':=hr;refine Fp (hr') λzz zz L e0 zz eL zz=>?_;cases e0;exact gT (wpAny_Assign_Name (h α s env l _ E i g xf hr λβ s2 y h le g2 fl=>hE β s2 _ _ le.nj g2 ⟨y,U,λM Q E hq=>fl.wV xf eL hq⟩) (tE hc _ _ _))
def EZ(G:Gv)(ks:List Nat)(env:Env)(α:AM):Prop:=∃l,G.A.frames=aa (env::l)/\xZ α ks (env::l)
def pD(G:Gv)(ks:List Nat)(m:Nat)(e:Env)(x:Stmt)(σ:St)(f:CF)(σ':St):Prop:=∀α s env E,EI α e env->GS G α σ s->EZ G ks env α->aH G.M G.A (exec x env) (WM m G α s.heap f σ') E s
def kP(G:Gv)(ks:List Nat)(m:Nat)(e:Env)(x:List Stmt)(σ:St)(f:CF)(σ':St):Prop:=∀α s env E,EI α e env->GS G α σ s->EZ G ks env α->aH G.M G.A (jI x env) (WM m G α s.heap f σ') E s
theorem kP.of{xs: List Stmt}(h:eY G m e xs σ f σ1):kP G ks m e xs σ f σ1:=λα s env E i g zz=>h α s env E i g
theorem pD.of{x: Stmt}(h:SS G m e x σ f σ1):pD G ks m e x σ f σ1:=λα s env E i g zz=>h α s env E i g
theorem EZ.Z5{h h'}(hk:(ks.all λk=>cf k m)=af)(le:BU m α h β h')(c:EZ G ks env α):EZ G ks env β:=by
 obtain⟨l,h1,h2⟩:=c;exact⟨l,h1,h2.Z5 hk le⟩
theorem EZ.le{h h'}(le:Le α h β h')(c:EZ G ks env α):EZ G ks env β:=by
 obtain⟨l,h1,h2⟩:=c;exact⟨l,h1,h2.le le⟩
theorem kP.cons{st: Stmt}(h:pD G ks m e st σ .next σ1)(k:kP G ks m e c8 σ1 f σ2)(hb:EB m e=af)(hk:(ks.all λk=>cf k m)=af):kP G ks m e (st::c8) σ f σ2:=by
 intro α s env E i g c;refine gT (Va (h α s env E i g c) λβ s1 x g1=>?_);exact wQ (k β s1 env E (i.pj x hb) g1 (c.Z5 hk x)) λzz zz w=>w.trans x
inductive Dm(G:Gv)(ks:List Nat)(m:Nat)(e:Env)(target:Expr)(body:List Stmt)(it:Nat)(σ:St)(f:CF)(σ':St):Prop
 |mk (c:CV) (τ1 uT:St) (h1:eC G target it σ c τ1) (h2:cU G e target c τ1 uT) (h3:kP G ks m e body uT f σ'):Dm G ks m e target body it σ f σ'
theorem Dm.run{body: List Stmt}{α s env a}{E:aq->aA->Prop}{Q:Option aq->aA->Prop}(t:Dm G ks m e target body it σ f σ1)(i:EI α e env)(g:GS G α σ s)(ha:α.f it=aa a)(c:EZ G ks env α)
  (h:∀v s1,aH G.M G.A (gr target (.ref a) v) (λzz s2=>aH G.M G.A (jL target env v) (λzz s3=>aH G.M G.A (jI body env) (λr s4=>WM m G α s.heap f σ1 r s4) E s3) E s2) E s1->Q (aa v) s1):aH G.M G.A (iW (.ref a)) Q E s:=by
 obtain⟨c',τ1,uT,h1,h2,h3⟩:=t;refine wQ (h1 α s a E g ha) ?_;rintro _ s1 ⟨v,rfl,k⟩;refine h v s1 (wQ (k E) ?_);rintro _ s2 ⟨β,x,g2,r⟩;refine E1 (h2 β s2 env E v (i.mono x) g2 r) λγ s3 y g3=>?_;exact wQ (h3 γ s3 env E ((i.mono x).mono y) g3 ((c.le x).le y)) λzz zz w=>w.trans (x.trans y).nj
theorem pD.for{target iter: Expr}{body pos}{m': Nat}(n:Nat)(S:Nat->St)(hb:EB m' e=af)(hk:(ks.all λk=>cf k m')=af)(hm:m<=m')(hit:it<m')(h1:a8 G e iter σ c σ1)(h2:dD G fc c σ1 (.ref it) (S 0))
  (turn:∀i,i<n->∃τ,Dm G ks m' e target body it (S i) .next τ/\gN m' τ (S (i+1))) (last:eX G it (S n) σ2) (hs:autoParam (∀env x,gv iter env x=bO x) j2):
  pD G ks m e (.For target iter body [] pos) σ .next σ2:=by
 intro α s env E i g c;refine wpAny_For (iI (h1 α s env E i g) λβ v s1 x g1 r1=>?_) (hs env);refine Nj (h2 β s1 v E g1 r1) λγ a s2 y g2 ha=>?_;have xy:=x.trans y;refine codeAny_forLoop_any (λk s'=>∃j δ,k=n-j/\j<=n/\BU m' γ s2.heap δ s'.heap/\GS G δ (S j) s') ?_ n ⟨0,γ,U,bJ _,rm.refl _ _,g2⟩;intro k s' Fx;refine uU (Fx) λj δ Fv hj le g'=>?_;obtain rfl:=Fv;have i':=(i.mono xy).pj le hb;have xX:=le.le _ hit _ ha;by_cases i8:j<n
 ·refine aR (turn j i8) λτ t h3=>?_
  refine t.run i' g' xX ((c.le xy).Z5 hk le) λv s1 w=>wQ w λzz s2 w=>wQ w λzz s3 w=>wQ w ?_;rintro _ s4 ⟨ε,z,g4,rfl⟩;refine aR (h3 G ε s4 g4) λζ z2 g5=>?_;exact⟨n-(j+1),Nat.sub_lt_sub_left i8 (bq j),j+1,ζ,U,i8,(le.trans z).trans z2,g5⟩
 ·obtain rfl:j=n:=Nat.le_antisymm hj (dm i8)
  refine wQ (last δ s' a _ g' xX) ?_;rintro _ s4 ⟨ε,z,g4,rfl⟩;exact wpAny_execs_nil ⟨ε,(xy.nj.trans (le.sub λk h=>aM h hm)).trans z.nj,g4,U⟩
end
section
open PyProof
variable{G:Gv}{m:Nat}{e:Env}{σ J7 σ1 σ3:St}{α β:AM}{s s2:aA}{msg:Str}{ks:List Nat}{l:List Env}{env:Env}{x n:Str}{h:Heap}{v:aq}
noncomputable def ers(m:List (Str×CV))(n:Str):List (Str×CV):=m.filter λp=>p.1 != n
theorem Bk{y: Str}{c: CV}{m: List (Str×CV)}(h:(ers m n).lookup y=aa c):y≠n/\m.lookup y=aa c:=by
 obtain⟨h1,h2⟩:=pk (f:=λy=>y != n) h;exact⟨bne_iff_ne.mp h1,h2⟩
noncomputable def Ua(G:Gv)(v:aq)(h:Heap):Gv:=⟨G.prog,G.w,G.A.mark (aa v),h,G.os⟩
theorem GS.re(g:GS G α σ s)(hb:∀b o,h.get? b=aa o->α.off b/\s.heap.get? b=aa o):GS (Ua G v h) α σ s:=
 ⟨λk ao e=>g.own k ao e,g.ow,hb,g.inj,g.new,g.lt,g.qf,g.os,g.bare⟩
theorem GS.aau(g:GS (Ua G v h) α σ s)(hb:∀b o,G.h₀.get? b=aa o->h.get? b=aa o):GS G α σ s:=
 ⟨λk ao e=>g.own k ao e,g.ow,λb o e=>g.base b o (hb b o e),g.inj,g.new,g.lt,g.qf,g.os,g.bare⟩
theorem Je{M:gw}{A:bZ}{p: Pos}{Q:aq->aA->Prop}{E:aq->aA->Prop}(h:Glob G x v)(kp:∀b o,G.h₀.get? b=aa o->s.heap.get? b=aa o)(hl:env.scope.kind=.function/\env.kindOf x=aa .globalImplicit)(hg:env.globals=3)(hb:env.builtins=0)(q:Q v s)(hd:C4 x=false):aH M A (eval (.Name x p) env) Q E s:=by
 refine gB ?_ hd;rw[gM hl.1 hl.2];rcases h with⟨mg,n1,e1⟩|⟨mg,mb,n1,e1,n2,e2⟩
 ·exact gx (hg▸n1.keeps kp) e1 q
 ·exact i4 (hg▸n1.keeps kp) e1 (hb▸n2.keeps kp) e2 q
structure J6(h₀ h:Heap)(msg:Str)(y t:Nat):Prop where
 sub:∀b o,h₀.get? b=aa o->h.get? b=aa o
 exc:h.ExcAt y "ValueError" (.ref t)
 tup:∃tk,h.TupAt t [.str msg tk]
theorem z9.landed{y t: Nat}{tk:Tok}{nt: Nat}{h1: Heap}{γ: AM}(g2:GS G β J7 s2)(made:Heap.MadeExc s2.heap h1 y "ValueError" [.str msg tk])(Oq:Heap.FlyingW (pO h1 (um β J7 y)) (env::l) y (.type "ValueError") (.ref t) h)(up:h1.UpToSlots h)(tup:h1.get? t=aa (ux [.str msg tk] nt))(v_:s2.heap.get? t=none)
  (ls:BU m β h γ h) (gs:GS G γ σ1 {s2 with heap:=h}):J6 G.h₀ (pO h γ.O) msg y t/\GS (Ua G (.ref y) (pO h γ.O)) γ σ1 {s2 with heap:=h}:=by
 have off:∀a,s2.heap.get? a=none->¬γ.O a:=λa hn q=>by
  rcases ls.new a q with u|u
  ·obtain⟨o,ho⟩:=g2.lt a u;rw[hn]at ho;cases ho
  ·obtain⟨o,ho⟩:=gs.lt a q
   have ho:h.get? a=aa o:=ho;rw[u]at ho;cases ho
 refine uU (Oq.first) λoe ws e1 e2 e3 e4=>?_;refine f5 (Heap.TupAt.of_slots (vs:=[.str msg tk]) ⟨_,nt,tup,U,U⟩ up) λo n t1 t2 t3=>?_;exact⟨⟨λb o e=>fk.mpr (gs.base b o e),⟨oe,ws,fk.mpr ⟨off _ made.new,e1⟩,e2,e3,e4⟩,tk,o,n,fk.mpr ⟨off _ v_,t1⟩,t2,t3⟩,gs.re λb o e=>fk.mp e⟩
theorem pD.PR{j: Nat}{y: Expr}{np abH ab3 pos: Pos}{Zu: Stmt}{Nq: List Stmt}{S2:Nat->St}{m1: List (Str×CV)}(hx:Glob G x (.type "ValueError"))(hxk:bB e x .globalImplicit=af)(hl:bB e n .local=af)(hg:e.globals=3)(hb0:e.builtins=0)(hd:C4 x=false)(hc:pK y=false)
  (hX:∃J7,uv G msg e (j::ks) y σ J7/\gN m J7 σ1) (hm1:σ1.get e.locals=aa (.frame m1)) (hb:EB m e=af)
  (hs:∀y t h,J6 G.h₀ h msg y t->eY (Ua G (.ref y) h) m e (Zu::Nq) (σ1.set e.locals (.frame (upd m1 n (.val (.ref y))))) .next (S2 y))
  (h2:∀y,∃m2,(S2 y).get e.locals=aa (.frame m2)/\(S2 y).set e.locals (.frame (ers m2 n))=σ3):
  pD G (j::ks) m e (.Try [.Expr y ab3] [.ExceptHandler (aa (.Name x np)) (aa n) (Zu::Nq) abH] [] [] pos) σ .next σ3:=by
 refine aR (hX) λJ7 hX hsh=>?_;intro α s env E i g ⟨l,xf,hr⟩;have hf:=(bB.is hl i).1;have hi:interactive env=false:=by unfold interactive;rw[hf];rfl
 have hp:(env.scope.kind==.class || (env.scope.kind==.module&&env.locals != env.globals))=false:=by rw[hf];rfl
 refine wpAny_Try_except (gT (wpAny_Expr (hX α s env l _ _ i g xf hr λβ s2 y h le g2 fl=>?_) hi (tE hc _ _ _)));obtain⟨h1,t,tk,nt,made,Oq,up,tup,v_⟩:=fl;refine Fp (hr) λzz zz L e0 zz hL zz=>?_;cases e0;refine wpAny_looks_onW xf hL Oq λh4 Yq sm4=>?_;refine wpAny_landsW Yq λh5 S8 sm5=>?_;have F5:z9 msg β J7 s2 (env::l) y h5:=⟨h1,t,tk,nt,made,S8,(up.trans sm4).trans sm5,tup,v_⟩;refine aR (S8.there) λob hob abJ=>?_;refine wpAny_handleBy_builtin_as (X:="ValueError") (T:="ValueError") (b:=af) (by rw[kW];kernel_rfl) (by rw[kW];kernel_rfl) (by rw[kW];kernel_rfl)
  (Je hx (λb o q=>((F5.land g2).2.base b o q).2) (bB.is hxk i) (i.globals.trans hg) (i.builtins.trans hb0) ⟨U,⟨ob,hob,abJ⟩,?_⟩ hd)
 rw[if_pos U];refine lands_againW (s:={s2 with heap:=h5}) S8 λh6 Y4 sm6=>?_;have up6:=((up.trans sm4).trans sm5).trans sm6;refine lA (z9.land (s2:=s2) ⟨h1,t,tk,nt,made,Y4,up6,tup,v_⟩ g2) λlf gf=>?_;refine aR (hsh G β _ gf) λγ ls gs=>?_;refine lA (z9.landed g2 made Y4 up6 tup v_ ls gs) λea g7=>?_;have i7:=(i.mono (le.trans lf)).pj ls hb;refine iI (dJ.loc (c:=.val (.ref y)) hm1 hl γ _ env _ (.ref y) i7 g7 U) λδ zz s8 l8 g8 zz=>?_;refine Va (hs y t _ ea δ s8 env _ (i7.mono l8) g8) λε s9 l9 g9=>?_;refine aR (h2 y) λm2 I5 e3=>?_;refine dH λM' up1=>?_;obtain⟨a,ha,mf,tU,q9⟩:=g9.own _ _ I5;have i9:=(i7.mono l8).pj l9 hb;cases ha.symm.trans i9.loc;refine up1 ?_;refine wpAny_nameGoes_keeps (bB.is hl i).2 tU hp λh' v X_ xc=>?_;have t9:=g9.turn (h':=h') (ao':=.frame (ers m2 n)) I5 i9.loc (λb o hb eo=>(xc.2 b hb).trans eo) (λle=>⟨_,X_,λz c hz=>?_⟩) (s9.toks+1)
 ·exact⟨ε,((((le.trans lf).nj.trans ls).trans l8.nj).trans l9).trans t9.1.nj,e3▸t9.2.aau ea.sub,U⟩
 ·refine lA (Bk hz) λh1 h2=>?_
  refine aR (q9 z c h2) λw hw r=>?_;exact⟨w,(if_neg h1).trans hw,r.mono le⟩
end
section
open PyProof
variable{G:Gv}{m:Nat}{e:Env}{σ σ1 σ2 σ3:St}{α β:AM}{s s2:aA}{msg:Str}{ks:List Nat}{l:List Env}{env:Env}{x:Str}{p pos:Pos}{a b c d:CV}{f:CF}{cs kc:List CV}{t:Bool}{k:Nat}{fr:List (Str×CV)}
theorem KY{y t: Nat}{h: Heap}(ea:J6 G.h₀ h msg y t)(hu:G.A.units+2<cLine):bM (Ua G (.ref y) h) (λvs=>call (.type "str") vs) [.val (.ref y)] σ (.str msg) σ:=by
 refine dH λlg eS=>?_;obtain⟨sub,⟨oe,ws,e1,e2,e3,e4⟩,tk,o,n,t1,t2,t3⟩:=ea;refine eS ?_;intro α s _ E g pX;refine f5 (pX) λv zz mV U7 nW=>?_;obtain rfl:=mV;obtain rfl:=U7;obtain rfl:=nW;exact P.str_of_exc_one (A:=G.A.mark (aa (.ref y))) PySem.F.excStr_ValueError hu ⟨oe,ws,(g.base _ _ e1).2,e2,e3,e4⟩ ⟨o,n,(g.base _ _ t1).2,t2,t3⟩ (g.here (R:=VR) (d:=CV.str msg) (v:=.str msg tk) ⟨tk,U⟩)
def Nf(G:Gv)(ks:List Nat)(α:AM):Prop:=∃l,G.A.frames=aa l/\xZ α ks l
theorem EZ.toA(c:EZ G ks env α):Nf G ks α:=by
 obtain⟨l,h1,h2⟩:=c;exact⟨_,h1,h2⟩
theorem rU.Jp{a: Nat}{fd body cl rb}{names: List Str}(room:G.A.depth<bA)(D:eZ G a fd)(gV:G.h₀.NoLimit)(xg:G.h₀.CodeRec fd.code fd.qualname)(K:jf fd body cl)
  (kM:∀α s vs ws,GS G α σ s->di α s.heap cs vs->di α s.heap kc ws->∃dn,bW s fd ⟨vs,names.zip ws⟩ dn/\dn.reverse.map (·.1)=rb.map (·.1)/\di α s.heap (rb.map (·.2)) (dn.reverse.map (·.2)))
  (hk:(rb.all λp=>fd.scope.names.lookup p.1==aa .local || (fd.scope.names.lookup p.1==aa .cell&&(cl.lookup p.1).isSome))=af) (hm:dM σ.n m=af) (he:xr fd cl rb σ=σ1)
  (h:∀env,kP (deep G env) (σ.n::ks) m (entryE fd cl σ.n a) body σ1 f σ2) {c:CV}(hc:autoParam (vd f=c) iU):rU G (Nf G ks) (λvs ws=>call (.ref a) vs (names.zip ws)) cs kc σ c σ2:=
 hc▸rU.entry (C2:=λenv β=>EZ (deep G env) (σ.n::ks) env β) room D gV xg K kM hk (bw hm) (λα β L ⟨l,h1,h2⟩ le hL=>⟨l,Around.frames_deeper h1,_,l,L,U,K.kind,U,hL,h2.mono λk zz=>le k⟩) λenv α s E i g q=>h env α s env E i (he▸g) q
def nR(G:Gv)(ks:List Nat)(e:Env)(x:Expr)(σ:St)(b:Bool)(σ':St):Prop:=∀α s env E,EI α e env->GS G α σ s->EZ G ks env α->aH G.M G.A (isTrue x env (eval x env)) (W RB G α s.heap b σ') E s
theorem pD.js{t: Expr}{x y: List Stmt}{b: Bool}(h:nR G ks e t σ b σ1)(k:eY G m e (if b then x else y) σ1 f σ2):pD G ks m e (.If t x y pos) σ f σ2:=by
 intro α s env E i g c;refine wpAny_If (Aq (h α s env E i g c) λβ s1 x g1=>?_);cases b<;>exact wQ (k β s1 env E (i.mono x) g1) λzz zz w=>w.trans x.nj
theorem nR.not{x: Expr}(h:nR G ks e x σ t σ1):nR G ks e (.UnaryOp .Not x pos) σ (!t) σ1:=by
 intro α s env E i g c;refine PyProof.Rows.isTrue_not (wQ (h α s env E i g c) ?_);rintro _ s1 ⟨β,x,g1,rfl⟩;exact⟨β,x,g1,U⟩
theorem nR.i_{a fd}{args: List Expr}(D:eZ G a fd)(hf:a8 G e (.Name x p) σ (.val (.ref a)) σ1)(h:jK G e pos args σ1 cs σ2)(k:rU G (Nf G ks) (λvs ws=>call (.ref a) vs ([].zip ws)) cs [] σ2 (.bool t) σ3)
  (he:autoParam (∀env,isTrue (.Call (.Name x p) args [] pos) env (eval (.Call (.Name x p) args [] pos) env)=(do let v ←eval (.Call (.Name x p) args [] pos) env;f6 (Expr.Call (.Name x p) args [] pos).pos;h_ [v] (truthy v))) j2):nR G ks e (.Call (.Name x p) args [] pos) σ t σ3:=by
 refine aR (D) λo ho hd=>?_;intro α s env E i g c;refine PyProof.Rows.isTrue_plain (ae (J9 (hf α s env E i g) λβ s1 l1 g1=>?_)) (he env);refine nI (o:=o) (fd:=fd) (c_ h.1 (iI (h.2 β s1 env E (i.mono l1) g1) λγ vs s2 l2 g2 r2=>?_));refine⟨⟨(g2.base _ _ ho).2,hd⟩,wQ (k γ s2 vs [] E ((c.le l1).le l2).toA g2 r2 U) ?_⟩;rintro v s3 ⟨δ,l3,g3,rfl⟩;exact wpAny_truthy_bool ⟨δ,(l1.trans l2).trans l3,g3,U⟩
def Nc(fr:List (Str×CV)):Prop:=∀r,BV r fr fr
noncomputable def wk(mf:Str->Option aq)(fr:List (Str×CV)):List (Str×CV):=fr.map λp=>(p.1,.val ((mf p.1).getD .none))
theorem qR{mf:Str->Option aq}:(wk mf fr).lookup x=(fr.lookup x).map λzz=>.val ((mf x).getD .none):=by
 induction fr with
 |nil=>rfl
 |cons p fr ih =>
  rw[show wk mf (p::fr)=(p.1,.val ((mf p.1).getD .none))::wk mf fr from U,a7,a7,ih];cases q:x==p.1 with
  |true=>rw[←beq_iff_eq.mp q];rfl
  |false=>rfl
theorem GL{mf:Str->Option aq}:Nc (wk mf fr):=by
 intro r;have:∀l:List (Str×CV),(∀p∈l,(fr.lookup p.1).isSome=af)->BV r (wk mf fr) (wk mf l):=by
  intro l
  induction l with
  |nil=>exact λzz=>aE
  |cons p l ih =>
   intro h;refine⟨?_,ih λq hq=>h q (.tail _ hq)⟩;refine iH (Option.isSome_iff_exists.mp (h p (.head _))) λc hc=>?_;rw[qR,hc];rfl
 refine this fr λp hp=>?_;clear this
 induction fr with
 |nil=>cases hp
 |cons q fr ih =>
  rw[a7];cases z:p.1==q.1 with
  |true=>rfl
  |false =>
   rcases List.mem_cons.mp hp with e|hp
   ·rw[e,beq_self_eq_true]at z;cases z
   ·exact ih hp
theorem St.get_set{o ao: AO}(h:σ.get k=aa o):(σ.set k ao).get k=aa ao:=by
 rw[show(σ.set k ao).get k=_ from fi k ao k,if_pos U,show dh σ.objs k=aa o from h];rfl
theorem rU.raw{C:AM->Prop}{F:List aq->List aq->Sem aq}(hk:σ.get k=aa (.frame fr))(zb:σ1.get k=aa (.frame fr))
  (h:∀r8,Nc r8->rU G C F cs kc (σ.set k (.frame r8)) c (σ1.set k (.frame r8))):rU G C F cs kc σ c σ1:=by
 intro α s vs ws E SD g r1 r2;refine dH λlg eS=>?_;obtain⟨a,ha,mf,tU,q⟩:=g.own _ _ hk;refine eS ?_;have t:=g.turn (h':=s.heap) (ao':=.frame (wk mf fr)) hk ha (λb o zz e=>e) (λle=>⟨mf,tU,λx c hx=>?_⟩) s.toks
 ·refine iI (h _ GL α s vs ws E SD t.2 r1 r2) λβ v s' le g' r=>?_
  have Bw:(σ1.set k (.frame (wk mf fr))).get k=aa (.frame (wk mf fr)):=St.get_set zb;refine dH λM' up1=>?_;obtain⟨b,hb,mf',abK,q'⟩:=g'.own _ _ Bw;cases(le.le k aE a ha).symm.trans hb;refine up1 ?_;have t':=g'.turn (ao':=.frame fr) (h':=s'.heap) Bw hb (λb o zz e=>e) (λzz=>⟨mf',abK,λx c hx=>?_⟩) s'.toks
  ·rw[St.set_set,St.set_same zb]at t'
   exact⟨β,le,t'.2,r⟩
  ·refine aR (q x c hx) λv h1 h2=>?_
   refine aR (q' x (.val v) (by rw[qR,hx,h1];rfl)) λw h3 Ap=>?_;obtain rfl:=Ap;exact⟨_,h3,h2.mono le⟩
 ·rw[qR]at hx
  cases z:fr.lookup x with
  |none=>rw[z]at hx;cases hx
  |some d =>
   rw[z]at hx;refine aR (q x d z) λv h1 zz=>?_;cases hx;exact⟨v,h1,by rw[h1];rfl⟩
end
section
open PyProof
variable{G:Gv}{σ:St}{a b c:CV}{n:Nat}{d:PyData}{ds:List PyData}{pos:Pos}{σ1:St}{e:Env}{x:Expr}{l:List Int}
structure Lay(n:Nat)(d:PyData):Prop where
 lay:d.canLay0=af
 eq:gF d d=af
 dep:d.depth<=n
structure xP(n:Nat)(ds:List PyData):Prop where
 lay:jG ds=af
 eq:PyData.eqvAll ds ds=af
 dep:PyData.depthAll ds<=n
theorem Lay.int{i: Int}:Lay n (.int i):=⟨by rfl,by simp[gF],bJ _⟩
theorem Lay.none:Lay n .none:=⟨by rfl,by simp[gF],bJ _⟩
theorem Lay.str{x: Str}(h:gE x=af):Lay n (.str x):=⟨by simp only[PyData.canLay0,h],by simp[gF],bJ _⟩
theorem Lay.list(h:xP n ds):Lay (n+1) (.list ds):=⟨by rw[PyData.canLay0];exact h.lay,by rw[gF];exact h.eq,by rw[PyData.depth];exact Nat.succ_le_succ h.dep⟩
theorem xP.nil:xP n []:=⟨by rfl,by simp[PyData.eqvAll],bJ _⟩
theorem xP.cons(h:Lay n d)(k:xP n ds):xP n (d::ds):=⟨by rw[jG,h.lay,k.lay];rfl,by rw[PyData.eqvAll,h.eq,k.eq];rfl,by rw[PyData.depthAll];exact Nat.max_le.mpr ⟨h.dep,k.dep⟩⟩
theorem xP.map{β:Type}{g:β->PyData}(l:List β)(h:∀b∈l,Lay n (g b)):xP n (l.map g):=by
 induction l with
 |nil=>exact .nil
 |cons b l ih=>exact .cons (h b (.head _)) (ih λc hc=>h c (.tail _ hc))
theorem nx(L:Lay n d)(ha:Rd G σ a d)(hb:Rd G σ b d)(hu:G.A.units+n<cLine):bN G (bS .Eq) a b σ (.bool af) σ:=
 vj ha hb L.lay L.lay (aY (cq (au (Nat.min_le_left _ _) L.dep) _) hu) L.eq
theorem iX(L:Lay n d)(ha:Rd G σ a d)(hb:Rd G σ b d)(hu:G.A.units+n<cLine):bN G (bS .NotEq) a b σ (.bool false) σ:=
 oV ha hb L.lay L.lay (aY (cq (au (Nat.min_le_left _ _) L.dep) _) hu) (by rw[L.eq];rfl)
theorem Lay.ints:Lay (n+1) (.list (l.map .int)):=.list (.map l λzz zz=>.int)
theorem Rd.ints{k: Nat}(e:σ.get k=aa (.list (l.map .int))):Rd G σ (.ref k) (.list (l.map .int)):=.list e (.map (λzz=>.int) l)
theorem a8.uj(h:a8 G e x σ c σ1):a8 G e (.BoolOp .And [x] pos) σ c σ1:=λα s env E i g=>BoolOp_one (h α s env E i g)
theorem a8.sa{y: Expr}{c8: List Expr}{σ2: St}(h:a8 G e x σ (.bool af) σ1)(k:a8 G e (.BoolOp .And (y::c8) pos) σ1 c σ2):a8 G e (.BoolOp .And (x::y::c8) pos) σ c σ2:=by
 intro α s env E i g;refine BoolOp_and (wQ (h α s env E i g) ?_);rintro _ s1 ⟨β,x,g1,rfl⟩;exact wpAny_truthy_bool (wQ (k β s1 env E (i.mono x) g1) λzz zz w=>w.trans x)
end
section
open PyProof
variable{G:Gv}{σ τ0 τ1:St}{c c0:CV}{cs ks cs0 ks0:List CV}{l l2:List (Nat×Nat)}{σ':St}{τ:St}{k:Nat}{ao:AO}
def z6(r:Nat->Nat)(τ:St):List (Nat×AO)->Prop
 |[]=>True
 |(k,ao)::q=>(∃o,τ.get (r k)=aa o/\jt r o ao)/\z6 r τ q
def z0(r:Nat->Nat)(σ τ:St):List (Nat×Nat)->Prop
 |[]=>True
 |(k,_)::l=>(∃ao o,σ.get k=aa ao/\τ.get (r k)=aa o/\jt r o ao)/\z0 r σ τ l
theorem z6.look{r:Nat->Nat}{ys: List (Nat×AO)}{xs: List (Nat×AO)}:z6 r τ xs->dh (xs++ys) k=aa ao->(∃o,τ.get (r k)=aa o/\jt r o ao)∨dh ys k=aa ao:=by
 induction xs with
 |nil=>exact λzz h=>.inr h
 |cons p xs ih =>
  obtain⟨j,o⟩:=p;intro x h;rw[kS]at h;unfold dh at h;cases z:br k j with
  |true=>rw[z]at h;cases h;cases a9 z;exact .inl x.1
  |false=>rw[z]at h;exact ih x.2 h
theorem z0.look{r:Nat->Nat}{j: Nat}(h:σ.get k=aa ao):∀{l:List (Nat×Nat)},z0 r σ τ l->(k,j)∈l->∃o,τ.get (r k)=aa o/\jt r o ao:=by
 intro l
 induction l with
 |nil=>intro _ h;cases h
 |cons p l ih =>
  intro x q;rcases List.mem_cons.mp q with e|q
  ·cases e
   refine f5 (x.1) λao' o h1 h2 h3=>?_;cases h1.symm.trans h;exact⟨o,h2,h3⟩
  ·exact ih x.2 q
theorem rU.rC{C C0:AM->Prop}{f:List aq->List aq->Sem aq}{news: List (Nat×AO)}{n': Nat}(hC:∀α Af:AM,C α->(∀j,Af.f j=α.f (eI (d6 l) j σ.n))->C0 Af)
  (a:ik 0 τ0.n (d6 l)=af) (b:(l.all λp=>(τ0.get p.2).isSome&&cf p.1 σ.n)=af) (c':ik 0 n' (l++l2)=af) (d:(l2.all λp=>dM σ.n p.1)=af) (e:dM σ.n n'=af) (into:zY (λj=>eI (d6 l) j σ.n) σ τ0.objs)
  (ro:z0 (λk=>eI (l++l2) k τ1.n) σ τ1 l) (rn:z6 (λk=>eI (l++l2) k τ1.n) τ1 news)
  (spec:∀h₀,(∀b o,G.h₀.get? b=aa o->h₀.get? b=aa o)->rU (ext G h₀) C0 f cs0 ks0 τ0 c0 τ1)
  (r6:cs=cK (λj=>eI (d6 l) j σ.n) cs0) (Mn:ks=cK (λj=>eI (d6 l) j σ.n) ks0) (hr:c0=ny (λk=>eI (l++l2) k τ1.n) c):rU G C f cs ks σ c ⟨news++σ.objs,n'⟩:=by
 refine rU.pass (l:=l) (l2:=l2) (σ':=⟨news++σ.objs,n'⟩) ⟨a,b,c',d,e,into,λk ao h=>?_⟩ hC spec r6 Mn hr;rcases rn.look h with q|q
 ·exact .inr q
 ·exact(Classical.em (∃j,(k,j)∈l)).symm.imp (λn=>⟨λj hj=>n ⟨j,hj⟩,q⟩) λ⟨j,hj⟩=>ro.look q hj
theorem SK.rC{f:List aq->List aq->Sem aq}{news: List (Nat×AO)}{n': Nat}(l l2:List (Nat×Nat))
  (a:ik 0 τ0.n (d6 l)=af) (b:(l.all λp=>(τ0.get p.2).isSome&&cf p.1 σ.n)=af) (c':ik 0 n' (l++l2)=af) (d:(l2.all λp=>dM σ.n p.1)=af) (e:dM σ.n n'=af) (into:zY (λj=>eI (d6 l) j σ.n) σ τ0.objs)
  (ro:z0 (λk=>eI (l++l2) k τ1.n) σ τ1 l) (rn:z6 (λk=>eI (l++l2) k τ1.n) τ1 news)
  (spec:∀h₀,(∀b o,G.h₀.get? b=aa o->h₀.get? b=aa o)->SK (ext G h₀) f cs0 ks0 τ0 c0 τ1)
  (r6:cs=cK (λj=>eI (d6 l) j σ.n) cs0) (Mn:ks=cK (λj=>eI (d6 l) j σ.n) ks0) (hr:c0=ny (λk=>eI (l++l2) k τ1.n) c):SK G f cs ks σ c ⟨news++σ.objs,n'⟩:=λα s vs ws E =>
 rU.rC (C:=λzz=>True) (C0:=λzz=>True) (λzz zz zz zz=>aE) a b c' d e into ro rn (λh b α s vs ws E zz=>spec h b α s vs ws E) r6 Mn hr α s vs ws E aE
end
section
open PyProof
variable{G:Gv}{σ σ1 σ2:St}{m n it:Nat}{a:CV}
theorem dD.shp{f:aq->Sem aq}(h:dD G f a σ (.ref it) σ1)(k:gN m σ1 σ2)(hm:dM σ.n m=af)(hit:cf it m=af):dD G f a σ (.ref it) σ2:=by
 intro α s v E g r;refine Nj (h α s v E g r) λβ b s1 x g1 hb=>?_;refine aR (k G β s1 g1) λγ y g2=>?_;refine⟨γ,x.trans' y λk a zz e=>y.le k ?_ a (x.le k aE a e),g2,b,U,y.le it (Nat.blt_eq.mp hit) b hb⟩;refine aM ?_ (bw hm);cases kh k σ.n with
 |inl q=>exact q
 |inr q=>rw[g.new k q]at e;cases e
end
section
variable{h:Heap}{a:Nat}
noncomputable def nk:List Nat:=[12,16,25,34,43,52,63,69,76,84,92,99,106,114,121,129,154,200,207,212,219,226,233,238,245]
inductive J5(P:ag)(h:Heap):Prop
 |mk (f:Nat->Obj) (kt tk:Nat) (es:Array bI) (ep:Nat) (a:EA (es:Array bI).toList m9) (b:f 0=dO es ep) (c:∀b o',nk.contains b=false->(fq P f kt tk).get? b=aa o'->h.get? b=aa o'):J5 P h
structure aO(G:Gv)(n:Nat):Prop where
 room:G.A.depth+n<bA
 hh:G.A.handled=none
 pg:G.prog=pw
 un:G.A.units+10*n<9000
 heap:J5 G.w.params G.h₀
theorem aO.ext{G n}(B:aO G n)(k:∀b o,G.h₀.get? b=aa o->h.get? b=aa o):aO (Mine.Internal.ext G h) n:=by
 obtain⟨f,kt,tk,es,ep,a,b,c⟩:=B.heap;exact⟨B.room,B.hh,B.pg,B.un,f,kt,tk,es,ep,a,b,λq o' n e=>k _ _ (c q o' n e)⟩
theorem aO.le{G n m}(B:aO G n)(h:dM m n=af):aO G m:=⟨by have:=B.room;have:=bw h;lia,B.hh,B.pg,by have:=B.un;have:=bw h;lia,B.heap⟩
theorem aO.deep{G n env}(B:aO G (n+1)):aO (Mine.Internal.deep G env) n:=⟨by have:=B.room;simp only[Mine.Internal.deep,Around.deeper];lia,B.hh,B.pg,by have:=B.un;simp only[Mine.Internal.deep,Around.deeper];lia,B.heap⟩
theorem aO.cQ{G n}(B:aO G n):G.A.depth<bA:=aY (bg _ _) B.room
theorem aO.at{G n a}{o:ag->Obj}(B:aO G n)(h:∀P f kt tk,(fq P f kt tk).get? a=aa (o P))(ha:autoParam (nk.contains a=false) iU):G.h₀.get? a=aa (o G.w.params):=by
 obtain⟨f,kt,tk,es,ep,_,_,c⟩:=B.heap;exact c a _ ha (h _ _ _ _)
theorem aO.d5{G n c q}(B:aO G n)(h:∀P f kt tk,(fq P f kt tk).CodeRec (.ref c) q)(ha:autoParam (nk.contains c=false) iU):G.h₀.CodeRec (.ref c) q:=by
 obtain⟨f,kt,tk,es,ep,_,_,k⟩:=B.heap;refine Fm (h G.w.params f kt tk) λc' o vs t e1 g r=>?_;cases e1;exact xi4 c o vs t ⟨U,k _ _ ha g,r⟩
theorem Ns.of{h': Heap}{m}(x:h.Ns a m)(k:∀o,h.get? a=aa o->h'.get? a=aa o):h'.Ns a m:=by
 obtain⟨o,es,ep,e,r⟩:=x;exact⟨o,es,ep,k o e,r⟩
theorem aO.ns{G n a x v}(B:aO G n)(h:∀P f kt tk,(fq P f kt tk).isNs a=af)(hv:∀P f kt tk,(fq P f kt tk).nsMap a x=v)(ha:autoParam (nk.contains a=false) iU):∃m,G.h₀.Ns a m/\m x=v:=by
 obtain⟨f,kt,tk,es,ep,_,_,c⟩:=B.heap;exact⟨_,Ns.of (gJ (h G.w.params f kt tk)) λo=>c _ o ha,hv _ _ _ _⟩
theorem Sa(P:ag)(f:Nat->Obj)(kt tk:Nat):(fq P f kt tk).NoLimit:=Heap.NoLimit.of_ok ak
theorem N6(P:ag)(f:Nat->Obj)(kt tk:Nat):(fq P f kt tk).isNs 0=af:=by kernel_rfl
theorem aO.cP{G n}(B:aO G n):G.h₀.NoLimit:=by
 obtain⟨f,kt,tk,es,ep,_,_,c⟩:=B.heap;exact Heap.NoLimit.at (Sa G.w.params f kt tk) λo e=>c _ o (by rfl) e
theorem aO.glob{G n x v}(B:aO G n)(h3:∀P f kt tk,(fq P f kt tk).nsMap 3 x=aa v):Glob G x v:=by
 obtain⟨m,h,e⟩:=B.ns vE h3;exact .inl ⟨m,h,e⟩
theorem aO.blt{G n x v}(B:aO G n)(h3:∀P f kt tk,(fq P f kt tk).nsMap 3 x=none)(h0:∀P f kt tk,(fq P f kt tk).nsMap 0 x=aa v):Glob G x v:=by
 obtain⟨f,kt,tk,es,ep,_,_,c⟩:=B.heap;exact .inr ⟨_,_,Ns.of (gJ (vE G.w.params f kt tk)) λo=>c _ o (by rfl),h3 _ _ _ _,Ns.of (gJ (N6 G.w.params f kt tk)) λo=>c _ o (by rfl),h0 _ _ _ _⟩
theorem aO.defAt{G n a fd}{o:ag->Obj}(B:aO G n)(h:∀P f kt tk,(fq P f kt tk).get? a=aa (o P))(hd:∀P,(o P).data=.func fd)(ha:autoParam (nk.contains a=false) iU):eZ G a fd:=⟨_,B.at h ha,hd _⟩
theorem Bj{K: Frag}{o: Obj}(e:K.lookup a=aa o):a∈K.map (·.1):=by
 induction K with
 |nil=>cases e
 |cons p K ih =>
  simp only[jx]at e
  split at e
  ·rename_i h
   rw[beq_iff_eq.mp h];simp
  ·exact .tail _ (ih e)
theorem aO.S6{G n}{K:ag->Frag}(B:aO G n)(as:List Nat)(h:∀P f kt tk,(K P).In (fq P f kt tk))(hk:∀P,(K P).map (·.1)=as)(hd:(as.all λa=>!nk.contains a)=af):(K G.w.params).In G.h₀:=by
 obtain⟨f,kt,tk,es,ep,_,_,c⟩:=B.heap;intro a o ha;refine c a o ?_ (h _ _ _ _ a o ha);have:=List.all_eq_true.mp hd a (hk G.w.params▸Bj ha)
 rwa [Bool.not_eq_true']at this
noncomputable abbrev fdOf(k:Nat)(name:Str)(d kd m c:aq):cO:=
 {name:=name,qualname:=name,params:=fA (st k),body:=.stmts (fB (st k)),scope:=fS (st k),globals:=3,closure:=[],defaults:=d,kwdefaults:=kd,doc:=N,pyModule:=m,annotations:=none,code:=c,closureTuple:=N,builtins:=0}
end
section
noncomputable def KS(P:ag):Frag:=[(22,LH P),(23,LG P),(31,LD P),(32,LC P),(40,LA P),(41,Lz P),(49,Lx P),(50,Lw P)]
theorem aO.KS{G n}(B:aO G n):(KS G.w.params).In G.h₀:=B.S6 [22,23,31,32,40,41,49,50] (λP f kt tk=>Frag.in_of (as:=[22,23,31,32,40,41,49,50]) U ak) (λP=>U) ak
theorem gC{G n}(B:aO G n):Glob G (So "len") (.builtin "len"):=B.blt (λzz zz zz zz=>ak) (λzz zz zz zz=>ak)
theorem bN.to{G f a b σ σ1}{t u:Bool}(h:bN G f a b σ (.bool t) σ1)(e:t=u):bN G f a b σ (.bool u) σ1:=e▸h
theorem i5{K:Frag}{G:Gv}{α σ s}(X:K.In G.h₀)(g:GS G α σ s):K.In s.heap:=λb o e=>(g.base b o (X b o e)).2
noncomputable abbrev BF:cO:=fdOf 2 (Sx [105,110,115,111,114,116,95,114,105,103,104,116]) (R 22) (R 23) (.str (Sx [99,112,121,51,49,51,46,98,105,115,101,99,116]) 194) (R 29)
theorem zB(P:ag):(Hm P).data=.func BF:=by kernel_rfl
theorem zR(P:ag)(f:Nat->Obj)(kt tk:Nat):(fq P f kt tk).get? 30=aa (Hm P):=by kernel_rfl
theorem xB(P:ag)(f:Nat->Obj)(kt tk:Nat):(fq P f kt tk).CodeRec (R 29) (Sx [105,110,115,111,114,116,95,114,105,103,104,116]):=dB (o:=LF P) ak U U
theorem QW:jf BF (fB (st 2)) []:=⟨U,U,λL=>ak,U,U,ak,ak,ak⟩
theorem acs{P s}(X:(KS P).In s.heap)(a x:aq):bW s BF ⟨[a,x],[]⟩ [(So "a",a),(So "x",x),(So "lo",.int 0 196),(So "hi",.none),(So "key",.none)]:=cB X λS=>ak
theorem TN{P s}(X:(KS P).In s.heap)(a x k:aq):bW s BF ⟨[a,x],[(So "key",k)]⟩ [(So "a",a),(So "x",x),(So "lo",.int 0 196),(So "hi",.none),(So "key",k)]:=cB X λS=>ak
noncomputable abbrev zu:cO:=fdOf 3 (Sx [98,105,115,101,99,116,95,114,105,103,104,116]) (R 31) (R 32) (.str (Sx [99,112,121,51,49,51,46,98,105,115,101,99,116]) 194) (R 38)
theorem qB(P:ag):(Hl P).data=.func zu:=by kernel_rfl
theorem qF(P:ag)(f:Nat->Obj)(kt tk:Nat):(fq P f kt tk).get? 39=aa (Hl P):=by kernel_rfl
theorem rj(P:ag)(f:Nat->Obj)(kt tk:Nat):(fq P f kt tk).CodeRec (R 38) (Sx [98,105,115,101,99,116,95,114,105,103,104,116]):=dB (o:=LB P) ak U U
theorem Lr:jf zu (fB (st 3)) []:=⟨U,U,λL=>ak,U,U,ak,ak,ak⟩
theorem acr{P s}(X:(KS P).In s.heap)(a x:aq):bW s zu ⟨[a,x],[]⟩ [(So "a",a),(So "x",x),(So "lo",.int 0 209),(So "hi",.none),(So "key",.none)]:=cB X λS=>ak
theorem TM{P s}(X:(KS P).In s.heap)(a x l h:aq):bW s zu ⟨[a,x,l,h],[]⟩ [(So "a",a),(So "x",x),(So "lo",l),(So "hi",h),(So "key",.none)]:=cB X λS=>ak
theorem TL{P s}(X:(KS P).In s.heap)(a x k:aq):bW s zu ⟨[a,x],[(So "key",k)]⟩ [(So "a",a),(So "x",x),(So "lo",.int 0 209),(So "hi",.none),(So "key",k)]:=cB X λS=>ak
theorem Df{P s}(X:(KS P).In s.heap)(a x l h k:aq):bW s zu ⟨[a,x,l,h],[(So "key",k)]⟩ [(So "a",a),(So "x",x),(So "lo",l),(So "hi",h),(So "key",k)]:=cB X λS=>ak
noncomputable abbrev Ke(n:Nat):Env:=entryE zu [] n 39
theorem ET(n:Nat):BE (Ke n):=⟨ak,ak,ak,ak,ak,ak,ak,U,U⟩
noncomputable abbrev BD:cO:=fdOf 4 (Sx [105,110,115,111,114,116,95,108,101,102,116]) (R 40) (R 41) (.str (Sx [99,112,121,51,49,51,46,98,105,115,101,99,116]) 194) (R 47)
theorem zA(P:ag):(Hk P).data=.func BD:=by kernel_rfl
theorem zQ(P:ag)(f:Nat->Obj)(kt tk:Nat):(fq P f kt tk).get? 48=aa (Hk P):=by kernel_rfl
theorem xA(P:ag)(f:Nat->Obj)(kt tk:Nat):(fq P f kt tk).CodeRec (R 47) (Sx [105,110,115,111,114,116,95,108,101,102,116]):=dB (o:=Ly P) ak U U
theorem QV:jf BD (fB (st 4)) []:=⟨U,U,λL=>ak,U,U,ak,ak,ak⟩
theorem acq{P s}(X:(KS P).In s.heap)(a x:aq):bW s BD ⟨[a,x],[]⟩ [(So "a",a),(So "x",x),(So "lo",.int 0 223),(So "hi",.none),(So "key",.none)]:=cB X λS=>ak
theorem TK{P s}(X:(KS P).In s.heap)(a x k:aq):bW s BD ⟨[a,x],[(So "key",k)]⟩ [(So "a",a),(So "x",x),(So "lo",.int 0 223),(So "hi",.none),(So "key",k)]:=cB X λS=>ak
noncomputable abbrev zt:cO:=fdOf 5 (Sx [98,105,115,101,99,116,95,108,101,102,116]) (R 49) (R 50) (.str (Sx [99,112,121,51,49,51,46,98,105,115,101,99,116]) 194) (R 56)
theorem qA(P:ag):(Hj P).data=.func zt:=by kernel_rfl
theorem qE(P:ag)(f:Nat->Obj)(kt tk:Nat):(fq P f kt tk).get? 57=aa (Hj P):=by kernel_rfl
theorem ri(P:ag)(f:Nat->Obj)(kt tk:Nat):(fq P f kt tk).CodeRec (R 56) (Sx [98,105,115,101,99,116,95,108,101,102,116]):=dB (o:=Lv P) ak U U
theorem Lq:jf zt (fB (st 5)) []:=⟨U,U,λL=>ak,U,U,ak,ak,ak⟩
theorem acp{P s}(X:(KS P).In s.heap)(a x:aq):bW s zt ⟨[a,x],[]⟩ [(So "a",a),(So "x",x),(So "lo",.int 0 236),(So "hi",.none),(So "key",.none)]:=cB X λS=>ak
theorem TJ{P s}(X:(KS P).In s.heap)(a x l h:aq):bW s zt ⟨[a,x,l,h],[]⟩ [(So "a",a),(So "x",x),(So "lo",l),(So "hi",h),(So "key",.none)]:=cB X λS=>ak
theorem TH{P s}(X:(KS P).In s.heap)(a x k:aq):bW s zt ⟨[a,x],[(So "key",k)]⟩ [(So "a",a),(So "x",x),(So "lo",.int 0 236),(So "hi",.none),(So "key",k)]:=cB X λS=>ak
theorem Dd{P s}(X:(KS P).In s.heap)(a x l h k:aq):bW s zt ⟨[a,x,l,h],[(So "key",k)]⟩ [(So "a",a),(So "x",x),(So "lo",l),(So "hi",h),(So "key",k)]:=cB X λS=>ak
noncomputable abbrev Kd(n:Nat):Env:=entryE zt [] n 57
theorem ES(n:Nat):BE (Kd n):=⟨ak,ak,ak,ak,ak,ak,ak,U,U⟩
variable{G:Gv}{xs:List Int}{x lo r:Int}{hi:Option Int}
unseal st in
theorem Vl(B:aO G 0)(dw:xs.length<2^60)(h0:0<=lo)(j6:lo<=hi.getD xs.length)(hn:hi.getD xs.length<=xs.length)(hr:jD (λk=>decide (x<xs.getD k.toNat 0)) (hi.getD xs.length-lo).toNat lo (hi.getD xs.length)=r):
  eY G 2 (Ke 1) (fB (st 3)) (Zp xs (bF (.ref 0) (.int x) (.int lo) (ng hi) .none)) (.ret (.int r)) (Zp xs (bF (.ref 0) (.int x) (.int r) (.int r) .none)):=by
 conv in fB (st 3)=>whnf
 exact(Nb.plain (ET 1) U U (gC B) dw).right (bb:=af) (aG _) h0 j6 hn (λzz=>nv) hr U U
unseal st in
theorem Vi(B:aO G 0)(dw:xs.length<2^60)(h0:0<=lo)(j6:lo<=hi.getD xs.length)(hn:hi.getD xs.length<=xs.length)(hr:jD (λk=>!decide (xs.getD k.toNat 0<x)) (hi.getD xs.length-lo).toNat lo (hi.getD xs.length)=r):
  eY G 2 (Kd 1) (fB (st 5)) (Zp xs (bF (.ref 0) (.int x) (.int lo) (ng hi) .none)) (.ret (.int r)) (Zp xs (bF (.ref 0) (.int x) (.int r) (.int r) .none)):=by
 conv in fB (st 5)=>whnf
 exact(Nb.plain (ES 1) U U (gC B) dw).left (bb:=af) (aG _) h0 j6 hn (λzz=>nv) hr U
end
section
variable{G:Gv}{xs:List Int}{x lo r:Int}{hi:Option Int}{g:k7}
theorem Gq(B:aO G 1)(dw:xs.length<2^60)(h0:0<=lo)(j6:lo<=hi.getD xs.length)(hn:hi.getD xs.length<=xs.length)(hr:jD (λk=>decide (x<xs.getD k.toNat 0)) (hi.getD xs.length-lo).toNat lo (hi.getD xs.length)=r):
  SK G (λvs ws=>call (.ref 39) vs ([].zip ws)) [.ref 0,.int x,.int lo,ng hi] [] (sP xs) (.int r) (Zp xs (bF (.ref 0) (.int x) (.int r) (.int r) (.none))):=
 SK.fj (names:=[]) (m:=2) (f:=.ret (.int r)) (rb:=[(So "key",.none),(So "hi",ng hi),(So "lo",.int lo),(So "x",.int x),(So "a",.ref 0)]) B.cQ (B.defAt qF qB) B.cP (B.d5 rj) Lr (YE λα s va vx vl vh g ra rx rl rh=>⟨_,TM (i5 B.KS g) va vx vl vh,U,.aZ fo (.aZ rh (.aZ rl (.aZ rx (.aZ ra cy))))⟩) ak U ak λenv=>Vl B.deep dw h0 j6 hn hr
theorem aaE(B:aO G 1)(dw:xs.length<2^60)(hr:jD (λk=>!decide (xs.getD k.toNat 0<x)) ((xs.length:Int)-0).toNat 0 xs.length=r):
  SK G (λvs ws=>call (.ref 57) vs ([].zip ws)) [.ref 0,.int x] [] (sP xs) (.int r) (Zp xs (bF (.ref 0) (.int x) (.int r) (.int r) (.none))):=
 SK.fj (names:=[]) (m:=2) (f:=.ret (.int r)) (rb:=[(So "key",.none),(So "hi",.none),(So "lo",.int 0),(So "x",.int x),(So "a",.ref 0)]) B.cQ (B.defAt qE qA) B.cP (B.d5 ri) Lq (Et λα s va vx g ra rx=>⟨_,acp (i5 B.KS g) va vx,U,.aZ fo (.aZ fo (.aZ ni (.aZ rx (.aZ ra cy))))⟩) ak U ak λenv=>Vi B.deep dw (hi:=bz) (b_ 0) (aI _) (b_ _) hr
theorem Gp(B:aO G 1)(dw:xs.length<2^60)(h0:0<=lo)(j6:lo<=hi.getD xs.length)(hn:hi.getD xs.length<=xs.length)(hr:jD (λk=>!decide (xs.getD k.toNat 0<x)) (hi.getD xs.length-lo).toNat lo (hi.getD xs.length)=r):
  SK G (λvs ws=>call (.ref 57) vs ([].zip ws)) [.ref 0,.int x,.int lo,ng hi] [] (sP xs) (.int r) (Zp xs (bF (.ref 0) (.int x) (.int r) (.int r) (.none))):=
 SK.fj (names:=[]) (m:=2) (f:=.ret (.int r)) (rb:=[(So "key",.none),(So "hi",ng hi),(So "lo",.int lo),(So "x",.int x),(So "a",.ref 0)]) B.cQ (B.defAt qE qA) B.cP (B.d5 ri) Lq (YE λα s va vx vl vh g ra rx rl rh=>⟨_,TJ (i5 B.KS g) va vx vl vh,U,.aZ fo (.aZ rh (.aZ rl (.aZ rx (.aZ ra cy))))⟩) ak U ak λenv=>Vi B.deep dw h0 j6 hn hr
end
section
variable{G:Gv}{xs:List Int}{x lo r:Int}{hi:Option Int}{g:k7}
noncomputable abbrev Tj(n:Nat):Env:=entryE BF [] n 30
theorem zL(n:Nat):BI (Tj n) (So "bisect_right"):=⟨ak,ak,ak,ak,ak,ak,U,U,U⟩
theorem zj{n}(B:aO G n):Glob G (So "bisect_right") (.ref 39):=B.glob λzz zz zz zz=>ak
unseal st in
theorem aal(B:aO G 1)(dw:xs.length<2^20)(h0:0<=lo)(j6:lo<=hi.getD xs.length)(hn:hi.getD xs.length<=xs.length)(hr:jD (λk=>decide (x<xs.getD k.toNat 0)) (hi.getD xs.length-lo).toNat lo (hi.getD xs.length)=r):
  eY G 2 (Tj 1) (fB (st 2)) (Zp xs (bF (.ref 0) (.int x) (.int lo) (ng hi) .none)) .next (Zp (insI xs r x) (bF (.ref 0) (.int x) (.int r) (ng hi) .none)):=by
 conv in fB (st 2)=>whnf
 have hb:=hr▸nG (λk=>decide (x<xs.getD k.toNat 0)) (hi.getD xs.length-lo).toNat lo (hi.getD xs.length) j6;exact vH (zL 1) U U (B.defAt qF qB) (zj B) (λh k=>Gq (B.ext k) (aM dw ay) h0 j6 hn hr)
  (.cons (.expr (.rW fY bE U (.loc U U) (gk U) (.cons (.loc U U) (.cons (.loc U U) .nil)) (mh U (bY h0 hb.1) (bY hb.2 hn) dw))) .nil U)
unseal st in
theorem aaH(B:aO G 2)(dw:xs.length<2^20)(hr:jD (λk=>decide (x<xs.getD k.toNat 0)) ((xs.length:Int)-0).toNat 0 xs.length=r):
  SK G (λvs ws=>call (.ref 30) vs ([].zip ws)) [.ref 0,.int x] [] (sP xs) .none (Zp (insI xs r x) (bF (.ref 0) (.int x) (.int r) (.none) (.none))):=
 SK.fj (names:=[]) (m:=2) (f:=.next) (rb:=[(So "key",.none),(So "hi",.none),(So "lo",.int 0),(So "x",.int x),(So "a",.ref 0)]) B.cQ (B.defAt zR zB) B.cP (B.d5 xB) QW (Et λα s va vx g ra rx=>⟨_,acs (i5 B.KS g) va vx,U,.aZ fo (.aZ fo (.aZ ni (.aZ rx (.aZ ra cy))))⟩) ak U ak λenv=>aal B.deep dw (hi:=bz) (b_ 0) (aI _) (b_ _) hr
noncomputable abbrev Ti(n:Nat):Env:=entryE BD [] n 48
theorem zK(n:Nat):BI (Ti n) (So "bisect_left"):=⟨ak,ak,ak,ak,ak,ak,U,U,U⟩
theorem zi{n}(B:aO G n):Glob G (So "bisect_left") (.ref 57):=B.glob λzz zz zz zz=>ak
unseal st in
theorem aak(B:aO G 1)(dw:xs.length<2^20)(h0:0<=lo)(j6:lo<=hi.getD xs.length)(hn:hi.getD xs.length<=xs.length)(hr:jD (λk=>!decide (xs.getD k.toNat 0<x)) (hi.getD xs.length-lo).toNat lo (hi.getD xs.length)=r):
  eY G 2 (Ti 1) (fB (st 4)) (Zp xs (bF (.ref 0) (.int x) (.int lo) (ng hi) .none)) .next (Zp (insI xs r x) (bF (.ref 0) (.int x) (.int r) (ng hi) .none)):=by
 conv in fB (st 4)=>whnf
 have hb:=hr▸nG (λk=>!decide (xs.getD k.toNat 0<x)) (hi.getD xs.length-lo).toNat lo (hi.getD xs.length) j6;exact vH (zK 1) U U (B.defAt qE qA) (zi B) (λh k=>Gp (B.ext k) (aM dw ay) h0 j6 hn hr)
  (.cons (.expr (.rW fY bE U (.loc U U) (gk U) (.cons (.loc U U) (.cons (.loc U U) .nil)) (mh U (bY h0 hb.1) (bY hb.2 hn) dw))) .nil U)
unseal st in
theorem aaF(B:aO G 2)(dw:xs.length<2^20)(hr:jD (λk=>!decide (xs.getD k.toNat 0<x)) ((xs.length:Int)-0).toNat 0 xs.length=r):
  SK G (λvs ws=>call (.ref 48) vs ([].zip ws)) [.ref 0,.int x] [] (sP xs) .none (Zp (insI xs r x) (bF (.ref 0) (.int x) (.int r) (.none) (.none))):=
 SK.fj (names:=[]) (m:=2) (f:=.next) (rb:=[(So "key",.none),(So "hi",.none),(So "lo",.int 0),(So "x",.int x),(So "a",.ref 0)]) B.cQ (B.defAt zQ zA) B.cP (B.d5 xA) QV (Et λα s va vx g ra rx=>⟨_,acq (i5 B.KS g) va vx,U,.aZ fo (.aZ fo (.aZ ni (.aZ rx (.aZ ra cy))))⟩) ak U ak λenv=>aak B.deep dw (hi:=bz) (b_ 0) (aI _) (b_ _) hr
end
section
theorem ZN(P:ag)(f:Nat->Obj)(kt tk:Nat):(fq P f kt tk).get? 149=aa (yL P):=by kernel_rfl
theorem OD(P:ag)(f:Nat->Obj)(kt tk:Nat):(fq P f kt tk).get? 159=aa (CC P):=by kernel_rfl
theorem OC(P:ag)(f:Nat->Obj)(kt tk:Nat):(fq P f kt tk).get? 205=aa (NQ P kt tk):=by kernel_rfl
noncomputable abbrev nB1:Str:=Sx [105,110,95,116,97,98,108,101,95,98,49]
noncomputable abbrev nB3:Str:=Sx [109,97,112,95,116,97,98,108,101,95,98,51]
noncomputable abbrev NV:Str:=Sx [99,112,121,51,49,51,46,115,116,114,105,110,103,112,114,101,112]
theorem MM(P:ag)(f:Nat->Obj)(kt tk:Nat):(fq P f kt tk).CodeRec (R 158) nB1:=dB (o:=CD P) ak U U
theorem ML(P:ag)(f:Nat->Obj)(kt tk:Nat):(fq P f kt tk).CodeRec (R 204) nB3:=dB (o:=NR P kt tk) ak U U
noncomputable abbrev Jl:cO:=fdOf 11 nB1 N N (.str NV 349) (R 158)
noncomputable abbrev Jk:cO:=fdOf 13 nB3 N N (.str NV 349) (R 204)
noncomputable abbrev eB1:Env:=entryE Jl [] 0 159
noncomputable abbrev eB3:Env:=entryE Jk [] 0 205
noncomputable def b1L:List Int:=[65024,65025,65026,65027,65028,65029,6150,65030,65031,65032,65033,6155,6156,6157,8203,8204,8205,65034,65035,65036,65037,65038,65039,173,847,8288,65279]
noncomputable def sG(k:Int):Bool:=b1L.any (·==k)
theorem Qi{P:ag}:∃es ep t,(yL P).data=.set es ep t/\(es.toList.all λe=>match e.2 with | .int k _=>e.1==hashInt k|_=>false)=af/\(∀k,es.toList.any (λe=>fb k e.2)=sG k)/\(es.toList.all λe=>e.2.scannable)=af/\es.size<scanBound/\t.fits es.size=af:=
 ⟨_,_,_,U,ak,λk=>by rfl,ak,by decide,ak⟩
theorem isInt_self(c:Int)(t:Tok):fb c (.int c t)=af:=beq_self_eq_true c
theorem Qj{G:Gv}{n:Nat}(B:aO G n){h:Heap}(hk:∀b o,G.h₀.get? b=aa o->h.get? b=aa o):∃m,h.SetOf (PySem.intKind G.prog G.w) 149 sG m:=by
 refine UQ (Qi (P:=G.w.params)) λes ep t e1 e2 e3 e4 e5 e6=>?_;refine xi5 es.size _ es ep t ⟨hk _ _ (B.at ZN),⟨U,U,U⟩,e1,λe he=>?_,λk=>?_,e5,e6,U⟩
 ·have h1:=List.all_eq_true.mp e2 e he
  have h2:=List.all_eq_true.mp e4 e he;refine⟨?_,h2⟩;obtain⟨a,v⟩:=e;cases v<;>first|(simp at h1;done)|skip
  rename_i k t
  exact⟨k,isInt_self k t,eq_of_beq h1⟩
 ·rw[←e3 k,List.any_eq_true];rfl
variable{G:Gv}{σ:St}{n c:Nat}{y:Str}
theorem G9{c: Int}(B:aO G n):bN G (bS .In) (.int c) (.val (.ref 149)) σ (.bool (sG c)) σ:=by
 rintro α s v w E g ⟨t,rfl⟩ rfl;obtain⟨m,hS⟩:=Qj B λb o e=>(g.base b o e).2;exact wpAny_inSet_of (knd:=PySem.intKind G.prog G.w) (k:=c) (isInt_self c t) U hS (g.fh U)
theorem zg{a: CV}{P:AM->aA->List aq->List aq->Prop}(h:∀α s v,GS G α σ s->VR α s.heap a v->P α s [v] []):∀α s vs ws,GS G α σ s->di α s.heap [a] vs->di α s.heap [] ws->P α s vs ws:=by
 rintro α s _ _ g ⟨va,_,rfl,ra,rfl⟩ rfl;exact h α s va g ra
theorem SK.free{f:List aq->List aq->Sem aq}{cs0: List CV}{c0: CV}{τ1: St}(spec:∀h₀,(∀b o,G.h₀.get? b=aa o->h₀.get? b=aa o)->SK (ext G h₀) f cs0 [] ⟨[],0⟩ c0 τ1)(r6:∀r,cK r cs0=cs0)(Mq:∀r,ny r c0=c0):SK G f cs0 [] σ c0 σ:=
 SK.m7 (τ0:=⟨[],0⟩) (l:=[]) (ks0:=[]) U U U aE U (λzz zz h zz=>h) aE spec (r6 _).symm U (Mq _).symm
theorem xF(B:aO G n):Glob G (So "ord") (.builtin "ord"):=B.blt (λzz zz zz zz=>ak) (λzz zz zz zz=>ak)
theorem abi:jf Jl (fB (st 11)) []:=⟨U,U,λL=>ak,U,U,ak,ak,ak⟩
theorem abh:jf Jk (fB (st 13)) []:=⟨U,U,λL=>ak,U,U,ak,ak,ak⟩
theorem aco{s}(a:aq):bW s Jl ⟨[a],[]⟩ [(So "code",a)]:=cB (K:=[]) (λzz zz h=>nomatch h) λS=>ak
theorem acn{s}(a:aq):bW s Jk ⟨[a],[]⟩ [(So "code",a)]:=cB (K:=[]) (λzz zz h=>nomatch h) λS=>ak
unseal st in
theorem wB1(B:aO G 0):eY G 1 eB1 (fB (st 11)) ⟨[(0,.frame [(So "code",.str (tx [c]))])],1⟩ (.ret (.bool (sG c))) ⟨[(0,.frame [(So "code",.str (tx [c]))])],1⟩:=by
 conv in fB (st 11)=>whnf
 exact .stop (.ret (.cmp (.mn (.glob (xF B)) (.cons (.loc U U) .nil) (QP U)) (.glob (v:=.ref 149) (B.glob λzz zz zz zz=>ak)) (G9 B))) U
theorem VO(B:aO G 1):SK G (λvs ws=>call (.ref 159) vs ([].zip ws)) [.str (tx [c])] [] σ (.bool (sG c)) σ:=
 SK.free (λh k=>SK.fj (names:=[]) (m:=1) (f:=.ret (.bool (sG c))) (rb:=[(So "code",.str (tx [c]))]) (B.ext k).cQ ((B.ext k).defAt OD (fd:=Jl) λzz=>ak) (B.ext k).cP ((B.ext k).d5 MM) abi (zg λα s v g r=>⟨_,aco v,U,.aZ r cy⟩) ak U ak λenv=>wB1 (B.ext k).deep) (λzz=>U) λzz=>U
theorem EA.find{es: List bI}{qs: List (Int×Str)}(k:Int)(H:EA es qs):match qs.lookup k with
  |some s=>∃u,(es.find? λe=>fb k e.key).map (·.val)=aa (.str s u)
  |none=>(es.find? λe=>fb k e.key)=none:=by
 induction H with
 |nil=>rfl
 |cons a b ih =>
  rename_i e es q qs
  obtain⟨t,u,rfl⟩:=a;obtain⟨j,x⟩:=q;by_cases h:k=j
  ·subst h
   simp only[a7,beq_self_eq_true];exact⟨u,by rw[List.find?_cons,show fb k (Value.int k t)=af from isInt_self k t];rfl⟩
  ·have hb:(k==j)=false:=beq_eq_false_iff_ne.mpr h
   have hi:fb k (.int j t)=false:=by
    first|exact beq_eq_false_iff_ne.mpr h|exact beq_eq_false_iff_ne.mpr λe=>h e.symm
   simp only[a7,hb];rw[List.find?_cons_of_neg (by simp[hi])];exact ih
theorem aO.dict(B:aO G n):∃f:Int->Option aq,(∀h:Heap,(∀b o,G.h₀.get? b=aa o->h.get? b=aa o)->h.MapOf (PySem.intKind G.prog G.w) 160 f)/\∀k,match m9.lookup k with
  |some s=>∃u,f k=aa (.str s u)
  |none=>f k=none:=by
 obtain⟨f,kt,tk,es,ep,Mp,hf0,e⟩:=B.heap;have h1:(fq G.w.params f kt tk).objs[160]?=aa (f 0):=by kernel_rfl
 have h2:G.h₀.get? 160=aa (dO es ep):=e _ _ (by rfl) ((Heap.get?_eq_some _ _ _).mpr ⟨by rw[h1,hf0],U⟩);refine⟨λk=>findBy fb es k,λh hk=>⟨_,es,ep,hk _ _ h2,⟨U,U,U⟩,U,λx hx=>?_,λk=>U⟩,λk=>?_⟩
 ·refine dH λM' up1=>?_
  obtain⟨q,_,t,u,rfl⟩:=Mp.mem (Array.mem_toList_iff.mpr hx);refine up1 ?_;exact⟨q.1,isInt_self q.1 t,U⟩
 ·have:=EA.find k Mp
  have he:es.find? (λe=>fb k e.key)=es.toList.find? (λe=>fb k e.key):=by
   obtain⟨l⟩:=es;simp
  show match m9.lookup k with|some s=>∃u,(es.find? λe=>fb k e.key).map (·.val)=aa (.str s u)|none=>(es.find? λe=>fb k e.key).map (·.val)=none
  rw[he];cases q:m9.lookup k with
  |some s=>rw[q]at this;exact this
  |none=>rw[q]at this;simp only at this ⊢;rw[this];rfl
noncomputable def Oz(c:Int):CV:=match m9.lookup c with|some s=>.str s|none=>.none
theorem Jv{c: Int}(B:aO G n):bM G (λvs=>call (.builtin "dict.get") vs) [.val (.ref 160),.int c] σ (Oz c) σ:=by
 rintro α s _ E g ⟨_,_,rfl,rfl,_,_,rfl,⟨t,rfl⟩,rfl⟩;refine aR (B.dict) λf hm hf=>?_;have hm:=hm s.heap λb o e=>(g.base b o e).2;refine call_meetsIn PySem.F.slot_dict_get hm.typeIs PySem.F.entry_dict_get (PySem.F.args_dict_get_2 _ _) (meets_dict_get (PySem.intKind G.prog G.w) 160 (k:=c) (isInt_self c t) ay) ⟨_,hm,?_⟩;have hfc:=hf c;unfold Oz;cases q:m9.lookup c with
 |some x =>
  rw[q]at hfc;obtain⟨u,hu⟩:=hfc;rw[hu];exact GS.fh (R:=VR) (d:=CV.str x) g ⟨u,U⟩
 |none =>
  rw[q]at hfc;rw[hfc];exact GS.fh (R:=VR) (d:=CV.none) g U
theorem uW{x: Str}(kL:eG (Txt.lower x).length=false):bM G (λvs=>call (.builtin "str.lower") vs) [.str x] σ (.str (Txt.lower x)) σ:=
 Wt λα s t E g=>SC.lower kL (g.fh ⟨_,U⟩)
def uu(c:Nat)(y:Str):Prop:=m9.lookup (c:Int)=aa y∨(m9.lookup (c:Int)=none/\Txt.lower (tx [c])=y/\eG y.length=false)
unseal st in
theorem wB3(B:aO G 0)(hy:uu c y):eY G 1 eB3 (fB (st 13)) ⟨[(0,.frame [(So "code",.str (tx [c]))])],1⟩ (.ret (.str y)) ⟨[(0,.frame [(So "code",.str (tx [c])),(So "r",Oz c)])],1⟩:=by
 conv in fB (st 13)=>whnf
 refine .cons (.assign (.rW (Tn:="dict") PySem.F.slot_dict_get PySem.F.plainAttrs_dict PySem.F.type_dict_get (.glob (v:=.ref 160) (B.glob λzz zz zz zz=>ak)) (λα s v g r=>?_)
  (.cons (.mn (.glob (xF B)) (.cons (.loc U U) .nil) (QP U)) .nil) (Jv B)) (.loc U)) ?_ U
 ·cases r
  refine aR (B.dict) λf hm hf=>?_;have hm:=hm s.heap λb o e=>(g.base b o e).2;exact⟨hm.typeIs,hm.noDict⟩
 show eY G 1 eB3 _ ⟨[(0,.frame [(So "code",.str (tx [c])),(So "r",Oz c)])],1⟩ _ _;rcases hy with hy|⟨hy,hlo,kL⟩
 ·have e:Oz c=.str y:=by unfold Oz;rw[hy]
  rw[e];exact .stop (.js (b:=af) (.cmp (.loc U U) .none (uz U)) (.stop (.ret (.loc U U)) U)) U
 ·have e:Oz c=.none:=by unfold Oz;rw[hy]
  rw[e];exact .cons (.js (b:=false) (.cmp (.loc U U) .none uA) .nil) (.stop (.ret (.rW PySem.F.slot_str_lower cA U (.loc U U) l_ .nil (hlo▸uW (hlo.symm▸kL)))) U) U
theorem VN(B:aO G 1)(hy:uu c y):SK G (λvs ws=>call (.ref 205) vs ([].zip ws)) [.str (tx [c])] [] σ (.str y) σ:=
 SK.free (λh k=>by
  obtain⟨f,kt,tk,es,ep,_,_,c'⟩:=(B.ext k).heap;exact SK.fj (names:=[]) (m:=1) (f:=.ret (.str y)) (rb:=[(So "code",.str (tx [c]))]) (B.ext k).cQ (fd:=Jk) ⟨_,c' _ _ (by rfl) (OC _ _ _ _),ak⟩ (B.ext k).cP ((B.ext k).d5 ML) abh (zg λα s v g r=>⟨_,acn v,U,.aZ r cy⟩) ak U ak λenv=>wB3 (B.ext k).deep hy) (λzz=>U) λzz=>U
end
section
set_option maxHeartbeats 4000000
theorem at4(P:ag)(f:Nat->Obj)(kt tk:Nat):(fq P f kt tk).get? 4=aa (boot_o_4 P):=by kernel_rfl
theorem ZA(P:ag)(f:Nat->Obj)(kt tk:Nat):(fq P f kt tk).nsMap 3 (So "__builtins__")=aa (.ref 4):=by kernel_rfl
noncomputable abbrev cC:Nat:=137
noncomputable abbrev CY:Nat:=74
noncomputable abbrev zv:Nat:=81
noncomputable abbrev xp:Nat:=97
noncomputable abbrev EG:Nat:=104
noncomputable abbrev ua:Nat:=134
noncomputable def lq(P:ag):Frag:=[(2,boot_o_2 P),(61,Hi P),(73,Hg P),(74,Hf P),(80,He P),(81,Hc P),(96,Hb P),(97,Ha P),(103,vw P),(104,yQ P),(133,yO P),(134,yN P),(136,CE P),(137,yM P)]
theorem Nd(P:ag)(f:Nat->Obj)(kt tk:Nat):(lq P).In (fq P f kt tk):=Frag.in_of (as:=[2,61,73,74,80,81,96,97,103,104,133,134,136,137]) U ak
theorem aO.K{G n}(B:aO G n):(lq G.w.params).In G.h₀:=B.S6 [2,61,73,74,80,81,96,97,103,104,133,134,136,137] Nd (λP=>U) ak
theorem uL(P:ag):Kl (lq P) cC:=⟨ak,ak,ak⟩
theorem Ss(P:ag):d8 (lq P) (.ref cC) (aF "push")=aa (aa (.ref zv))/\jm (lq P) (.ref zv)=aa (.type "function"):=⟨ak,ak⟩
theorem NZ(P:ag):d8 (lq P) (.ref cC) (aF "pop")=aa (aa (.ref xp))/\jm (lq P) (.ref xp)=aa (.type "function"):=⟨ak,ak⟩
theorem sr(P:ag):d8 (lq P) (.ref cC) (aF "part_count")=aa (aa (.ref ua))/\jm (lq P) (.ref ua)=aa (.type "function"):=⟨ak,ak⟩
theorem N0(P:ag):d8 (lq P) (.ref cC) (aF "__len__")=aa (aa (.ref EG))/\jm (lq P) (.ref EG)=aa (.type "function"):=⟨ak,ak⟩
theorem IL(P:ag):d8 (lq P) (.ref cC) (aF "__init__")=aa (aa (.ref CY))/\jm (lq P) (.ref CY)=aa (.type "function"):=⟨ak,ak⟩
theorem y6(P:ag):d8 (lq P) (.ref cC) (aF "append")=aa (aa (.builtin "list.append"))/\jm (lq P) (.builtin "list.append")=aa (.type "method_descriptor"):=⟨ak,ak⟩
theorem Sv(P:ag):d8 (lq P) (.ref cC) (aF "__iter__")=aa (aa (.builtin "list.__iter__")):=by kernel_rfl
theorem Mb(P:ag):qn (lq P) cC=af:=by kernel_rfl
theorem XD(P:ag):mroIn (lq P) cC (.type "module")=aa false:=by kernel_rfl
theorem XC(P:ag):jm (lq P) (.ref cC)=aa (.type "type"):=by kernel_rfl
theorem Eh(P:ag):alongIn (lq P) (aF "__len__") [.type "list",.type "object"]=aa (aa (.builtin "list.__len__")):=by kernel_rfl
theorem Eg(P:ag):alongIn (lq P) (aF "pop") [.type "list",.type "object"]=aa (aa (.builtin "list.pop")):=by kernel_rfl
theorem Bp(P:ag):alongIn (lq P) (aF "__init__") [.type "list",.type "object"]=aa (aa (.builtin "list.__init__")):=by kernel_rfl
theorem Ei(P:ag):d8 (lq P) (.ref cC) (aF "__setattr__")=aa (aa (.builtin "object.__setattr__")):=by kernel_rfl
theorem Ma(P:ag):takerIn (lq P) cC (aF "_initial_size")=aa none:=by kernel_rfl
noncomputable abbrev eH:Str:=Sx [99,112,121,51,49,51,46,101,109,97,105,108,46,104,101,97,100,101,114]
noncomputable abbrev Uw(k:Nat)(name qual:Str)(clo:List (Str×Addr))(d c ct:aq):cO:=
 {name:=name,qualname:=qual,params:=fA (cst k),body:=.stmts (fB (cst k)),scope:=fS (cst k),globals:=3,closure:=clo,defaults:=d,kwdefaults:=N,doc:=N,pyModule:=.str eH 250,annotations:=none,code:=c,closureTuple:=ct,builtins:=0}
noncomputable abbrev Tw:Str:=Sx [95,95,99,108,97,115,115,95,95]
noncomputable abbrev Sg:Str:=Sx [112,97,114,116,95,99,111,117,110,116]
noncomputable abbrev QD:Str:=Sx [95,65,99,99,117,109,117,108,97,116,111,114,46,112,97,114,116,95,99,111,117,110,116]
noncomputable abbrev oW:cO:=Uw 8 Sg QD [(Tw,61)] N (R 133) (R 127)
noncomputable abbrev abm:Str:=Sx [112,111,112]
noncomputable abbrev aaY:Str:=Sx [95,65,99,99,117,109,117,108,97,116,111,114,46,112,111,112]
noncomputable abbrev vM:cO:=Uw 3 abm aaY [(Tw,61)] N (R 96) (R 90)
noncomputable abbrev Xn:Str:=Sx [95,95,105,110,105,116,95,95]
noncomputable abbrev V_:Str:=Sx [95,65,99,99,117,109,117,108,97,116,111,114,46,95,95,105,110,105,116,95,95]
noncomputable abbrev t_:cO:=Uw 0 Xn V_ [(Tw,61)] (R 66) (R 73) (R 67)
noncomputable abbrev Xm:Str:=Sx [112,117,115,104]
noncomputable abbrev V8:Str:=Sx [95,65,99,99,117,109,117,108,97,116,111,114,46,112,117,115,104]
noncomputable abbrev xo:cO:=Uw 1 Xm V8 [] N (R 80) N
noncomputable abbrev abn:Str:=Sx [95,95,108,101,110,95,95]
noncomputable abbrev V9:Str:=Sx [95,65,99,99,117,109,117,108,97,116,111,114,46,95,95,108,101,110,95,95]
noncomputable abbrev CX:cO:=Uw 4 abn V9 [] N (R 103) N
theorem aO.k5{G n a}{o:Obj}(B:aO G n)(h:(lq G.w.params).lookup a=aa o):G.h₀.get? a=aa o:=B.K _ _ h
theorem tN(P:ag):(lq P).lookup 134=aa (yN P)/\(lq P).lookup 133=aa (yO P)/\(lq P).lookup 97=aa (Ha P)/\(lq P).lookup 96=aa (Hb P)/\(lq P).lookup 74=aa (Hf P)/\(lq P).lookup 73=aa (Hg P) /\
  (lq P).lookup 81=aa (Hc P)/\(lq P).lookup 80=aa (He P)/\(lq P).lookup 104=aa (yQ P)/\(lq P).lookup 103=aa (vw P)/\(lq P).lookup 61=aa (Hi P)/\(lq P).lookup 137=aa (yM P):=⟨U,U,U,U,U,U,U,U,U,U,U,U⟩
theorem Ld:∀f:Str,f=Sx [47,99,108,97,105,109,47,99,117,116,46,112,121]->((pw.main.file:Str)==f)=af:=by
 rintro f rfl;kernel_rfl
theorem QE:(pw.main.scope.names.lookup ("super":Str)).isSome=false:=by kernel_rfl
theorem vS{id:String}{x:Nat}{M:gw}{h:Heap}(hk:lZ id=aa .slot)(ha:(match eM id with|some Ac=>j1 id Ac ⟨[.ref x],[]⟩|none=>bO ())=bO ()):eF M h (fX id ⟨[.ref x],[]⟩) ():=by
 refine Looks.of_pure ?_;unfold fX;cases hs:eM id with
 |none=>rfl
 |some Ac=>rw[hs]at ha;rw[hk];exact ha
theorem FX:typeOf (.builtin "list.__len__")=pure (.type "wrapper_descriptor"):=by show builtinType _=_;rw[builtinType_eq_fast];kernel_rfl
theorem B_:typeOf (.builtin "list.__init__")=pure (.type "wrapper_descriptor"):=by show builtinType _=_;rw[builtinType_eq_fast];kernel_rfl
theorem FW:typeOf (.builtin "list.pop")=pure (.type "method_descriptor"):=by show builtinType _=_;rw[builtinType_eq_fast];kernel_rfl
theorem MQ(x:Nat)(M:gw)(h:Heap):eF M h (fX "list.__len__" ⟨[.ref x],[]⟩) ():=vS (by decide +kernel) ak
theorem JF(x:Nat)(M:gw)(h:Heap):eF M h (fX "list.__init__" ⟨[.ref x],[]⟩) ():=vS (by decide +kernel) ak
end
section
variable{G:Gv}{σ:St}
theorem gG{o: AO}:(σ.push o).get σ.n=aa o:=by
 show dh ((σ.n,o)::σ.objs) σ.n=_;rw[dh,cD]
theorem abW{a b c: CV}{P:AM->aA->List aq->List aq->Prop}(h:∀α s v w x,GS G α σ s->VR α s.heap a v->VR α s.heap b w->VR α s.heap c x->P α s [v,w,x] []):∀α s vs ws,GS G α σ s->di α s.heap [a,b,c] vs->di α s.heap [] ws->P α s vs ws:=by
 intro α s _ _ g qu qt;refine dH λlg eS=>?_;obtain⟨va,_,rfl,ra,vx,_,rfl,rx,vl,_,rfl,rl,rfl⟩:=qu;obtain rfl:=qt;refine eS ?_;exact h α s va vx vl g ra rx rl
end
section
set_option maxHeartbeats 4000000
variable{G:Gv}{n x d:Nat}{xs:List CV}{k:Int}{σ:St}{env:Env}{C:Nat}{K:Frag}
theorem F_{f c: Nat}{fd: cO}{of oc: Obj}(B:aO G n)(ks:env.kindOf "super"=aa .globalImplicit)(kc:env.kindOf "__class__"=aa .free)(kd:env.scope.kind=.function)
  (hg:env.globals=3) (hb:env.builtins=0) (hfu:env.func=aa f) (hf:G.h₀.get? f=aa of) (hfd:of.data=.func fd) (hp:∃ar,(fd.params.posonlyargs++fd.params.args).head?=aa ar/\ar.arg=aF "self")
  (ze:env.code=.ref c) (hc:G.h₀.get? c=aa oc) (hv:∃vs tf,oc.data=.fields vs/\vs[2]?=aa (.str (Sx [47,99,108,97,105,109,47,99,117,116,46,112,121]) tf)) (I8:env.cells.lookup (aF "__class__")=aa 61):mu G (lq G.w.params) cC env where
 ks:=ks
 kc:=kc
 kd:=kd
 gl:=hg
 bu:=hb
 sup:=B.blt (λzz zz zz zz=>ak) (λzz zz zz zz=>ak)
 fn:=let⟨ar,e1,e2⟩:=hp;⟨f,of,fd,ar,hfu,hf,hfd,e1,e2⟩
 code:=let⟨vs,tf,e1,e2⟩:=hv;⟨c,oc,vs,_,tf,ze,hc,e1,e2,by rw[B.pg];exact Ld _ U⟩
 top:=by rw[B.pg];exact QE
 cell:=⟨61,I8,_,B.k5 (tN _).2.2.2.2.2.2.2.2.2.2.1,U⟩
 cls:=⟨_,U,ak,ak⟩
 opq:=by kernel_rfl
theorem MY{s}(a:aq):bW s oW ⟨[a],[]⟩ [(So "self",a)]:=cB (K:=[]) (λzz zz h=>nomatch h) λS=>ak
theorem ZE{s}(a:aq):bW s vM ⟨[a],[]⟩ [(So "self",a)]:=cB (K:=[]) (λzz zz h=>nomatch h) λS=>ak
theorem ZF{s}(a:aq):bW s CX ⟨[a],[]⟩ [(So "self",a)]:=cB (K:=[]) (λzz zz h=>nomatch h) λS=>ak
theorem TC{s}(a b c:aq):bW s xo ⟨[a,b,c],[]⟩ [(So "self",a),(So "fws",b),(So "string",c)]:=cB (K:=[]) (λzz zz h=>nomatch h) λS=>ak
theorem lb1{a: CV}{P:AM->aA->List aq->Prop}(h:∀α s v,GS G α σ s->VR α s.heap a v->P α s [v]):∀α s vs,GS G α σ s->di α s.heap [a] vs->P α s vs:=by
 rintro α s _ g ⟨v,_,rfl,r,rfl⟩;exact h α s v g r
noncomputable abbrev K7(σ:St)(x:Nat):St:=σ.push (.frame [(So "self",.ref x)])
unseal st cst in
theorem PF{m: Nat}(B:aO G 1){e: Env}(he:e=entryE oW [] σ.n ua)(hx:(K7 σ x).get x=aa (.bT cC d xs))(hd:(K7 σ x).get d=aa (.size k)){P:Env->Prop}(hP:∀env,P env->mu G (lq G.w.params) cC env){body: List Stmt}:
  uR G m e P body (fB (cst 8)) (K7 σ x) (.ret (.int xs.length)) (K7 σ x):=by
 subst he
 conv in fB (cst 8)=>whnf
 exact .ret (.super (uL _) B.K hP ak gG U hx hd ay (Eh _) (Tn:="wrapper_descriptor") (λs=>FX) sd.lookup (.inr U)
  (λa s A Q E hi q=>dT sd FX yb (GC Ll hi ⟨_,U,q⟩) (B7 _ _ _)) (by decide +kernel) PySem.F.entry_list_len (λh a ox od X I=>MQ _ _ _) (K_ hx hd))
theorem mu.dp(e0:Env)(S:mu G K C env):mu (Mine.Internal.deep G e0) K C env:=S.deep
unseal st cst in
theorem JC(B:aO G 2)(hx:(K7 σ x).get x=aa (.bT cC d xs))(hd:(K7 σ x).get d=aa (.size k)):bM G (λvs=>call (.ref ua) vs) [.ref x] σ (.int xs.length) (K7 σ x):=by
 have kg:=tN G.w.params;have YM:=B.k5 kg.1;have YN:=B.k5 kg.2.1;exact SL.Jq (fd:=oW) (body:=fB (cst 8)) (rb:=[(So "self",.ref x)]) (f:=.ret (.int xs.length)) (m:=σ.n) (P:=mu G (lq G.w.params) cC) B.cQ ⟨_,YM,ak⟩ B.cP (dB YN U U) U (lb1 λα s v g r=>⟨_,MY v,U,.aZ r cy⟩) ak ak
  (λL=>F_ (f:=ua) (c:=133) B ak ak ak U U U YM (fd:=oW) ak ⟨_,U,U⟩ U YN ⟨_,_,U,U⟩ ak) (aW _)
  (λenv=>PF B.deep U hx hd (λzz S=>S.dp env)) ak ak ak
theorem SK.ofL{g:List aq->Sem aq}{cs: List CV}{c: CV}{σ1: St}(h:bM G g cs σ c σ1):SK G (λvs zz=>g vs) cs [] σ c σ1:=by
 rintro α s vs _ E g0 r rfl;exact h α s vs E g0 r
noncomputable def yz:Nat->Nat->Str:=λzz zz=>V9++aF ".<locals>."++aF "<genexpr>"
noncomputable abbrev mA:Nat:=99
noncomputable abbrev pS(k:Int)(xs:List (Str×Str)):St:=sC cC mA yz k xs
noncomputable abbrev pS3(k:Int)(xs:List (Str×Str))(fr:List (Str×CV)):St:=⟨(3,.frame fr)::(pS k xs).objs,4⟩
variable{ps:List (Str×Str)}{a b:Str}
theorem DW{i: Int}(kl:Kl K C)(X:K.In G.h₀)(e:σ.get x=aa (.bT C d (ps.map dZ)))(ed:σ.get d=aa (.size i))(hf:ps.length<2^20):bM G (λvs=>call (.builtin "list.append") vs) [.ref x,.tup [.str a,.str b]] σ .none (σ.set x (.bT C d ((ps++[(a,b)]).map dZ))):=by
 have:=yB (c:=.tup [.str a,.str b]) kl X e ed (by rw[aG];exact hf);rw[bG];exact this
theorem GZ(x:Nat):∀Ac,eM "list.pop"=aa Ac->j1 "list.pop" {Ac with full:=s!"{(Sx [95, 65, 99, 99, 117, 109, 117, 108, 97, 116, 111, 114] : Str).toString}.{Bind.lastOf "list.pop"}"} ⟨[.ref x],[]⟩=bO ():=by
 intro Ac hs;have h:(match eM "list.pop" with|some Ac=>j1 "list.pop" {Ac with full:=s!"{(Sx [95, 65, 99, 99, 117, 109, 117, 108, 97, 116, 111, 114] : Str).toString}.{Bind.lastOf "list.pop"}"} ⟨[.ref x],[]⟩|none=>bO ())=bO ():=by kernel_rfl
 rw[hs]at h;exact h
noncomputable abbrev pS4(k:Int)(xs:List (Str×Str)):St:=⟨(4,.frame [(So "self",.ref 0)])::(3,.frame [(So "self",.ref 0)])::(pS k xs).objs,5⟩
end
section
set_option maxHeartbeats 4000000
variable{G:Gv}{x d m:Nat}{k:Int}{σ:St}{ps:List (Str×Str)}{p:Str×Str}
theorem GD{C: Nat}{i: Int}(e:σ.get x=aa (.bT C d ((ps++[p]).map dZ)))(ed:σ.get d=aa (.size i))(hf:ps.length<2^20):Run G x dg.«list.pop» σ (dZ p) (σ.set x (.bT C d (ps.map dZ))):=by
 rw[bG]at e;exact K9 e ed (by rw[aG];exact hf)
theorem Gs:((((ps++[p]).map dZ).length:Int)==0)=false:=by
 rw[aG,aB];exact beq_false_of_ne λh=>by simp at h;lia
unseal st cst in
theorem aai(B:aO G 2){P:Env->Prop}(hP:∀env,P env->mu G (lq G.w.params) cC env){body: List Stmt}(hf:ps.length<2^20):
  uR G 4 (entryE vM [] 3 xp) P body (fB (cst 3)) (K7 (pS k (ps++[p])) 0) (.ret (dZ p)) (pS4 k ps):=by
 conv in fB (cst 3)=>whnf
 have kg:=tN G.w.params;exact .cons (.js (b:=false) (.cmp (.wN (uL _) B.K (sr _).1 (sr _).2 (B.k5 kg.1) (fd:=oW) ak (.loc U U) U U (λtk t=>(shadow _ _ _ _).2.2.1) .nil (JC B U U)) .int (vm.to Gs)) .nil)
  (.ret (.super (uL _) B.K hP ak U U U U ay (Eg _) (Tn:="method_descriptor") (λs=>FW) CI.lookup (.inl U)
   (λa s A Q E hi q=>dT CI FW Iq (Qq (by decide +kernel) Lk hi ⟨_,U,q⟩) (LS _ _ _)) (by decide +kernel) PySem.F.entry_list_pop (λh a ox od X I=>MP X I (XD _) (cd:=_) U (XC _) (GZ _)) (GD U U hf))) U
unseal st cst in
theorem Ve(B:aO G 2){P:Env->Prop}{body: List Stmt}:
  uR G 4 (entryE vM [] 3 xp) P body (fB (cst 3)) (K7 (pS k []) 0) (.ret (dZ (So "",So ""))) (pS4 k []):=by
 conv in fB (cst 3)=>whnf
 have kg:=tN G.w.params;exact .js (b:=af) (.cmp (.wN (uL _) B.K (sr _).1 (sr _).2 (B.k5 kg.1) (fd:=oW) ak (.loc U U) U U (λtk t=>(shadow _ _ _ _).2.2.1) .nil (JC B U U)) .int vm)
  (.of (.stop (.ret (.tuple (.cons .str (.cons .str .nil)) U)) U)) U
unseal st cst in
theorem aa2{r: Str×Str}(B:aO G 3){q: List (Str×Str)}(hf:ps.length<2^20)(h:(ps=[]/\q=[]/\r=(So "",So ""))∨ps=q++[r]):SK G (λvs ws=>call (.ref xp) vs ([].zip ws)) [.ref 0] [] (pS k ps) (dZ r) (pS4 k q):=by
 have kg:=tN G.w.params;have h97:=B.k5 kg.2.2.1;have h96:=B.k5 kg.2.2.2.1;refine SK.ofL (SL.Jq (fd:=vM) (body:=fB (cst 3)) (rb:=[(So "self",.ref 0)]) (f:=.ret (dZ r)) (m:=4) (P:=mu G (lq G.w.params) cC) B.cQ ⟨_,h97,ak⟩ B.cP (dB h96 U U) U (lb1 λα s v g r=>⟨_,ZE v,U,.aZ r cy⟩) ak ak
  (λL=>F_ (f:=xp) (c:=96) B ak ak ak U U U h97 (fd:=vM) ak ⟨_,U,U⟩ U h96 ⟨_,_,U,U⟩ ak) (show 3<=4 by decide)
  (λenv=>?_) ak ak ak)
 rcases h with⟨rfl,rfl,rfl⟩|rfl
 ·exact Ve B.deep
 ·exact aai B.deep (λzz S=>S.dp env) (by rw[aB]at hf;exact aY (bg _ _) hf)
end
section
set_option maxHeartbeats 4000000
variable{G:Gv}{n x d m t:Nat}{k:Int}{σ:St}{ps:List (Str×Str)}
theorem Xv(P:ag)(f:Nat->Obj)(kt tk:Nat):(fq P f kt tk).nsMap 3 (So "len")=none/\(fq P f kt tk).nsMap 0 (So "len")=aa (.builtin "len"):=⟨ak,ak⟩
theorem aO.Xp(B:aO G n)(P:Nat)(hP:4≠P):∃mg mb,G.h₀.Ns dk mg/\G.h₀.BuiltinsAt mg P/\mg (So "len")=none/\G.h₀.Ns builtinsNs mb/\mb (So "len")=aa (.builtin "len"):=by
 obtain⟨f,kt,tk,es,ep,_,_,c⟩:=B.heap;exact⟨(fq G.w.params f kt tk).nsMap 3,(fq G.w.params f kt tk).nsMap 0,Ns.of (gJ (vE _ _ _ _)) λo=>c _ o (by rfl),⟨4,boot_o_4 G.w.params,ZA _ _ _ _,by decide,by decide,hP,c _ _ (by rfl) (at4 _ _ _ _),U,U,U⟩,(Xv _ _ _ _).1,
  Ns.of (gJ (N6 _ _ _ _)) λo=>c _ o (by rfl),(Xv _ _ _ _).2⟩
theorem aO.in1(B:aO G (n+1)):aO (om G) n:=⟨(B.le (m:=n) (Nat.ble_eq.mpr (cm n))).room,B.hh,B.pg,by have:=B.un;show G.A.units+1+10*n<9000;lia,B.heap⟩
theorem MR(B:aO G n):Glob G (So "sum") (.builtin "sum"):=B.blt (λzz zz zz zz=>ak) (λzz zz zz zz=>ak)
unseal st cst in
theorem aaj(B:aO G 1)(hk:(decide (-(2^63)<=k)&&decide (k<2^63))=af)(kL:∀p∈ps,p.1.length<2^60/\p.2.length<2^60):
  eY G m (entryE CX [] 3 EG) (fB (cst 4)) (pS3 k ps [(So "self",.ref 0)]) (.ret (.int (k+(kJ ps).sum))) (pS3 k ps [(So "self",.ref 0)]):=by
 obtain⟨mg,mb,sv,mH,y',hmb,SN⟩:=B.Xp mA ay;have ab0:=B.k5 (tN G.w.params).2.2.2.2.2.2.2.2.2.1
 conv in fB (cst 4)=>whnf
 exact .stop (.ret (Ga (c:=103) (P:=mA) (q:=yz) (d:=1) (k:=2) (mg:=mg) (mb:=mb) B.hh B.cQ B.cP (uL _) B.K (Sv _) ak U U U U (λtk t=>ak) hk kL (MR B) ak U U U
  (oX ab0 U U U U U U U U U) U U sv y' mH hmb SN U ak ay U U U ay U U ay ay)) U
theorem Wz:jf CX (fB (cst 4)) []:=⟨U,U,λL=>ak,U,U,ak,ak,ak⟩
theorem VS(B:aO G 2)(hk:(decide (-(2^63)<=k)&&decide (k<2^63))=af)(kL:∀p∈ps,p.1.length<2^60/\p.2.length<2^60):
  SK G (λvs ws=>call (.ref EG) vs ([].zip ws)) [.ref 0] [] (pS k ps) (.int (k+(kJ ps).sum)) (pS3 k ps [(So "self",.ref 0)]):=
 have kg:=tN G.w.params
 SK.fj (names:=[]) (m:=4) (f:=.ret (.int (k+(kJ ps).sum))) (rb:=[(So "self",.ref 0)]) B.cQ (fd:=CX) ⟨_,B.k5 kg.2.2.2.2.2.2.2.2.1,ak⟩ B.cP (dB (B.k5 kg.2.2.2.2.2.2.2.2.2.1) U U) Wz
  (zg λα s u g q=>⟨_,ZF u,U,.aZ q cy⟩) ak U ak λenv=>aaj B.deep hk kL
theorem ID(B:aO G 3)(hx:σ.get x=aa (.bT cC d (ps.map dZ)))(hd:σ.get d=aa (.size k))(ht:σ.get t=aa (.tab mA yz))(hk:(decide (-(2^63)<=k)&&decide (k<2^63))=af)(kL:∀p∈ps,p.1.length<2^60/\p.2.length<2^60)
  (h0:0<=k+(kJ ps).sum) (h1:k+(kJ ps).sum<2^63):bM G (λvs=>call (.builtin "len") vs) [.ref x] σ (.int (k+(kJ ps).sum)) σ:=by
 have h:=SK.G2 (G:=om G) (f:=λvs ws=>call (.ref EG) vs ([].zip ws)) (cs0:=[]) hx hd ht (λh k'=>VS (B.in1.ext k') hk kL) U U U (λzz=>U) λzz=>U;rw[St.set_same hx]at h;exact len_own B.K (N0 _).1 (N0 _).2 hx hd (SK.sU (g:=λvs=>call (.ref EG) vs) h) h0 h1
end
section
set_option maxHeartbeats 4000000
variable{G:Gv}{n m:Nat}{k:Int}
theorem acu(P:ag)(f:Nat->Obj)(kt tk:Nat):(fq P f kt tk).get? 66=aa (Hh P):=by kernel_rfl
unseal st cst in
theorem TF{s:aA}(h66:s.heap.get? 66=aa (Hh G.w.params))(x v:aq):bW s t_ ⟨[x,v],[]⟩ [(So "self",x),(So "initial_size",v)]:=BindsTo.of_defaults (fd:=t_) (T:=66) U h66 U U U
theorem Ay(A:bZ)(C:Addr)(v:aq):(A.under (.builtin "type.__call__" ⟨[.ref C,v],[]⟩)).depth=A.depth+1/\(A.under (.builtin "type.__call__" ⟨[.ref C,v],[]⟩)).handled=A.handled/\(A.under (.builtin "type.__call__" ⟨[.ref C,v],[]⟩)).units=A.units+1:=⟨ak,U,ak⟩
noncomputable abbrev iS(o:AO)(k:Int):St:=⟨[(2,.frame [(So "initial_size",.int k),(So "self",.ref 1)]),(1,.bT cC 0 []),(0,o)],3⟩
unseal st cst in
theorem Vf(B:aO G 1){P:Env->Prop}(hP:∀env,P env->mu G (lq G.w.params) cC env){body:List Stmt}:uR G 3 (entryE t_ [] 2 CY) P body (fB (cst 0)) (iS .bare k) .next (iS (.size k) k):=by
 conv in fB (cst 0)=>whnf
 exact .cons (.setField (K:=lq G.w.params) (C:=cC) (d:=0) (xs:=[]) B.K (Ei _) U ak ak (Ma _) (.loc U U) (.loc U U) U U)
  (.expr (.super (uL _) B.K hP ak U U U U ay (Bp _) (Tn:="wrapper_descriptor") (λs=>B_) sd.lookup (.inr U)
   (λa s A Q E hi q=>dT sd B_ yb (GC G6 hi ⟨_,U,q⟩) (B7 _ _ _)) (by decide +kernel) PySem.F.entry_list_init (λh a ox od X I=>JF _ _ _) (GF U U)) (.of .nil) U) U
theorem GS.FJ{α σ s}{A:bZ}(g:GS G α σ s):GS {G with A:=A} α σ s:=⟨g.own,g.ow,g.base,g.inj,g.new,g.lt,g.qf,g.os,g.bare⟩
theorem GS.ZH{α σ s}{A:bZ}(g:GS {G with A:=A} α σ s):GS G α σ s:=⟨g.own,g.ow,g.base,g.inj,g.new,g.lt,g.qf,g.os,g.bare⟩
theorem aO.FJ{A:bZ}(B:aO G (n+1))(h:A.depth=G.A.depth+1/\A.handled=G.A.handled/\A.units=G.A.units+1):aO {G with A:=A} n:=
 ⟨by have:=B.room;show A.depth+n<_;rw[h.1];lia,h.2.1.trans B.hh,B.pg,by have:=B.un;show A.units+10*n<9000;rw[h.2.2];lia,B.heap⟩
unseal st cst in
theorem VP(B:aO G 3):SK G (λvs ws=>call (.ref cC) vs ([].zip ws)) [.int k] [] ⟨[],0⟩ (.ref 1) (iS (.size k) k):=by
 rintro α s _ _ E g ⟨_,_,rfl,⟨t,rfl⟩,rfl⟩ rfl;have X1:(lq G.w.params).In s.heap:=λb o e=>(g.base b o (B.K b o e)).2;have hu:=Ay G.A cC (.int k t);obtain⟨le,g2⟩:=g.make (C:=cC);obtain⟨hh,gg,dr,tk,os⟩:=s;refine gA (Si X1 (Mb _) (IL _).1 (IL _).2 ?_);generalize G.A.under (.builtin "type.__call__" ⟨[.ref cC,.int k t],[]⟩)=A' at hu;have B2:aO {G with A:=A'} 2:=B.FJ hu;have kg:=tN G.w.params;have h74:=B.k5 kg.2.2.2.2.1;have h73:=B.k5 kg.2.2.2.2.2.1;refine oF (G:={G with A:=A'}) (fd:=t_) (body:=fB (cst 0)) (rb:=[(So "initial_size",.int k),(So "self",.ref 1)]) (f:=.next) (m:=3) (σ:=⟨[(1,.bT cC 0 []),(0,.bare)],2⟩) (P:=mu {G with A:=A'} (lq G.w.params) cC) B2.cQ ⟨_,h74,ak⟩ B2.cP (dB h73 U U) U
  ⟨_,TF (G:=G) (g2.base _ _ (B.at acu)).2 _ _,U,.aZ ni (.aZ ⟨_,U,AM.d' (i:=1) (bq 1)⟩ cy)⟩ ak ak
  (λL=>F_ (f:=CY) (c:=73) B2 ak ak ak U U U h74 (fd:=t_) ak ⟨_,U,U⟩ U h73 ⟨_,_,U,U⟩ ak) ay
  (λenv=>Vf B2.deep (λzz S=>S.dp env)) g2.FJ ?_ ak ak ak
 rintro v s' ⟨β,wX,g3,rfl⟩;exact⟨U,β,le.trans wX,g3.ZH,_,U,wX.le 1 aE _ (AM.d' (i:=1) (bq 1))⟩
theorem Su(P:ag):keepIn (lq P) (.ref cC)=af:=by kernel_rfl
end
section
theorem AR{x:Str}{a b c d:Option Int}(h:bK a b 1 x.length=bK c d 1 x.length):fv x a b=fv x c d:=by unfold fv;rw[h]
theorem m5{l:List Nat}{a b:Option Int}{i j:Nat}(zd:i<=j)(hj:j<=l.length)(h:bK a b 1 l.length=bK (aa (i:Int)) (aa (j:Int)) 1 l.length):fv (tx l) a b=tx ((l.drop i).take (j-i)):=by
 rw[AR (c:=aa (i:Int)) (d:=aa (j:Int)) (by rw[cw];exact h),s7 (aI i) (Int.ofNat_le.mpr zd) (Int.ofNat_le.mpr hj)];rw[show((j:Int)-i).toNat=j-i from by rw[←Int.ofNat_sub zd];rfl];rfl
theorem pA{i n:Nat}(h:i<=n):¬((i:Int)<0)/\max (0:Int) (min (i:Int) n)=i:=
 ⟨Int.not_lt.mpr (aI i),by rw[Int.min_eq_left (Int.ofNat_le.mpr h),Int.max_eq_right (aI i)]⟩
theorem Ov(n:Nat):max (0:Int) (min (-1+(n:Int)) n)=((n-1:Nat):Int):=by
 cases n with
 |zero=>rfl
 |succ n =>
  have e:-1+((n+1:Nat):Int)=n:=by rw[Int.natCast_succ];lia
  rw[e,Int.min_eq_left (Int.ofNat_le.mpr (cm n)),Int.max_eq_right (aI n)];rfl
open Builtin.Str in
theorem AN(l:List Nat):fv (tx l) (aa (-1)) none=tx (l.drop (l.length-1)):=by
 rw[m5 (i:=l.length-1) (j:=l.length) (Nat.sub_le _ _) (aW _)]
 ·rw[dj (by rw[gz];exact aW _)]
 ·have a:=pA (Nat.sub_le l.length 1)
  have b:=pA (aW l.length);have c:=Ov l.length;simp only[strSliceIndices,a.1,b.1,a.2,b.2,c,if_false,show((-1:Int)<0)=True from by simp,if_true,show((1:Int)>0)=True from by simp]
open Builtin.Str in
theorem AP(l:List Nat):fv (tx l) none (aa (-1))=tx (l.take (l.length-1)):=by
 rw[m5 (i:=0) (j:=l.length-1) (bJ _) (Nat.sub_le _ _)]
 ·rfl
 ·have a:=pA (bJ l.length)
  have b:=pA (Nat.sub_le l.length 1);have c:=Ov l.length;simp only[strSliceIndices,a.1,b.1,a.2,b.2,c,if_false,show((-1:Int)<0)=True from by simp,if_true,show((1:Int)>0)=True from by simp];rfl
open Builtin.Str in
theorem Gw(l:List Nat){k:Nat}:fv (tx l) none (aa (k:Int))=tx (l.take k):=by
 by_cases h:k<=l.length
 ·rw[m5 (i:=0) (j:=k) (bJ _) h]
  ·rfl
  ·have a:=pA (bJ l.length)
   have b:=pA h;simp only[strSliceIndices,a.1,b.1,a.2,b.2,if_false,show((1:Int)>0)=True from by simp,if_true];rfl
 ·rw[m5 (i:=0) (j:=l.length) (bJ _) (aW _)]
  ·rw[jX,Nat.sub_zero,List.take_length,dj (Nat.le_of_not_le h)]
  ·have a:=pA (bJ l.length)
   have b:=pA (aW l.length);have k0:¬((k:Int)<0):=Int.not_lt.mpr (aI k);have c:max (0:Int) (min (k:Int) l.length)=l.length:=by rw[Int.min_eq_right (Int.ofNat_le.mpr (Nat.le_of_not_le h)),Int.max_eq_right (aI _)]
   simp only[strSliceIndices,k0,a.1,b.1,a.2,b.2,c,if_false,show((1:Int)>0)=True from by simp,if_true];rfl
open Builtin.Str in
theorem yr(l:List Nat){k:Nat}:fv (tx l) (aa (k:Int)) none=tx (l.drop k):=by
 have b:=pA (aW l.length);by_cases h:k<=l.length
 ·have a:=pA h
  rw[m5 (i:=k) (j:=l.length) h (aW _)]
  ·rw[dj (by rw[gz];exact aW _)]
  ·simp only[strSliceIndices,a.1,b.1,a.2,b.2,if_false,show((1:Int)>0)=True from by simp,if_true]
 ·rw[m5 (i:=l.length) (j:=l.length) (aW _) (aW _)]
  ·rw[Nat.sub_self,List.take_zero,List.drop_of_length_le (Nat.le_of_not_le h)]
  ·have k0:¬((k:Int)<0):=Int.not_lt.mpr (aI k)
   have c:max (0:Int) (min (k:Int) l.length)=l.length:=by rw[Int.min_eq_right (Int.ofNat_le.mpr (Nat.le_of_not_le h)),Int.max_eq_right (aI _)]
   simp only[strSliceIndices,k0,b.1,b.2,c,if_false,show((1:Int)>0)=True from by simp,if_true]
variable{G:Gv}{e:Env}{σ σ1:St}{a b c:CV}{items:Array aq}{i:Nat}{x:Str}{l:Addr}
open Builtin.Str in
theorem ug(n:Nat):sliceRange ((n:Int)-1) (-1) (-1)=(bc n).reverse:=by
 simp only[sliceRange,show((-1:Int)>0)=False from by simp,if_false];cases n with
 |zero=>rfl
 |succ n =>
  have h1:((n+1:Nat):Int)-1 > -1:=by lia
  have h2:((((n+1:Nat):Int)-1 - -1 - -1-1) / -(-1)).toNat=n+1:=by rw[Int.neg_neg,Int.ediv_one];lia
  rw[if_pos h1,h2];apply List.ext_getElem
  ·simp
  ·intro i h3 h4
   rw[iD,List.getElem_reverse,jl,jl];simp at h3 ⊢;lia
theorem vT{γ:Type}(l:List γ):(bc l.length).filterMap (l[·]?)=l:=by
 have p:=PySem.StrLaws.picks l l.length 0 (d3 (gW _));rw[jX,List.take_length]at p;simpa using p
open Builtin.Str in
theorem DQ(l:List Nat):(strSliceIndices none none (-1) l.length).filterMap (l.toArray[·]?)=l.reverse:=by
 have e:strSliceIndices none none (-1) l.length=(bc l.length).reverse:=ug l.length;rw[e,List.filterMap_reverse]
 congr 1
 simpa using vT l
theorem DY(xs:List CV):n8 xs none none (aa (-1))=xs.reverse:=by
 unfold n8;rw[show(lW none none (aa (-1)) xs.length)=((xs.length:Int)-1,-1,-1)from U,ug,List.filterMap_reverse,vT]
theorem s_{l: List Nat}(hf:l.length<=bC):cR G (.str (tx l)) none none (aa (-1)) σ (.str (tx l.reverse)) σ:=by
 intro α s _ sl E vl vu vk g FA hs p1 p2 p3;refine iH (FA) λt kE=>?_;obtain rfl:=kE;refine⟨⟨_,_,hU _ _ _,PyProof.Rows.slot_str_getitem.lookup⟩,?_⟩;cases p1;cases p2;cases p3;refine wpAny_getItem_str_slice (l:=bz) (u:=bz) (st:=aa (-1,_)) hs U ?_;have e:(⟨((bK none none (-1) (tx l).length).filterMap ((tx l).cps[·]?)).toArray⟩:Str)=tx l.reverse:=by
  rw[cw];exact congrArg (λx:List Nat=>(⟨x.toArray⟩:Str)) (DQ l)
 refine⟨?_,?_⟩
 ·show(⟨((bK none none (-1) (tx l).length).filterMap ((tx l).cps[·]?)).toArray⟩:Str).length<=_
  rw[e,cw,cJ];exact hf
 ·show W VR G α s.heap _ σ (.str (⟨((bK none none (-1) (tx l).length).filterMap ((tx l).cps[·]?)).toArray⟩:Str) s.toks) _
  rw[e];exact g.fh ⟨_,U⟩
theorem Lp{i j: Int}:bN G (inplaceOp .Sub) (.int i) (.int j) σ (.int (i-j)) σ:=i2 λs Q E t u h=>PyProof.Rows.isub_int (h _ _)
section
variable{prog:cY}{w:cW}{A:bZ}{E:aq->aA->Prop}{s:aA}
theorem EK{it: Addr}(su:l≠it):∀(n i:Nat)(s:aA)(Q:List aq->aA->Prop),s.heap.IsListIter it l i->s.heap.IsList l items->i+n<=items.size ->
  (∀h',h'.IsListIter it l (i+n)->gQ it s.heap h'->Q ((items.toList.drop i).take n) {s with heap:=h'})->aH (ba prog w) A (draw (.ref it) n) Q E s:=by
 intro n
 induction n with
 |zero =>
  intro i s Q hit _ _ hQ;show aH _ _ (pure []) Q E s;exact av (by simpa using hQ s.heap hit (Heap.SameBut.refl ..))
 |succ n ih =>
  intro i s Q hit hl j6 hQ;have i8:i<items.size:=aM (gD (j_ n)) j6;show aH _ _ (iW (.ref it) >>= _) Q E s;refine ae (wpAny_pyNext_list_item hit hl (x:=items[i]) (iG i8) λrZ Bu lN=>?_);refine ae (aQ (ih (i+1) _ _ Bu (hl.extBut lN.extBut su) (by rw[gq,Nat.add_comm 1];exact j6) λw_ SQ oq=>av ?_));have hd:items.toList.drop i=items[i]::items.toList.drop (i+1):=by simp[mR,i8]
  have:=hQ w_ (by rw[show i+(n+1)=i+1+n from by rw[gq,Nat.add_comm 1]];exact SQ) (lN.trans oq);rw[hd,List.take_succ_cons]at this;exact this
theorem qJ{Q:List aq->aA->Prop}(hh:A.handled=none)(hl:s.heap.IsList l items)
  (hQ:∀h',jA s.heap.objs.size s.heap h'->Q items.toList {s with heap:=h'}):aH (ba prog w) A (unpackItems (.ref l) items.size none) Q E s:=by
 have i8:l≠s.heap.objs.size:=by obtain⟨o,ho,_⟩:=hl;exact bL (bx ho)
 unfold unpackItems notIterableAtAll;refine ae (ae (jN hl.typeIs slot_list_iter.lookup (av ?_)));simp only[dG,if_false];refine ae (aQ (wpAny_pyIter_list hl ?_));have hp:(s.heap.push {cls:=.type "list_iterator",data:=.fields #[.ref l,.int 0 0]}).IsList l items:=hl.push _;refine ae (aQ (EK i8 items.size 0 _ _ ⟨_,aJ _ U,U,U⟩ hp (d3 (gW _)) λrZ Bu lN=>?_));have SX:List.take items.size (gY 0 items.toList)=items.toList:=by
  rw[jX];exact dj (d3 (du))
 rw[SX,if_neg (by rw[du];exact eE _)];refine ae (aQ (wpAny_pyNext_list_end hh Bu (hp.extBut lN.extBut i8) (by simp) λw_ Ym=>?_));simp only[Option.isSome_none,dG,if_false];exact av (hQ w_ λb o hb e=>Ym b o hb (lN.extBut b o hb (aC _ e)))
theorem yc{se:List (Bool×(aq->Sem Unit))}{Q:Unit->aA->Prop}(hh:A.handled=none)(hl:s.heap.IsList l items)
  (hn:se.length=items.size) (XZ:se.findIdx? (·.1)=none)
  (h:∀h',jA s.heap.objs.size s.heap h'->aH (ba prog w) A (assignInOrder (se.map (·.2)) items.toList) Q E {s with heap:=h'}):
  aH (ba prog w) A (unpack (.ref l) se) Q E s:=by
 unfold unpack;rw[hn,XZ];exact ae (aQ (qJ hh hl h))
end
theorem cU.list{kO k p_ n}{cs: List CV}{fs:Env->List (aq->Sem Unit)}(hh:G.A.handled=bz)(en:σ.get n=aa (.list cs))(h:Ord G e fs cs σ σ1)(h1:autoParam (∀env,(assignEach kO env).map (·.2)=fs env) j2)(h2:autoParam (∀env,(assignEach kO env).length=cs.length) j2)
  (h3:autoParam (∀env,(assignEach kO env).findIdx? (·.1)=bz) j2):cU G e (.Tuple kO k p_) (.ref n) σ σ1:=by
 intro α s env E v i g r;obtain⟨a,vs,n',rfl,ha,eh,q,sz⟩:=g.getL en r;rw[assign_Tuple];refine ae (de (yc (items:=vs.toArray) hh ⟨_,eh,U,_,U⟩ (by rw[h2,sz]) (h3 env) λh' hx=>?_));rw[h1];exact h.run i g q hx (Le.refl _ _)
theorem IB{k}{xs: List CV}(ek:σ.get k=aa (.list (xs++[c])))(hf:xs.length<2^20):bM G (λvs=>call (.builtin "list.pop") vs) [.ref k] σ c (σ.set k (.list xs)):=by
 refine Wu ek λα s a vs n E g ha eh q sz=>?_;have hl:=q.length;rw[aB,kQ]at hl;obtain⟨pU,v,rfl⟩:∃pU v,vs=pU++[v]:=by
  have:vs≠[]:=by intro h;rw[h]at hl;cases hl
  exact Aa vs.dropLast (vs.getLast this) ((List.dropLast_concat_getLast this).symm)
 have Oc:pU.length=xs.length:=by rw[aB,kQ]at hl;exact Nat.succ.inj hl
 have r1:=q.take xs.length;have r2:=q.drop xs.length;rw[List.take_left' U,List.take_left' Oc]at r1;rw[List.drop_left' U,List.drop_left' Oc]at r2;refine f5 (r2) λzz zz e3 rv Ao=>?_;obtain rfl:=Ao;cases e3;have he:(pU++[v]).toArray.eraseIdxIfInBounds pU.length=pU.toArray:=by
  apply Array.toList_inj.mp;simp[jH]
 have u:=g.yw (f:=(·.eraseIdxIfInBounds pU.length)) (ws:=pU) (ys:=xs) ek ha eh he r1 s.toks;refine dT PySem.F.slot_list_pop ⟨_,eh,U⟩ PySem.F.entry_list_pop ?_ (PySem.F.args_list_pop_1 _);unfold dg.«list.pop»;refine ae (cH (show selfAndSome "list.pop" "pop" 0 1 ⟨[.ref a],[]⟩=bO (b9 a,[]) by rfl) ?_);refine ae (av ?_);dsimp only;rw[show cG (-1)=af from U];rw[if_neg (show ¬((!af)=af)from aN)];refine ae (listItems_at eh U ?_);have hi:((lE (-1) (pU++[v]).toArray.size).bind λk=>(pU++[v]).toArray[k]?.map (k,·))=aa (pU.length,v):=by
  have:lE (-1) (pU++[v]).toArray.size=aa pU.length:=by
   unfold lE;simp;lia
  rw[this];simp
 rw[if_neg (by simp),hi];refine ae (il eh U ?_ (by rw[a_,aB,Oc];exact bD (Nat.succ_le_of_lt hf)) (by rw[he];exact Nat.le_succ_of_le (by rw[a_,Oc];exact bD (bX hf))));exact av ⟨_,U,α,u.1,u.2,rv.mono u.1⟩
theorem El{y: Str}{r: List Nat}(h:iF x y 0 x.length 1=i::r):bM G (λvs=>call (.builtin "str.index") vs) [.str x,.str y] σ (.int i) σ:=by
 refine QS λα s t w E g r2=>?_;obtain⟨u,rfl⟩:=r2;exact call_gives PySem.F.slot_str_index (hU _ _ _) PySem.F.entry_str_index (PySem.F.args_str_index_2 _ _) (gives_str_index x y t u i r h) (g.fh ⟨_,U⟩)
end
section
variable{G:Gv}{e:Env}{σ:St}{a b c:CV}{s:aA}{S i it:Nat}{vs:List aq}{h:Heap}{x:Str}{l:List Nat}
noncomputable abbrev kF(l:List Nat):List CV:=l.map λx=>.str (tx [x])
theorem Gy{α: AM}:∀(l:List Nat) {ws:List aq},ws.length=l.length->(∀(j:Nat)(v:aq),ws[j]?=aa v->∃ch u,l[j]?=aa ch/\v=.str (tx [ch]) u)->di α h (kF l) ws:=by
 intro l
 induction l with
 |nil=>intro ws hl _;exact List.eq_nil_of_length_eq_zero hl
 |cons x l ih =>
  intro ws hl k;cases ws with
  |nil=>cases hl
  |cons w ws =>
   obtain⟨ch,u,e1,e2⟩:=k 0 w U;cases e1;exact⟨w,ws,U,⟨u,e2⟩,ih (Nat.succ.inj hl) λj v hv=>k (j+1) v hv⟩
theorem rL(hh:G.A.handled=bz)(hf:l.length<=bC):bM G (λvs=>call (.type "list") vs) [.str (tx l)] σ (.ref σ.n) (σ.push (.list (kF l))):=by
 refine Wt λα s t E g=>?_;refine call_list_str hh (tx l) t (hn:=by rw[a_];exact hf) λh' tk acc c' hk he hI=>?_;refine g.fresh (ao:=.list (kF l)) hk (λle=>⟨acc.toList,c',he,Gy l ?_ λj v hv=>?_⟩) tk
 ·rw[du,hI.1,a_]
 ·obtain⟨ch,u,e1,e2⟩:=hI.2 j v (by rw[←kB];exact hv)
  exact⟨ch,u,by simpa using e1,e2⟩
theorem JB(hi:i<x.cps.size):x.cps[i]?=aa (x.cps.getD i 0):=by rw[lQ,iG hi];rfl
section
variable{prog:cY}{w:cW}{A:bZ}
theorem uC{t:Tok}{Q:Option aq->aA->Prop}{E:aq->aA->Prop}(hi:i<x.cps.size)(k:s.heap.IsStrIter it (bj x) x t i)
  (h:∀h',h'.IsStrIter it (bj x) x t (i+1)->gQ it s.heap h'->Q (aa (.str ⟨#[x.cps.getD i 0]⟩ s.toks)) {s with heap:=h',toks:=s.toks+1}):aH (ba prog w) A (iW (.ref it)) Q E s:=by
 have hx:=JB hi;unfold bj at k h;cases ha:x.cps.all (· < 128)
 ·rw[ha]at k h;exact wpAny_pyNext_wide_item k hx h
 ·rw[ha]at k h;exact wpAny_pyNext_ascii_item k hx h
theorem wF{t:Tok}{Q:Option aq->aA->Prop}{E:aq->aA->Prop}(hh:A.handled=none)(hi:x.cps.size<=i)(k:s.heap.IsStrIter it (bj x) x t i)
  (h:∀h',jA it s.heap h'->Q none {s with heap:=h'}):aH (ba prog w) A (iW (.ref it)) Q E s:=by
 have hx:x.cps[i]?=none:=by rw[Array.getElem?_eq_none_iff];exact hi
 unfold bj at k;cases ha:x.cps.all (· < 128)
 ·rw[ha]at k;exact wpAny_pyNext_wide_end hh k hx h
 ·rw[ha]at k;exact wpAny_pyNext_ascii_end hh k hx h
theorem CN{c: Nat}{t:Tok}(hS:h.get? S=aa (fg vs c))(hit:h.IsStrIter it (bj x) x t i):S≠it:=λz=>by
 obtain⟨o,eo,ec,_⟩:=hit;rw[←z,hS]at eo;cases eo;have ec:cx "list"=cx (bj x):=ec;unfold bj at ec
 split at ec<;>exact absurd ec ay
theorem r9(hh:A.handled=none){t:Tok}{S: Nat}{vs: List aq}{R:Result->aA->Prop}:∀(k i:Nat)(s:aA)(ws:List aq)(c:Nat),i+k=x.cps.size->s.heap.IsStrIter it (bj x) x t i ->
  s.heap.get? S=aa (fg (vs++ws) c)->vs.length+x.cps.size<=2^20->ws.length=i->(∀(j:Nat)(v:aq),ws[j]?=aa v->∃ch u,x.cps[j]?=aa ch/\v=.str ⟨#[ch]⟩ u) ->
  (∀h' tk c' pU,(∀b o,b≠S->b≠it->s.heap.get? b=aa o->h'.get? b=aa o)->h'.get? S=aa (fg (vs++pU) c')->pU.length=x.cps.size->(∀(j:Nat)(v:aq),pU[j]?=aa v->∃ch u,x.cps[j]?=aa ch/\v=.str ⟨#[ch]⟩ u)->R (.ok (.ret .none)) {s with heap:=h',toks:=tk}) ->
  codeAny (ba prog w) A (.builtin "list.extend.loop" ⟨[.ref S,.ref it,.none],[]⟩) R s:=by
 intro k
 induction k with
 |zero =>
  intro i s ws c hk hit hS hf hl hw hR;have su:=CN hS hit;refine mJ PySem.F.entry_extend_loop ?_;rw[fT ir _];show aH _ A.in1 (iW (.ref it) >>= _) _ _ s;refine ae (wF (show A.in1.handled=none from hh) (d3 hk.symm) hit λh' hs=>av ?_);exact hR h' s.toks c ws (λb o zz hb e=>hs b o hb e) (hs _ _ su hS) (hl.trans hk) hw
 |succ k ih =>
  intro i s ws c hk hit hS hf hl hw hR;have hi:i<x.cps.size:=by rw[←hk];exact gD (j_ k)
  have su:=CN hS hit;refine mJ PySem.F.entry_extend_loop ?_;rw[fT ir _];show aH _ A.in1 (iW (.ref it) >>= _) _ _ s;refine ae (uC hi hit λh' k' hs=>?_);have hS':h'.get? S=aa (fg (vs++ws) c):=(hs.2 _ su).trans hS;show aH _ A.in1 (updateSeq S (·.push (.str ⟨#[x.cps.getD i 0]⟩ s.toks)) >>= _) _ _ _;have hn:(vs++ws).length+1<=2^20:=by rw[aB,hl];exact au (cq hi _) hf
  obtain⟨c2,e2⟩:=rK (vs++ws) (vs++(ws++[.str ⟨#[x.cps.getD i 0]⟩ s.toks])) c (·.push (.str ⟨#[x.cps.getD i 0]⟩ s.toks)) (by rw[←bh];exact jW ..);have u:=d_ (cV (·.push (.str ⟨#[x.cps.getD i 0]⟩ s.toks))) hS' U;rw[e2]at u;have oth:∀b o,b≠S->h'.get? b=aa o->(h'.update S (cV (·.push (.str ⟨#[x.cps.getD i 0]⟩ s.toks)))).get? b=aa o:=λb o hb e=>(Heap.get?_update_other _ _ (Ne.symm hb)).trans e;refine ae (wpAny_updateSeq hS' U (av ⟨lR ir _,ih (i+1) _ (ws++[.str ⟨#[x.cps.getD i 0]⟩ s.toks]) c2 (by rw[←hk];exact Nat.succ_add_eq_add_succ i k) ?_ u hf (by rw[aB,hl];rfl) ?_ ?_⟩)
   (by rw[a_];exact bD (d2 hn)) (by rw[Array.size_push,a_];exact Nat.le_succ_of_le (bD hn)))
  ·obtain⟨o,eo,k2⟩:=k'
   exact⟨o,oth _ _ (Ne.symm su) eo,k2⟩
  ·intro j v hv
   by_cases q:j<ws.length
   ·rw[mQ q]at hv;exact hw j v hv
   ·rw[List.getElem?_append_right (dm q)]at hv
    cases z:j-ws.length with
    |succ n=>rw[z]at hv;cases hv
    |zero =>
     rw[z]at hv;obtain rfl:j=i:=Nat.le_antisymm (hl▸Nat.sub_eq_zero_iff_le.mp z) (hl▸dm q);exact⟨x.cps.getD j 0,s.toks,JB hi,(bR hv).symm⟩
  ·intro h2 tk c' pU keep e1 e2 e3
   exact hR h2 tk c' pU (λb o hb hbi e=>keep b o hb hbi (oth b o hb ((hs.2 b hbi).trans e))) e1 e2 e3
end
theorem rY{L: Nat}{xs: List CV}(hh:G.A.handled=bz)(eL:σ.get L=aa (.list xs))(hf:xs.length+l.length<=2^20):
  bM G (λvs=>call (.builtin "list.extend") vs) [.ref L,.str (tx l)] σ .none (σ.set L (.list (xs++kF l))):=by
 refine G' eL λα s a vs n E w g ha eh q sz r2=>?_;obtain⟨t,rfl⟩:=r2;refine gA (codeAny_call_builtin PySem.F.slot_list_extend.plain PySem.F.entry_list_extend (PySem.F.slot_list_extend.check _ _ _ _ _ _ _ _ ⟨_,eh,U⟩ (PySem.F.args_list_extend_2 _ _) ?_));show aH _ _ (Builtin.List.listExtendWith (.ref a) (.str (tx l) t) .none) _ _ s;unfold Builtin.List.listExtendWith;refine ae (wpAny_typeOf (T:="str") (v:=.str (tx l) t) U ?_);have h1:Builtin.List.listSameRef (.ref a) (.str (tx l) t)=false:=U;have h2:(cx "str"==cx "list")=false:=by decide
 have h3:(cx "str"==cx "tuple")=false:=by decide
 simp only[h1,h2,h3,Bool.or_false,dG,if_false];refine ae (wpAny_pyIter_strU ?_);refine ae (aQ ?_);unfold Builtin.List.listLengthHint;refine ae (jN (T:="str") (v:=.str (tx l) t) U PySem.F.str_len ?_)
 wp_delta
 refine ae (gR (T:="str") (v:=.str (tx l) t) (b:=af) U (by rw[kW];kernel_rfl) ?_);show aH _ _ (typeOf (Value.str (tx l) t) >>= _) _ _ _;refine ae (wpAny_typeOf (T:="str") (v:=.str (tx l) t) U ?_);refine av ?_;rw[if_neg ay];refine av ⟨lR ir _,r9 hh (x:=tx l) (t:=t) (it:=s.heap.objs.size) (vs:=vs) l.length 0 _ [] n (by rw[gW,a_]) ⟨_,aJ _ U,U,U⟩ ?_ ?_ U (λj v h=>nomatch h) λh' tk c' ws keep e1 e2 e3=>?_⟩
 ·rw[bV];exact aC _ eh
 ·rw[q.length,a_];exact hf
 ·have gt:=g.turn (h':=h') (ao':=.list (xs++kF l)) eL ha (λb o hb eo=>keep b o hb (bL (bx eo)) (aC _ eo)) (λle=>⟨vs++ws,c',e1,(q.mono le).append (Gy l (by rw[e2,a_]) λj v hv=>?_)⟩) tk
  ·exact⟨α,gt.1,gt.2,U⟩
  ·obtain⟨ch,u,k1,k2⟩:=e3 j v hv
   exact⟨ch,u,by simpa using k1,k2⟩
theorem LO{k: Int}(h0:0<=k)(h:k<=1048576):(decide (k < -9223372036854775808) || decide (k ≥ 9223372036854775808))=false/\(¬k<1->¬((1:Int)>9223372036854775807/k)):=by
 refine⟨?_,λh1=>?_⟩
 ·rw[decide_eq_false (by lia),decide_eq_false (by lia)];rfl
 ·exact Int.not_lt.mpr ((Int.le_ediv_iff_mul_le (by lia)).mpr (by lia))
theorem GJ(x:Nat):∀(n:Nat)(l:List Nat),(aw n (tx [x]).cps).foldl (·++·) l.toArray=(l++aw n x).toArray:=by
 intro n
 induction n with
 |zero=>intro l;rw[show aw 0 x=[]from U,bV];rfl
 |succ n ih =>
  intro l;rw[iR,List.foldl_cons];have h0:l.toArray++(tx [x]).cps=(l++[x]).toArray:=by simp
  rw[h0,ih,bh];rfl
theorem p63:(2:Int)^63=9223372036854775808:=by decide
theorem yH{x k: Nat}(hk:k<=1048576):bN G (eB .Mult) (.str (tx [x])) (.int k) σ (.str (tx (aw k x))) σ:=by
 rintro α s _ _ E g ⟨t,rfl⟩ ⟨u,rfl⟩;have r:=LO (aI k) (Int.ofNat_le.mpr hk);have hl:k<=bC:=bD hk;refine P.mul_str (by rw[p63];exact r.1) (λh1 zz=>by rw[p63];exact r.2 h1) (λh1 zz=>?_) ?_
 ·show eG (1*(k:Int).toNat)=false
  rw[Nat.one_mul,bU];exact decide_eq_false (Nat.not_lt.mpr hl)
 ·clear r
  cases k with
  |zero=>exact⟨by decide,g.fh ⟨_,U⟩⟩
  |succ k =>
   have k1:¬(((k+1:Nat):Int)<1):=Int.not_lt.mpr (Int.ofNat_le.mpr (Nat.succ_le_succ (bJ k)));rw[if_neg k1];cases k with
   |zero=>exact g.here ⟨_,U⟩
   |succ k =>
    have hb:((((k+1+1:Nat):Int)==1) || (tx [x]).length==0)=false:=by
     rw[Bool.or_eq_false_iff];exact⟨beq_eq_false_iff_ne.mpr (λq=>Nat.succ_ne_zero k (Nat.succ.inj (Int.ofNat.inj q))),U⟩
    rw[hb,if_neg aN,bU];have e2:(⟨(aw (k+1+1) (tx [x]).cps).foldl (·++·) #[]⟩:Str)=tx (aw (k+1+1) x):=congrArg Str.mk (GJ x (k+1+1) []);rw[e2];exact⟨by rw[cw,cg];exact hl,g.fh ⟨_,U⟩⟩
end
section
section
variable{prog:cY}{w:cW}{A:bZ}{E:aq->aA->Prop}{s:aA}
theorem uO{K:Frag}{x C f:Addr}{ox:Obj}{od:Option Obj}{name:Str}{expr:Bool}{Q:aq->aA->Prop}(X:K.In s.heap)(I:InstAt s.heap x ox C od)(k:Kl K C)
  (hf:findObj K C od name=aa (.bind (.builtin "function.__get__") (.ref f))) (hp:jm K (.ref f)=aa (.type "function")) (h:Q (.ref s.heap.objs.size) {s with heap:=s.heap.push (methodObj (.ref f) (.ref x)),toks:=s.toks+1}):aH (ba prog w) A (getAttr (.ref x) name expr) Q E s:=by
 obtain⟨Uq,g,d,t,os⟩:=s;have L0:=I.type (M:=ba prog w);have L1:=dv (M:=ba prog w) X k.ga;have L2:=dv (M:=ba prog w) X k.gn;have L3:=looks_find (M:=ba prog w) X I hf;have L4:eF (ba prog w) Uq (dA (.ref x) (.type "list")) af:=by unfold dA;exact I.type.andThen (iY X k.sub)
 unfold getAttr getAttrBy;refine ae (wpAny_mkText (aQ (ae (L0.at (ae (L1.at ?_))))));show aH _ _ (jP (.ref x) (.str name t) (.ref C) (.builtin "list.__getattribute__") af expr) _ _ _;unfold jP hookBefore callGetattribute boundAndCalled;rw[if_pos (by rfl)];refine ae (L2.at ?_);refine ae (ij (aQ ?_));rw[if_neg (by cases expr<;>decide)];refine ae (cH (PySem.F.slot_list_getattribute.bind _) ?_);refine dz (Q:=λr s'=>r=.ref Uq.objs.size/\s'=⟨Uq.push (methodObj (.ref f) (.ref x)),g,d,t+1,os⟩) (E:=λzz zz=>False)
  (qD (owner:="list") (n:="__getattribute__") (.inl (by decide +kernel)) (by decide +kernel) (by decide +kernel) L4 PySem.F.entry_list_ga ?_ (PySem.F.args_list_getattribute_2 _ _)) (λr s' hv=>?_) λzz zz z=>z.elim
 ·unfold dg.«object.__getattribute__»
  refine ae (cH (show slotArgs "__getattribute__" 1 ⟨[.ref x,.str name t],[]⟩=bO (b9 x,[.str name t]) by rfl) ?_);dsimp only;refine ae (cH (a:=name) U ?_);refine ae (L0.at (ae (L3.at ?_)));show aH _ _ (h_ [b9 f] (call (.builtin "function.__get__") [.ref f,.ref x,.ref C]) >>= ret) _ _ _;refine ae (aQ (gA (fn_get X hp ?_)));exact av ⟨_,U,U,U⟩
 ·refine dH λM' up1=>?_
  obtain⟨rfl,rfl⟩:=hv;refine up1 ?_;show aH _ _ (handedOut _) _ _ _;rw[handedOut_of U];exact av h
end
variable{G:Gv}{e:Env}{σ σ1 σ2 σ3:St}{c:CV}{cs xs:List CV}{pos:Pos}{K:Frag}{n C d:Nat}
def SemQ(G:Gv)(fa:Nat)(cs:List CV)(σ:St)(c:CV)(σ':St):Prop:=
 ∀α s vs R,GS G α σ s->di α s.heap cs vs->(∀v s',W VR G α s.heap c σ' v s'->R (.ok (.ret v)) s')->codeAny G.M G.A (.call (.ref fa) ⟨vs,[]⟩) R s
theorem Gj{α: AM}{s: aA}{A:bZ}{E:aq->aA->Prop}{v: aq}{M:gw}{Q:List aq->aA->Prop}{prog:cY}{w:cW}(hM:M=ba prog w)(r:VR α s.heap (.tup cs) v)(hl:cs.length<=1000)
  (h:∀vs h',(∀b o,s.heap.get? b=aa o->h'.get? b=aa o)->di α s.heap cs vs->Q vs {s with heap:=h'}):StarOf M A E v Q s:=by
 subst hM;obtain⟨a,vs,k,rfl,_,_,ha,q⟩:=r;have T:s.TypeIs (.ref a) "tuple":=⟨_,ha,U⟩;unfold StarOf notIterableAtAll;refine ae (jN T PySem.F.slot_tuple_iter.lookup (av ⟨U,?_⟩));exact wpAny_collect_seq (items:=vs.toArray) (n:=k) a (.inr U) ha U U (λh' kk=>h vs h' kk q) (by have:=q.length;simp only[a_];exact bD (by rw[this];exact au hl ay))
variable{o a:Expr}{name:Str}{jJ ap:Pos}
theorem a8.Ip{i: Int}{fa: Nat}{fd: cO}{of: Obj}(k:Kl K C)(X:K.In G.h₀)(hb:∀tk t,findObj K C (aa (qO G.w.params i tk t)) name=aa (.bind (.builtin "function.__get__") (.ref fa)))(ht:jm K (.ref fa)=aa (.type "function"))(ho:G.h₀.get? fa=aa of)(hdf:of.data=.func fd)
  (h1:a8 G e o σ (.ref n) σ1) (en:σ1.get n=aa (.bT C d xs)) (ed:σ1.get d=aa (.size i)) (h2:a8 G e a σ1 (.tup cs) σ2) (hl:cs.length<=1000) (h3:SemQ G fa (.ref n::cs) σ2 c σ3)
  (he:autoParam (∀env,eval (.Call (.Attribute o name jJ) [.Starred a ap] [] pos) env=(do
   let ov ←eval o env
   f6 jJ.atName
   let(f,first) ←h_ [ov] (do pure (←getAttr ov name af,[]))
   callWith pos f first (j8 pos (eA [.Starred a ap] env)) [])) j2) (hs:autoParam (∀env,eA [.Starred a ap] env=[(af,eval a env)]) j2):a8 G e (.Call (.Attribute o name jJ) [.Starred a ap] [] pos) σ c σ3:=by
 intro α s env E ei g;rw[he];refine ae (iI (h1 α s env E ei g) λβ v s1 l1 g1 r1=>ae (de ?_));obtain⟨x,b,vs,j,tk,t,rfl,ha,I,q⟩:=g1.r7 en ed r1;have X1:K.In s1.heap:=X.keeps λb o eb=>(g1.base b o eb).2;refine ae (aQ (ae (uO X1 I k (hb tk t) ht (av ?_))));have up:∀b o,s1.heap.get? b=aa o->(s1.heap.push (methodObj (.ref fa) (.ref x))).get? b=aa o:=λb o e=>aC _ e;have t1:=g1.same (h':=s1.heap.push (methodObj (.ref fa) (.ref x))) up (s1.toks+1);have hm0:(s1.heap.push (methodObj (.ref fa) (.ref x))).get? s1.heap.objs.size=aa (methodObj (.ref fa) (.ref x)):=aJ _ U;have off:β.off s1.heap.objs.size:=λh=>by
  obtain⟨o,ho⟩:=g1.lt _ h;exact eE _ (bx ho)
 rw[hs];refine ks_call (P:=λh=>h.get? s1.heap.objs.size=aa (methodObj (.ref fa) (.ref x))/\h.get? fa=aa of) U (λh ⟨p1,p2⟩=>⟨.boundFrame,.inr (.inr U),?_⟩) (ks_lone (iI (h2 β _ env E (ei.mono (l1.trans t1.1)) t1.2) λγ u s2 l2 g2 r2=>Gj (prog:=G.prog) (w:=G.w) U r2 hl λvs h' kk q'=>?_))
 ·unfold keeperOf
  refine(Looks.ld (part:=bz) p1).andThen ?_;dsimp only[methodObj];rw[if_neg ay];refine(Looks.ld (part:=bz) p2).andThen ?_;rw[hdf];exact .now
 ·refine⟨⟨kk _ _ (l2.keep _ _ off hm0),kk _ _ (g2.base _ _ ho).2⟩,?_⟩
  have t2:=g2.same (h':=h') kk s2.toks;refine gA (ks_codeAny_call_bound (f:=fa) (x:=.ref x) (kk _ _ (l2.keep _ _ off hm0)) ?_);refine h3 γ _ (.ref x::vs) _ t2.2 ⟨_,_,U,⟨x,U,l2.le _ aE _ (t1.1.le _ aE _ ha)⟩,q'.mono t2.1⟩ λv s' w=>?_;exact w.trans (l1.trans (t1.1.trans (l2.trans t2.1)))
end
section
variable{G:Gv}{e:Env}{σ:St}{c:CV}{cs:List CV}{it i:Nat}{x:Str}{p:Pos}
theorem IU:dD G fc (.tup cs) σ (.ref σ.n) (σ.push (.y7 cs 0)):=by
 rintro α s _ E g ⟨a,vs,n,rfl,f,u,eh,q⟩;exact wpAny_pyIter_tuple (items:=vs.toArray) ⟨_,eh,U,_,U⟩ (g.tH (ao:=.y7 cs 0) (λle=>⟨a,vs,n,le.off f eh,le.rs▸u,le.keep _ _ f eh,q.mono le,_,aJ _ U,U,U⟩) s.toks)
inductive ZR(α:AM)(h:Heap)(i:Nat)(cs:List CV)(a:Nat):Prop
 |mk (b:Nat) (vs:List aq) (n:Nat) (f:α.off b) (u:¬α.R b) (eh:h.get? b=aa (ux vs n)) (q:di α h cs vs) (ei:h.IsTupleIter a b i):ZR α h i cs a
theorem GS.Jf{α s a}(g:GS G α σ s)(e:σ.get it=aa (.y7 cs i))(ha:α.f it=aa a):ZR α s.heap i cs a:=by
 refine dH λlg eS=>?_;obtain⟨a',h1,b,vs,n,f,u,eh,q,ei⟩:=g.own _ _ e;cases h1.symm.trans ha;exact eS ⟨b,vs,n,f,u,eh,q,ei⟩
theorem X.tup(e:σ.get it=aa (.y7 cs i))(hx:cs[i]?=aa c):eC G (.Name x p) it σ c (σ.set it (.y7 cs (i+1))):=by
 intro α s a E g ha;obtain⟨b,vs,n,f,u,eh,q,ei⟩:=g.Jf e ha;refine aR (q.get hx) λv hv r=>?_;refine wpAny_pyNext_tuple_item ei (items:=vs.toArray) ⟨_,eh,U,_,U⟩ (by rw[bH];exact hv) λh' e' hs=>⟨v,U,λE=>?_⟩;have t:=g.turn (h':=h') (ao':=.y7 cs (i+1)) e ha (λc o hc eo=>(hs.2 c hc).trans eo) (λle=>⟨b,vs,n,le.off f eh,le.rs▸u,le.keep _ _ f eh,q.mono le,e'⟩) s.toks;exact av ⟨α,t.1,t.2,r.mono t.1⟩
theorem D.tup(hh:G.A.handled=none)(e:σ.get it=aa (.y7 cs i))(hx:cs.length=i):eX G it σ (σ.del it):=by
 intro α s a E g ha;obtain⟨b,vs,n,f,u,eh,q,ei⟩:=g.Jf e ha;exact wpAny_pyNext_tuple_end hh ei (items:=vs.toArray) ⟨_,eh,U,_,U⟩ (by rw[bH,iO,q.length,hx];exact aW _) λh' hs=>g.gone e ha hs s.toks
theorem GA:σ.get it=aa (.y7 cs i)->dD G fc (.ref it) σ (.ref it) σ:=by
 intro e α s _ E g w;refine aR w λa w1 ha=>?_;obtain rfl:=w1;obtain⟨b,vs,n,f,u,eh,q,ei⟩:=g.Jf e ha;exact wpAny_pyIter_tupleiter ei (g.here ⟨a,U,ha⟩)
theorem QR{i j: Int}(hn:0<=j)(hn2:j<=1000000)(ha:i.natAbs<2^64):bN G (eB .Pow) (.int i) (.int j) σ (.int (i^j.toNat)) σ:=by
 rintro α s _ _ E g ⟨t,rfl⟩ ⟨u,rfl⟩;exact PyProof.Rows.pow_int_small hn hn2 ha (g.fh ⟨_,U⟩)
end
section
set_option maxHeartbeats 4000000
variable{G:Gv}{e:Env}{σ:St}
structure ZS(G:Gv)(β:AM)(σ:St)(s1:aA)(n:Nat)(F:Nat->aq->Prop)(a:Nat)(s5:aA)(fp wr:List Addr)(gg:Array GenState->Array GenState->Prop)(Pw:Nat->aq->Prop)(St:Nat->aA->Prop):Prop where
 walks:WalksS G.prog G.w G.A.in4 a fp wr gg n Pw St
 aag:∀j v,Pw j v->F j v
 start:∀k,s5.toks<=k->St 0 {s5 with toks:=k}
 low:∀b∈fp,b<s5.heap.objs.size
 self:a∈fp
 typ:∀i s,St i s->s.TypeIs (.ref a) "generator"
 base:∀b o,G.h₀.get? b=aa o->s5.heap.get? b=aa o
 fin:∀k s6,Moved wr gg {s5 with toks:=k} s6->Le β s1.heap β s6.heap/\GS G β σ s6
theorem Jg{K:Frag}{C x d k:Nat}{xs:List (Str×Str)}{i:Int}{m:List (Str×CV)}{c P:Nat}{q:Nat->Nat->Str}{mg:Str->Option aq}{xa xb:Str}{pa pb pt sp tY:Pos}{kt:Nat}{scope:jk}{elt:Expr}{F:Nat->aq->Prop}{β:AM}{env:Env}{s1:aA}{Q:aq->aA->Prop}{E:aq->aA->Prop}
  (hh:G.A.handled=none) (tT:G.A.depth<bA) (Ml:G.h₀.NoLimit) (kl:Kl K C) (X:K.In G.h₀) (zc:d8 K (.ref C) "__iter__"=aa (aa (.builtin "list.__iter__")))
  (hl:bB e (aF "self") .local=af) (hf:σ.get e.locals=aa (.frame m)) (hm:m.lookup (aF "self")=aa (.ref x)) (hx:σ.get x=aa (.bT C d (xs.map dZ))) (hd:σ.get d=aa (.size i))
  (Kc:e.globals=3) (rO:e.code=.ref c) (hC:iA G.h₀ c P) (hP:σ.get k=aa (.tab P q)) (hq:q tY.line tY.col=e.qual++"<genexpr>")
  (sv:G.h₀.Ns dk mg) (mH:G.h₀.BuiltinsAt mg P)
  (ze:scope.isCoroutine=false) (tV:nQ e scope.names []=aa []) (lO:∀y∈scope.names,y.2≠.cell) (h0:scope.names.lookup (".0":Str)=aa NameKind.local)
  (Mj:scope.names.lookup xa=aa .local) (Mi:scope.names.lookup xb=aa .local) (YG:xa≠xb) (oA:scope.kind=.function) (Ou:EI β e env) (g1:GS G β σ s1)
  (abR:∀(L:Nat)(code:aq) A' E' j x y t u ie wL,xs[j]?=aa (x,y)->(∀b o,G.h₀.get? b=aa o->ie.heap.get? b=aa o)->ie.heap.Ns (genEnv scope [] L code builtinsNs env).locals wL->wL xa=aa (.str x t)->wL xb=aa (.str y u) ->
   aH G.M A' (eval elt (genEnv scope [] L code builtinsNs env)) (λv aaA=>F j v/\∃h' Ab,aaA={ie with heap:=h',toks:=Ab}/\∀b o,ie.heap.get? b=aa o->h'.get? b=aa o) E' ie)
  (h:∀a s5 fp wr gg Pw St,ZS G β σ s1 xs.length F a s5 fp wr gg Pw St->Q (.ref a) s5):
  aH G.M G.A (eval (.GeneratorExp elt [⟨.Tuple [.Name xa pa,.Name xb pb] kt pt,.Name (aF "self") sp,[],0⟩] scope tY) env) Q E s1:=by
 obtain⟨cl0,SU,rfl⟩:=sA Ou tV;have By:env.globals=dk:=Ou.globals.trans Kc;have hl:=bB.is hl Ou;have kp:=λb o eb=>(g1.base b o eb).2;refine dH λlg eS=>?_;obtain⟨L,hL,mf,tU,hr⟩:=g1.own _ _ hf;cases hL.symm.trans Ou.loc;obtain⟨v,hv,rv⟩:=hr _ _ hm;obtain⟨ax,ab,vs,n,PS,tt,rfl,hax,I,r⟩:=g1.r7 hx hd rv;obtain⟨P',abX,rfl,ps1,ME,_⟩:=g1.own _ _ hP;obtain⟨Ts,vals,TV⟩:=yE r;obtain⟨bm,ob,b1,b2,b3,b4,b5,b6,b7,b8⟩:=mH;have dw:vs.length=xs.length:=r.length.trans (aG _);have Z9:ax≠P':=λe=>by have:=I.at_;rw[e,ME]at this;cases this
 have hTP:∀j,j<vs.length->Ts j≠P':=λj hj e=>by
  obtain⟨o,eo,ec,_⟩:=TV.tup j hj;rw[e,ME]at eo;cases eo;cases ec
 refine eS ?_;refine wpAny_GeneratorExp_walksQT (cl:=[]) hh ze SU lO h0 Mj Mi YG oA tT ?_ (λzz=>U);refine gB (dQ hl.1 hl.2 tU hv ?_) ay;refine vD (X.keeps kp) I kl.sub zc ?_;generalize hit:s1.heap.objs.size=it;have Vr:∀b o,s1.heap.get? b=aa o->(s1.heap.push {cls:=.type "list_iterator",data:=.fields #[.ref ax,.int 0 0]}).get? b=aa o:=λb o e=>aC _ e;have t2:=g1.same (h':=s1.heap.push {cls:=.type "list_iterator",data:=.fields #[.ref ax,.int 0 0]}) Vr s1.toks;have SO:(s1.heap.push {cls:=.type "list_iterator",data:=.fields #[.ref ax,.int 0 0]}).get? it=aa {cls:=.type "list_iterator",data:=.fields #[.ref ax,.int 0 0]}:=hit▸aJ _ U;have D':∀{b o},s1.heap.get? b=aa o->b<it:=λe=>hit▸bx e;have I6:it≠P':=(bL (D' ME)).symm;refine⟨Ml.keeps λb o eb=>(t2.2.base b o eb).2,?_⟩;refine CQ (Ou.code.trans rO) hC t2.2 hP (hq.trans (by rw[Ou.qual])) λcode h3 tk g3 XT k3=>?_;have EU:=λb o eb=>(g3.base b o eb).2;refine wpAny_builtinsFor (By.symm▸sv.keeps EU) b1 b2 (EU _ _ b5) b6 b7 b8 ?_;have J_:∀b o,b≠P'->s1.heap.get? b=aa o->h3.get? b=aa o:=λb o hb e=>XT b o hb (Vr b o e);have qw:h3.get? it=aa {cls:=.type "list_iterator",data:=.fields #[.ref ax,.int 0 0]}:=XT _ _ I6 SO;have Xs:∀{b},b<it->b<h3.objs.size:=λhb=>ka hb (bx qw);refine xi8 it (it::ax::(bc vs.toArray.size).map Ts) [it] vs.toArray.size _ _ _ (λzz=>af) ⟨F,U,λA' hA=>WalksU.bT hA it ax (bL (D' I.at_)) vs.toArray Ts vals (λj hj=>by rw[bH];exact TV.item j hj) (λj hj=>let⟨o,e,_⟩:=TV.tup j hj;bL (D' e)),?_,?_,?_,Ml.keeps EU,?_,?_,?_⟩
 ·exact λj v q=>q.2▸TV.two j
 ·exact⟨⟨_,qw,U,U⟩,⟨_,_,J_ _ _ Z9 I.at_,U⟩,λj hj=>let⟨o,e,rr⟩:=TV.tup j hj;⟨o,J_ _ _ (hTP j hj) e,rr⟩⟩
 ·intro b hb
  rcases List.mem_cons.mp hb with rfl|hb
  ·exact bx qw
  ·rcases List.mem_cons.mp hb with rfl|hb
   ·exact Xs (D' I.at_)
   ·obtain⟨j,hj,rfl⟩:=List.mem_map.mp hb
    exact let⟨o,e,_⟩:=TV.tup j (List.mem_range.mp hj);Xs (D' e)
 ·intro hc
  obtain⟨_,hn,_⟩:=Ml.keeps kp;exact eE _ (List.mem_singleton.mp hc▸hit▸hn.lt)
 ·refine λabF I7=>⟨λA' E' j va vb ie wL hA hP hn ha hb I_=>av ⟨U,ie.heap,ie.toks,U,λzz zz e=>e⟩,λA' E' j va vb ie wL hA YH zz hn ha hb I_=>?_⟩
  have bb:∀b o,G.h₀.get? b=aa o->ie.heap.get? b=aa o:=λb o e =>
   I_ b (List.mem_range.mpr (bx (EU _ _ e))) (λhb=>eE _ (List.mem_singleton.mp hb▸D' (kp _ _ e))) o (I7 _ _ (EU _ _ e))
  have hj:j<vs.length:=YH.1;have Uo:j<xs.length:=dw▸hj;obtain⟨t,u,ev⟩:=TV.str j hj;have ev:=congrArg Array.toList (YH.2.trans ev);injection ev with e1 ev
  injection ev with e2 _
  rw[aU,aP Uo]at e1 e2;cases e1;cases e2;exact abR _ _ A' E' j _ _ t u ie wL (aP Uo) bb hn ha hb
 ·intro a h5 tk5 gs hgs ha SI Um W X4
  have hpn:(passing (λzz=>af) vs.toArray.size 0).length=xs.length:=by
   rw[ma,dY,←dw];rfl
  rw[hpn]at W;refine h a _ _ _ _ _ _ ⟨W,?_,λk hk=>W.frame 0 _ h5 k X4 hk λzz zz zz e=>e,?_,List.mem_cons_self ..,λi s z=>z.1.typeIs,λb o e=>Um _ _ (EU b o e),λk s6 Mm=>?_⟩
  ·rintro j v ⟨j',Od,r⟩
   rw[ma]at Od;obtain⟨h1,h2⟩:=List.getElem?_eq_some_iff.mp Od;rw[jl]at h2;exact h2▸r
  ·intro b hb
   show b<h5.objs.size;rw[SI];rcases List.mem_cons.mp hb with rfl|hb
   ·exact bq _
   ·rcases List.mem_cons.mp hb with rfl|hb
    ·exact d0 ha
    ·exact d0 (ka (List.mem_range.mp hb) ha)
  ·have hold:∀b o,b≠it->h3.get? b=aa o->s6.heap.get? b=aa o:=λb o hb e=>Mm.heap b o (λI4=>(List.mem_cons.mp I4).elim (λe'=>eE _ (bx (e'▸e))) λe'=>hb (List.mem_singleton.mp e')) (Um _ _ e)
   exact yl g1 g3 (t2.1.trans k3) hP (hit▸ez _) qw (λvs t q e=>by cases e;exact λz=>by cases z) I6 J_ hold (Mm.os.trans g3.os) (AllBare.movedS (g3.bare.push hgs) Mm)
end
section
set_option maxHeartbeats 4000000
variable{G:Gv}{e:Env}{σ:St}{x y:List Nat}{l:List (List Nat×List Nat)}
noncomputable abbrev G5(l:List (List Nat×List Nat)):List (Str×Str):=l.map λq=>(tx q.1,tx q.2)
noncomputable abbrev nN(l:List (List Nat×List Nat)):List Nat:=(l.map λq=>q.1++q.2).flatten
section
variable{prog:cY}{w:cW}{A:bZ}{E:aq->aA->Prop}{s:aA}
theorem yf(l:List (List Nat)):Txt.join dy (l.map tx)=tx l.flatten:=t5 l
theorem IM:Txt.join dy [tx x,tx y]=tx (x++y):=by
 have:=yf [x,y];simpa using this
theorem Js{env: Env}{xa xb: Str}{q1 q2 q3 q4 e1 e2: Pos}{kk: Nat}{m:Str->Option aq}{x y: List Nat}{t u tk:Tok}{mg:Str->Option aq}{Q:aq->aA->Prop}(hk:env.scope.kind=.function)(hE:env.kindOf (aF "EMPTYSTRING")=aa .globalImplicit)(hg:s.heap.Ns env.globals mg)(Ur:mg (aF "EMPTYSTRING")=aa (.str dy tk))
  (Mj:env.kindOf xa=aa .local) (Mi:env.kindOf xb=aa .local) (Yt:(xa==("__debug__":Str))=false) (Yr:(xb==("__debug__":Str))=false) (hn:s.heap.Ns env.locals m) (ha:m xa=aa (.str (tx x) t)) (hb:m xb=aa (.str (tx y) u)) (hf:x.length+y.length<=1000000) (hl:(q2.endLine==q4.line)=af)
  (h:∀h' Ab t',(∀b o,s.heap.get? b=aa o->h'.get? b=aa o)->Q (.str (tx (x++y)) t') {s with heap:=h',toks:=Ab}):
  aH (ba prog w) A (eval (.Call (.Attribute (.Name (aF "EMPTYSTRING") q1) (aF "join") q2) [.Tuple [.Name xa e1,.Name xb e2] kk q3] [] q4) env) Q E s:=by
 refine fw (gB ?_ (by decide +kernel)) (q_ (λzz=>U) hl U);rw[gM hk hE];refine gx hg Ur ?_;refine getMethod_builtin (hU _ _ _) cA fu U (λb hb=>nomatch hb) ?_;refine dW (plain_any U) (c_ U (dE ?_));refine wpAny_Tuple (k:=kk) (pos:=q3) (dE (gB (dQ hk Mj hn ha (dE (gB (dQ hk Mi hn hb (eN ⟨by show 2<=bC;exact bD ay,eN ?_⟩)) Yr))) Yt));refine join_tuple (items:=#[.str (tx x) t,.str (tx y) u]) (ys:=[tx x,tx y]) ⟨_,aJ _ U,U,_,U⟩ (.cons _ _ (.cons _ _ .nil)) ?_ λt' k=>?_
 ·show(tx x).length+((tx y).length+0)+2*0<=_
  rw[cw,cw];exact au hf ay
 ·rw[IM]
  exact h _ _ _ λb o e=>aC _ e
end
theorem F8{P:Nat->aq->Prop}{l':List (Str×Tok)}(hP:∀j v,P j v->∃q u,l[j]?=aa q/\v=Value.str (tx (q.1++q.2)) u)(h:ItemsOf P (strValues l').toArray l.length):l'.map (·.1)=(l.map λq=>q.1++q.2).map tx:=by
 have hl:l'.length=l.length:=by have:=h.1;simpa[strValues]using this
 apply List.ext_getElem
 ·rw[aG,aG,aG,hl]
 ·intro j h1 h2
  rw[aG]at h1;obtain⟨q,u,e1,e2⟩:=hP j _ (h.2 j (.str l'[j].1 l'[j].2) (by simp[strValues,h1]));obtain⟨h3,e3⟩:=List.getElem?_eq_some_iff.mp e1;injection e2 with e4
  rw[iD,iD,iD,e3];exact e4
theorem CU{q: List Nat×List Nat}(h:q∈l):q.1.length+q.2.length<=(nN l).length:=by
 induction l with
 |nil=>cases h
 |cons p l ih =>
  have e:(nN (p::l)).length=p.1.length+p.2.length+(nN l).length:=by
   show((p.1++p.2)++nN l).length=_;rw[aB,aB]
  rw[e];rcases List.mem_cons.mp h with rfl|h
  ·exact bg _ _
  ·exact au (ih h) (f7 _ _)
theorem IP(ys:List (List Nat)):∀k,((ys.map tx).foldl (λa b=>a+b.length+(dy:Str).length) k)=k+ys.flatten.length:=by
 induction ys with
 |nil=>intro k;rfl
 |cons y ys ih =>
  intro k;rw[cn,List.foldl_cons,f_,aB,ih,cw,←gq];rfl
theorem Ej{K: Frag}{C x d k: Nat}{l: List (List Nat×List Nat)}{i: Int}{m: List (Str×CV)}{c P: Nat}{q:Nat->Nat->Str}{mg:Str->Option aq}{tk:Tok}{xa xb: Str}{p1 p2 pos pa pb pt sp tY q1 q2 q3 q4 e1 e2: Pos}{kt kk: Nat}{scope: jk}
  (hh:G.A.handled=none) (tT:G.A.depth<bA) (Ml:G.h₀.NoLimit) (kl:Kl K C) (X:K.In G.h₀) (zc:d8 K (.ref C) "__iter__"=aa (aa (.builtin "list.__iter__")))
  (hl:bB e (aF "self") .local=af) (hf:σ.get e.locals=aa (.frame m)) (hm:m.lookup (aF "self")=aa (.ref x)) (hx:σ.get x=aa (.bT C d ((G5 l).map dZ))) (hd:σ.get d=aa (.size i))
  (hE:bB e (aF "EMPTYSTRING") .globalImplicit=af) (Kc:e.globals=3) (rO:e.code=.ref c) (hC:iA G.h₀ c P) (hP:σ.get k=aa (.tab P q)) (hq:q tY.line tY.col=e.qual++"<genexpr>")
  (sv:G.h₀.Ns dk mg) (y':mg (aF "EMPTYSTRING")=aa (.str dy tk)) (mH:G.h₀.BuiltinsAt mg P)
  (ze:scope.isCoroutine=false) (tV:nQ e scope.names []=aa []) (lO:∀y∈scope.names,y.2≠.cell) (h0:scope.names.lookup (".0":Str)=aa NameKind.local)
  (Mj:scope.names.lookup xa=aa .local) (Mi:scope.names.lookup xb=aa .local) (YG:xa≠xb) (oA:scope.kind=.function) (hkE:scope.names.lookup (aF "EMPTYSTRING")=aa .globalImplicit)
  (Yt:(xa==("__debug__":Str))=false) (Yr:(xb==("__debug__":Str))=false) (hl1:(p2.endLine==pos.line)=af) (xW:(q2.endLine==q4.line)=af) (hn:l.length<=1000) (Us:(nN l).length<=1000000):
  a8 G e (.Call (.Attribute (.Name (aF "EMPTYSTRING") p1) (aF "join") p2) [.GeneratorExp (.Call (.Attribute (.Name (aF "EMPTYSTRING") q1) (aF "join") q2) [.Tuple [.Name xa e1,.Name xb e2] kk q3] [] q4) [⟨.Tuple [.Name xa pa,.Name xb pb] kt pt,.Name (aF "self") sp,[],0⟩] scope tY] [] pos)
   σ (.str (tx (nN l))) σ:=by
 intro α s env E ei g;have kp:=λb o eb=>(g.base b o eb).2;have By:env.globals=dk:=ei.globals.trans Kc;have hE':=bB.is hE ei;refine fw (gB ?_ (by decide +kernel)) (q_ (λzz=>U) hl1 U);rw[gM hE'.1 hE'.2];refine gx (By.symm▸sv.keeps kp) y' ?_;refine getMethod_builtin (hU _ _ _) cA fu U (λb hb=>nomatch hb) ?_;refine dW (plain_any U) (c_ U (dE ?_));refine Jg (F:=λj v=>∃q u,l[j]?=aa q/\v=.str (tx (q.1++q.2)) u) hh tT Ml kl X zc hl hf hm hx hd Kc rO hC hP hq sv mH ze tV lO h0 Mj Mi YG oA ei g (λL code A' E' j x y t u ie wL hj bb hn2 ha hb=>?_) λa s5 fp wr gg Pw St W=>?_
 ·rw[cM]at hj
  obtain⟨q,hq1,hq2⟩:=Option.map_eq_some_iff.mp hj;cases hq2;have j6:q.1.length+q.2.length<=1000000:=au (CU (List.mem_of_getElem? hq1)) Us;exact Js oA hkE (By.symm▸sv.keeps bb) y' Mj Mi Yt Yr hn2 ha hb j6 xW λh' Ab t' hk=>⟨⟨q,t',hq1,U⟩,h',Ab,U,hk⟩
 ·refine eN ?_
  have e:∀j v,Pw j v->∃q u,l[j]?=aa q/\v=Value.str (tx (q.1++q.2)) u:=W.aag;have hln:(G5 l).length=l.length:=aG _;have W':=W.walks;rw[hln]at W';refine SC.joinGen W'.in4_2 W.typ (W.start _ (aW _)) W.low W.self (λj v p=>?_) (λs' l' Mm hit=>?_) (bD (au hn ay))
  ·obtain⟨q,u,_,r⟩:=e j v p
   exact⟨_,u,r⟩
  ·have z:=F8 e hit
   rw[z,yf];refine⟨?_,λt' k'=>?_⟩
   ·unfold JoinOk eG
    rw[←Array.foldl_toList,iQ,IP,gW,Bool.not_eq_true'];exact decide_eq_false (Nat.not_lt.mpr (bD (au Us ay)))
   ·have fin:=W.fin s5.toks s' Mm
    exact⟨α,fin.1,fin.2.tok k',_,U⟩
end
section
set_option maxHeartbeats 4000000
variable{G:Gv}{σ σ1:St}{K:Frag}{C x d:Nat}{xs:List CV}
theorem KX{f:Nat}{i:Int}{y:Str}(X:K.In G.h₀)(hu:G.A.units+2<cLine)(hf:d8 K (.ref C) (aF "__str__")=aa (aa (.ref f)))(ht:jm K (.ref f)=aa (.type "function"))
  (hx:σ.get x=aa (.bT C d xs)) (hd:σ.get d=aa (.size i)) (h:bM (om (om G)) (λvs=>call (.ref f) vs) [.ref x] σ (.str y) σ1):bM G (λvs=>call (.type "str") vs) [.ref x] σ (.str y) σ1:=by
 intro α s _ E g pX;refine f5 (pX) λv zz mV r nW=>?_;obtain rfl:=mV;obtain rfl:=nW;obtain⟨a,b,vs,k,tk,tt,rfl,ha,I,q⟩:=g.r7 hx hd r;have X1:K.In s.heap:=X.keeps λb o eb=>(g.base b o eb).2;have L:eF G.M s.heap (specialOf (.ref a) "__str__") (aa (.ref f)):=I.type.andThen (dv X1 hf);have Lb:=bind_fn (M:=G.M) X1 (.ref a) ht;refine callType_newIn (S:=λA' R s'=>aH G.M A'.in1 (Builtin.Str.strOf (.ref a)) (λr xS=>R (.ok (.ret r)) xS) (λe xS=>R (.error e) xS) s') PySem.F.called_str ay (PySem.F.typeCall_str_1 _) (PySem.F.newCall_str_1 _) (λZ2=>PySem.F.args_object_init_2 Z2 _) PySem.F.entry_str_new
  (.of_wp λA R s h=>?_) ?_
 ·rw[str_new_tree]
  refine ae (av ?_);refine ae (cH isSubtype_str_str ?_);exact ae (dz h (λr s' h'=>av ⟨_,U,h'⟩) λzz zz e=>e)
 ·unfold Builtin.Str.strOf
  rw[if_neg (show ¬(Builtin.Str.isExactStr (.ref a)=af)from aN)];refine ae (wpAny_cRoomFor hu ?_);refine ae (m:=callSpecial? (.ref a) (aF "__str__")) ?_;unfold callSpecial?;refine ae (L.here ?_);dsimp only;refine aQ (ae (Lb.here ?_));refine ae (iI (h α s [.ref a] _ g.in1.in1 ⟨_,_,U,⟨a,U,ha⟩,U⟩) λβ vq s1 x1 g1 rq=>?_);obtain⟨t,rfl⟩:=rq;refine av ?_;refine ae (av ?_);rw[if_neg (by exact aN)];exact av ⟨hU _ _ _,(g1.Vt.Vt.here ⟨t,U⟩).trans x1⟩
end
section
variable{G:Gv}{e:Env}{σ σ1 σ2 σ3:St}{a b c d:CV}{cs:List CV}
theorem Ord.ZW{fs}{t: Expr}(h:cU G e t c σ σ1)(k:Ord G e fs cs σ1 σ2):Ord G e (λenv=>assign t env::fs env) (c::cs) σ σ2:=
 Ord.aZ (f1:=λenv v=>assign t env v) h k
theorem cU.sub{o i: Expr}{pos: Pos}(h1:a8 G e o σ a σ1)(h2:a8 G e i σ1 b σ2)(h3:pP G a b c σ2 σ3):cU G e (.Subscript o i pos) c σ σ3:=by
 intro α s env E v ei g r;rw[assign_Subscript];refine ae (aQ (iI (h1 α s env E ei g) λβ va s1 x1 g1 r1=>?_));refine ae (aQ (iI (h2 β s1 env E (ei.mono x1) g1) λγ vb s2 x2 g2 r2=>?_));refine ae (de (ae (aQ (E1 (h3 γ s2 E va vb v g2 (r1.mono x2) r2 ((r.mono x1).mono x2)) λδ s3 x3 g3=>?_))));exact wpAny_release' ⟨δ,(x1.trans x2).trans x3,g3,aE⟩
theorem rD{k: Nat}{xs: List Str}{y: Str}(e:σ.get k=aa (.list (xs.map .str))):bN G (bS .In) (.str y) (.ref k) σ (.bool (xs.any (·==y))) σ:=by
 intro α s _ v E g w r;obtain⟨t,rfl⟩:=w;obtain⟨a,vs,n,rfl,_,eh,q,sz⟩:=g.getL e r;exact in_list_strs (vs:=vs) ⟨_,eh,U,_,U⟩ (AJ q) (g.here U)
theorem SK.QO{τ1: St}{xs ys: List (Str×Str)}{f:List aq->List aq->Sem aq}{cs0: List CV}{c0: CV}{x d t P C: Nat}{k: Int}{q:Nat->Nat->Str}(hx:σ.get x=aa (.bT C d (xs.map dZ)))(hd:σ.get d=aa (.size k))(ht:σ.get t=aa (.tab P q))
  (spec:∀h₀,(∀b o,G.h₀.get? b=aa o->h₀.get? b=aa o)->SK (ext G h₀) f cs0 [] (sC C P q k xs) c0 τ1) (e0:τ1.get 0=aa (.bT C 1 (ys.map dZ))) (e1:τ1.get 1=aa (.size k)) (e2:τ1.get 2=aa (.tab P q))
  (r6:cs=cK (λj=>eI (d6 [(x,0),(d,1),(t,2)]) j σ.n) cs0) (Mq:∀r,ny r c0=c0):SK G f cs [] σ c0 (σ.set x (.bT C d (ys.map dZ))):=by
 intro α s vs ws E gs;have b0:=gs.below hx;have b1:=gs.below hd;have b2:=gs.below ht;have ne:∀{i j ao ao'},σ.get i=aa ao->σ.get j=aa ao'->ao≠ao'->br j i=false:=λ{i j ao ao'} e e' n=>oR λq=>n (by rw[q,e]at e';cases e';rfl);have Sh:=ne hx hd (by intro q;cases q);have Xo:=ne hx ht (by intro q;cases q);have n21:=ne hd ht (by intro q;cases q);have r1:∀z,eI [(x,0),(d,1),(t,2)] d z=1:=λz=>by
  show(match br d x with|true=>_|false=>match br d d with|true=>_|false=>_)=_;rw[Sh,cD]
 have gt:∀{k ao},br k x=false->σ.get k=aa ao->(σ.set x (.bT C d (ys.map dZ))).get k=aa ao:=λ{k ao} n e=>by
  show dh (lU σ.objs x _) k=_;rw[fi,if_neg λq=>by rw[q,cD]at n;cases n];exact e
 refine SK.m7 (σ':=σ.set x (.bT C d (ys.map dZ))) (τ0:=sC C P q k xs) (τ1:=τ1) (l:=[(x,0),(d,1),(t,2)]) (ks0:=[]) ?_ ?_ ?_ ⟨⟨_,ht,U⟩,⟨_,hd,U⟩,⟨_,hx,?_⟩,aE⟩ U (lM (.head _))
  ⟨⟨.bT C d (ys.map dZ),_,?_,e0,?_⟩,⟨_,_,gt Sh hd,e1,U⟩,⟨_,_,gt Xo ht,e2,U⟩,aE⟩ spec r6 U (Mq _).symm α s vs ws E gs
 ·simp[ik,d6,Sh,Xo,n21]
 ·simp only[List.all,b0,b1,b2];rfl
 ·simp only[ik,List.all,b0,b1,b2];rfl
 ·show AO.bT C d _=AO.bT C _ (cK _ (xs.map dZ))
  rw[kH];rfl
 ·show dh (lU σ.objs x _) x=_
  have h:dh σ.objs x=aa (.bT C d (xs.map dZ)):=hx;rw[fi,if_pos U,h];rfl
 ·show AO.bT C 1 _=AO.bT C (eI [(x,0),(d,1),(t,2)] d τ1.n) (cK _ (ys.map dZ))
  rw[kH,r1]
end
section
variable{G:Gv}{σ τ1:St}{cs:List CV}{ao:AO}{k0:Nat}{f:List aq->List aq->Sem aq}
theorem SK.tH(spec:∀h₀,(∀b o,G.h₀.get? b=aa o->h₀.get? b=aa o)->SK (ext G h₀) f cs [] ⟨[],0⟩ (.ref k0) τ1)(e:τ1.get k0=aa ao)(ho:∀r,jt r ao ao)(r6:∀r,cK r cs=cs):SK G f cs [] σ (.ref σ.n) (σ.push ao):=by
 have r0:∀d,eI [(σ.n,k0)] σ.n d=k0:=λd=>by
  show(match br σ.n σ.n with|true=>k0|false=>_)=_;rw[cD]
 have b1:cf σ.n (σ.n+1)=af:=Nat.blt_eq.mpr (bq _);exact SK.rC (τ0:=⟨[],0⟩) (news:=[(σ.n,ao)]) (n':=σ.n+1) (c:=.ref σ.n) (ks0:=[]) [] [(σ.n,k0)] U U (by simp[ik,b1]) (by simp) (Nat.ble_eq.mpr (cm _)) aE aE ⟨⟨ao,by show τ1.get (eI [(σ.n,k0)] σ.n _)=_;rw[r0];exact e,ho _⟩,aE⟩ spec (r6 _).symm U (congrArg CV.ref (r0 _).symm)
end
section
open PyProof
variable{G:Gv}{e:Env}{σ σ1 σ2 σ3:St}{cs Uj:List CV}{ks:List Nat}{m:Nat}{msg x:Str}{p pos:Pos}{names:List Str}{fd:cO}{a:Nat}
def iz(G:Gv)(msg:Str)(ks:List Nat)(f:List aq->List aq->Sem aq)(cs Uj:List CV)(σ σ':St):Prop:=∀α s vs ws l Q E,GS G α σ s->di α s.heap cs vs->di α s.heap Uj ws->G.A.frames=aa l->xZ α ks l ->
 (∀β s2 x h,Le α s.heap β s2.heap->GS G β σ' s2->z9 msg β σ' s2 l x h->E (.ref x) {s2 with heap:=h})->aH G.M G.A (f vs ws) Q E s
theorem iz.entry{body: List Stmt}{rb: List (Str×CV)}(room:G.A.depth<bA)(D:eZ G a fd)(gV:G.h₀.NoLimit)(xg:G.h₀.CodeRec fd.code fd.qualname)(zf:fd.body=.stmts body)
  (kM:∀α s vs ws,GS G α σ s->di α s.heap cs vs->di α s.heap Uj ws->∃dn,bW s fd ⟨vs,names.zip ws⟩ dn/\dn.reverse.map (·.1)=rb.map (·.1)/\di α s.heap (rb.map (·.2)) (dn.reverse.map (·.2)))
  (lO:(fd.scope.names.all λx=>x.2 != .cell)=af) (hk:(rb.all λp=>fd.scope.names.lookup p.1==aa .local)=af) (hm:σ.n<=m)
  (h:∀env,pQ (deep G env) msg m (entryE fd [] σ.n a) ks body (σ.push (.frame rb)) σ2)
  (ze:fd.scope.isCoroutine=false) (Bx:fd.scope.isGenerator=false) (Ul:fd.scope.kind=.function):iz G msg ks (λvs ws=>call (.ref a) vs (names.zip ws)) cs Uj σ σ2:=by
 intro α s vs ws l Q E g r rk xf hr hE;refine aR (D) λo ho hd=>?_;refine nJ (kM α s vs ws g r rk) λdn hb he hv=>?_;have kp:=λb o eb=>(g.base b o eb).2;refine gA (codeAny_call_def room (kp _ _ ho) hd (gV.keeps kp) (xg.keeps kp) zf hb (λx hx q=>?_) (λx hx=>?_) (λh1 tU Un=>?_) ze Bx Ul)
 ·have:=List.all_eq_true.mp lO x hx
  rw[q]at this;cases this
 ·have:x.1∈rb.map (·.1):=he▸List.mem_map.mpr ⟨x,List.mem_reverse.mpr hx,U⟩
  refine aR (List.mem_map.mp this) λy hy e=>?_;rw[←e];exact beq_iff_eq.mp (List.all_eq_true.mp hk y hy)
 ·have t:=g.more (h':=h1) (ao:=.frame rb) Un (ez _) (λle=>⟨_,tU,λy c hy=>by obtain⟨v,SH,r⟩:=(di.lookup (x:=y) he hv).2 c hy;exact⟨v,SH,r.mono le⟩⟩) (s.toks+dn.length)
  have ei:EI (α.add σ.n s.heap.objs.size) (entryE fd [] σ.n a) (callEnv fd s.heap.objs.size a):=⟨AM.fQ _ _ _,λx k e=>(nomatch e),U,U,U,U,U⟩;refine h (callEnv fd s.heap.objs.size a) _ _ _ l _ _ ei (t.2.deep _) (Around.frames_deeper xf) ⟨_,l,_,U,Ul,U,AM.fQ _ _ _,hr.mono λk zz a ha=>t.1.le k aE a ha⟩ ?_;intro β s2 v s' x2 g2 w;refine aR w λx w1 hl=>?_;obtain rfl:=w1;refine hl _ _ _ λh2 fl=>hE β s2 x h2 (rm.trans' t.1 x2 λk b zz e=>x2.le k (aM ?_ hm) b (t.1.le k aE b e)) g2.v7 fl;cases kh k σ.n with
  |inl q=>exact q
  |inr q=>rw[g.new k q]at e;cases e
theorem uv.Ox{args: List Expr}{qp:List Keyword}(D:eZ G a fd)(hf:a8 G e (.Name x p) σ (.val (.ref a)) σ)(h:jK G e pos args σ cs σ1)(hk:l5 G e pos qp names σ1 Uj σ2)(k:iz G msg ks (λvs ws=>PySem.call (.ref a) vs (names.zip ws)) cs Uj σ2 σ3):
  uv G msg e ks (.Call (.Name x p) args qp pos) σ σ3:=by
 refine aR (D) λo ho hd=>?_;intro α s env l Q E i g xf hr hE;refine wpAny_Call_Name_kw (J9 (hf α s env E i g) λβ s1 l1 g1=>?_);refine callWith_function_kw (o:=o) (fd:=fd) (nF h.1 (hk.1 env).1 (iI (h.2 β s1 env E (i.mono l1) g1) λγ vs s2 l2 g2 r2=>?_));refine iI (hk.2 γ s2 env E ((i.mono l1).mono l2) g2) λδ ws s3 l3 g3 r3=>?_;rw[(hk.1 env).2];have l13:=(l1.trans l2).trans l3;exact⟨⟨(g3.base _ _ ho).2,hd⟩,k δ s3 vs ws (env::l) _ E g3 (r2.mono l3) r3 xf (hr.le l13) λε s4 y h l4 g4 fl=>hE ε s4 y h (l13.trans l4) g4 fl⟩
end
end Mine.Internal
section
set_option linter.all false
namespace Mine.Internal.P
variable{n s x y:Int}{a:Nat}
abbrev T4:Type:=Int×Int×Int×Int
noncomputable abbrev v0:T4:=(0,0,1,0)
noncomputable def stepT(v:T4)(a:Nat):T4:=
 let E2:Int:=if a=102∨a=105 then 1 else -1
 if a=105∨a=73 then(v.1,v.2.1,v.2.2.1-E2*v.2.1,v.2.2.2+E2)
 else if v.2.1+E2*v.2.2.1<0∨(v.2.1+E2*v.2.2.1=0/\v.2.2.1<0)then(v.1-E2,-(v.2.1+E2*v.2.2.1),-v.2.2.1,v.2.2.2+E2)
 else(v.1,v.2.1+E2*v.2.2.1,v.2.2.1,v.2.2.2+E2)
noncomputable def act(w:List Nat)(v:T4):T4:=w.foldr (λa v=>stepT v a) v
noncomputable def dN(w:List Nat):T4:=act w v0
def Ok(v:T4):Prop:=0<v.2.1∨(v.2.1=0/\0<v.2.2.1)
def Lt(a:Nat):Prop:=a=102∨a=70∨a=105∨a=73
noncomputable def inv(a:Nat):Nat:=if a=102 then 70 else if a=70 then 102 else if a=105 then 73 else 105
theorem DJ(s x y n:Int):stepT (s,x,y,n) 102=if x+y<0∨(x+y=0/\y<0)then(s-1,-(x+y),-y,n+1)else(s,x+y,y,n+1):=by
 show(if x+1*y<0∨(x+1*y=0/\y<0)then(s-1,-(x+1*y),-y,n+1)else(s,x+1*y,y,n+1))=_;rw[Int.one_mul]
theorem Gl(s x y n:Int):stepT (s,x,y,n) 70=if x-y<0∨(x-y=0/\y<0)then(s+1,-(x-y),-y,n-1)else(s,x-y,y,n-1):=by
 show(if x+-1*y<0∨(x+-1*y=0/\y<0)then(s - -1,-(x+-1*y),-y,n+-1)else(s,x+-1*y,y,n+-1))=_;rw[Int.neg_one_mul,←mN,Int.sub_neg,←mN]
theorem mB(s x y n:Int):stepT (s,x,y,n) 105=(s,x,y-x,n+1):=by
 show(s,x,y-1*x,n+1)=_;rw[Int.one_mul]
theorem AK(s x y n:Int):stepT (s,x,y,n) 73=(s,x,y+x,n-1):=by
 show(s,x,y - -1*x,n+-1)=_;rw[Int.neg_one_mul,Int.sub_neg,←mN]
theorem fH{v:T4}(o:Ok v)(h:Lt a):Ok (stepT v a):=by
 obtain⟨s,x,y,n⟩:=v;simp only[Ok]at o;rcases h with rfl|rfl|rfl|rfl
 ·rw[DJ];split<;>simp only[Ok]<;>lia
 ·rw[Gl];split<;>simp only[Ok]<;>lia
 ·rw[mB];simp only[Ok];lia
 ·rw[AK];simp only[Ok];lia
theorem eO{v:T4}(o:Ok v)(h:Lt a):stepT (stepT v a) (inv a)=v:=by
 obtain⟨s,x,y,n⟩:=v;simp only[Ok]at o;rcases h with rfl|rfl|rfl|rfl
 ·show stepT _ 70=_
  rw[DJ];split<;>rw[Gl]<;>split<;>simp only[gP]<;>lia
 ·show stepT _ 102=_
  rw[Gl];split<;>rw[DJ]<;>split<;>simp only[gP]<;>lia
 ·show stepT _ 73=_
  rw[mB,AK];simp only[gP];lia
 ·show stepT _ 105=_
  rw[AK,mB];simp only[gP];lia
theorem ph(h:x+y<0∨(x+y=0/\y<0)):stepT (s,x,y,n) 102=(s-1,-(x+y),-y,n+1):=(DJ s x y n).trans (if_pos h)
theorem nZ(h:¬(x+y<0∨(x+y=0/\y<0))):stepT (s,x,y,n) 102=(s,x+y,y,n+1):=(DJ s x y n).trans (if_neg h)
theorem JI{v:T4}(o:Ok v):stepT (stepT (stepT v 102) 105) 102=stepT (stepT (stepT v 105) 102) 105:=by
 obtain⟨s,x,y,n⟩:=v;simp only[Ok]at o;have e2:x+(y-x)=y:=by lia
 by_cases h1:x+y<0∨(x+y=0/\y<0)
 ·have e1:-(x+y)+(-y - -(x+y))=-y:=by lia
  rw[ph h1,mB,nZ (by rw[e1];lia),mB s,ph (by rw[e2];lia),mB,e1,e2];simp only[gP];lia
 ·have e1:x+y+(y-(x+y))=y:=by lia
  by_cases h2:y<0∨(y=0/\y-x<0)
  ·rw[nZ h1,mB,ph (by rw[e1];lia),mB s,ph (by rw[e2];exact h2),mB,e1,e2]
   simp only[gP];lia
  ·rw[nZ h1,mB,nZ (by rw[e1];lia),mB s,nZ (by rw[e2];exact h2),mB,e1,e2]
   simp only[gP];lia
end Mine.Internal.P
end
section
set_option linter.all false
namespace Mine.Internal.P
variable{w:List Nat}{a:Nat}{p q x y:Int}
noncomputable def dt(u v:T4):Int:=v.2.1*u.2.2.1-u.2.1*v.2.2.1
def Dl(u v:T4):Prop:=v.1<u.1∨(u.1=v.1/\0<dt u v)
def De(u v:T4):Prop:=u.1=v.1/\dt u v=0
def Ng(x y:Int):Prop:=x+y<0∨(x+y=0/\y<0)
theorem C6(ou:0<x∨(x=0/\0<y))(ov:0<p∨(p=0/\0<q))(cu:Ng x y)(cv:¬Ng p q):p*y<x*q:=by
 unfold Ng at cu cv;have h1:0<x:=by lia
 have h2:y<=-x:=by lia
 have h3:0<=p:=by lia
 have h4:-p<q:=by lia
 have a:=Int.mul_le_mul_of_nonneg_left h2 h3;have b:=Int.mul_lt_mul_of_pos_left h4 h1;rw[Int.mul_neg,iP p x,←Int.mul_neg]at a;exact Int.lt_of_le_of_lt a b
theorem ab6(s x y n t p q m:Int):dt (stepT (s,x,y,n) 105) (stepT (t,p,q,m) 105)=p*y-x*q:=by
 rw[mB,mB];show p*(y-x)-x*(q-p)=_;rw[Int.mul_sub,Int.mul_sub,iP p x];lia
theorem Y8(x y p q:Int):(p+q)*y-(x+y)*q=p*y-x*q:=by
 rw[Int.add_mul,Int.add_mul,iP q y];lia
theorem S_{s n t m: Int}(ou:Ok (s,x,y,n))(ov:Ok (t,p,q,m)):(Dl (s,x,y,n) (t,p,q,m)->Dl (stepT (s,x,y,n) 102) (stepT (t,p,q,m) 102))/\(De (s,x,y,n) (t,p,q,m)->De (stepT (s,x,y,n) 102) (stepT (t,p,q,m) 102)):=by
 have z:=Y8 x y p q;by_cases cu:Ng x y
 ·by_cases cv:Ng p q
  ·rw[ph cu,ph cv]
   simp only[Dl,De,dt,Int.neg_mul_neg,z];exact⟨λh=>by lia,λh=>by lia⟩
  ·rw[ph cu,nZ cv]
   have k:=C6 ou ov cu cv;simp only[Dl,De,dt,Int.mul_neg,Int.neg_mul];exact⟨λh=>by lia,λh=>by lia⟩
 ·by_cases cv:Ng p q
  ·rw[nZ cu,ph cv]
   have k:=C6 ov ou cv cu;rw[iP x q,iP p y]at z;simp only[Dl,De,dt,Int.mul_neg,Int.neg_mul];exact⟨λh=>by lia,λh=>by lia⟩
  ·rw[nZ cu,nZ cv]
   simp only[Dl,De,dt,z];exact⟨λh=>by lia,λh=>by lia⟩
theorem SA{u v:T4}:(Dl u v->Dl (stepT u 105) (stepT v 105))/\(De u v->De (stepT u 105) (stepT v 105)):=by
 obtain⟨s,x,y,n⟩:=u;obtain⟨t,p,q,m⟩:=v;have z:=ab6 s x y n t p q m;rw[mB,mB]at z ⊢
 constructor
 ·rintro(h|⟨h1,h2⟩)
  ·exact .inl h
  ·exact .inr ⟨h1,z▸h2⟩
 ·rintro⟨h1,h2⟩
  exact⟨h1,z.trans h2⟩
theorem qy(u v:T4):dt v u=-dt u v:=by
 unfold dt;rw[Int.neg_sub,iP,iP v.2.1]
theorem BH(u v:T4):Dl u v∨De u v∨Dl v u:=by
 have:=qy u v;unfold Dl De;lia
theorem Ju{u v:T4}(h:Dl u v):¬(De u v∨Dl v u):=by
 have:=qy u v;unfold Dl De at *;lia
theorem Jz{u v:T4}(h:De u v):¬(Dl u v∨Dl v u):=by
 have:=qy u v;unfold Dl De at *;lia
theorem xw{u v:T4}(h:De u v):De v u:=by
 have:=qy u v;unfold De at *;lia
theorem ti(h:a=102∨a=105){u v:T4}(ou:Ok u)(ov:Ok v):(Dl u v->Dl (stepT u a) (stepT v a))/\(De u v->De (stepT u a) (stepT v a)):=by
 rcases h with rfl|rfl
 ·exact S_ ou ov
 ·exact SA
theorem DH(h:Lt a){u v:T4}(ou:Ok u)(ov:Ok v):(Dl u v->Dl (stepT u a) (stepT v a))/\(De u v->De (stepT u a) (stepT v a)):=by
 by_cases p:a=102∨a=105
 ·exact ti p ou ov
 ·have hi:inv a=102∨inv a=105:=by rcases h with rfl|rfl|rfl|rfl<;>simp[inv]at p ⊢
  have ku:=fH ou h;have kv:=fH ov h;have b1:=ti hi ku kv;have b2:=ti hi kv ku;rw[eO ou h,eO ov h]at b1;rw[eO ou h,eO ov h]at b2
  constructor
  ·intro d
   rcases BH (stepT u a) (stepT v a)with e|e|e
   ·exact e
   ·exact absurd (.inl (b1.2 e)) (Ju d)
   ·exact absurd (.inr (b2.1 e)) (Ju d)
  ·intro d
   rcases BH (stepT u a) (stepT v a)with e|e|e
   ·exact absurd (.inl (b1.1 e)) (Jz d)
   ·exact e
   ·exact absurd (.inr (b2.1 e)) (Jz d)
def Wd(w:List Nat):Prop:=∀a∈w,Lt a
theorem oU(a:Nat)(w:List Nat)(v:T4):act (a::w) v=stepT (act w v) a:=rfl
theorem ft(w w':List Nat)(v:T4):act (w++w') v=act w (act w' v):=by
 unfold act;rw[List.foldr_append]
theorem iw(hw:Wd w){v:T4}(o:Ok v):Ok (act w v):=by
 induction w with
 |nil=>exact o
 |cons a w ih=>exact fH (ih λb hb=>hw b (.tail _ hb)) (hw a (.head _))
theorem zX(hw:Wd w){u v:T4}(ou:Ok u)(ov:Ok v):(Dl u v->Dl (act w u) (act w v))/\(De u v->De (act w u) (act w v)):=by
 induction w with
 |nil=>exact⟨id,id⟩
 |cons a w ih =>
  have Kb:Wd w:=λb hb=>hw b (.tail _ hb);have b:=DH (hw a (.head _)) (iw Kb ou) (iw Kb ov);exact⟨λh=>b.1 ((ih Kb).1 h),λh=>b.2 ((ih Kb).2 h)⟩
noncomputable def tl(a:Nat):Int:=if a=102∨a=105 then 1 else -1
theorem Qc(v:T4)(a:Nat):(stepT v a).2.2.2=v.2.2.2+tl a:=by
 unfold stepT tl;generalize (if a=102∨a=105 then(1:Int)else -1)=E2;dsimp only;by_cases h:a=105∨a=73
 ·rw[if_pos h]
 ·rw[if_neg h]
  by_cases k:v.2.1+E2*v.2.2.1<0∨v.2.1+E2*v.2.2.1=0/\v.2.2.1<0
  ·rw[if_pos k]
  ·rw[if_neg k]
noncomputable def VB(w:List Nat):Int:=(w.map tl).sum
theorem zW(w:List Nat)(v:T4):(act w v).2.2.2=v.2.2.2+VB w:=by
 induction w with
 |nil=>exact(Int.add_zero _).symm
 |cons a w ih =>
  rw[oU,Qc,ih];show _=_+(tl a+VB w);rw[Int.add_assoc,Int.add_comm (VB w)]
noncomputable def nU(u v:T4):Int:=if u.1-v.1≠0 then u.1-v.1 else if dt u v≠0 then dt u v else v.2.2.2-u.2.2.2
noncomputable def sg(i:Int):Int:=if i>0 then 1 else if i<0 then -1 else 0
def Gt(u v:T4):Prop:=Dl u v∨(De u v/\u.2.2.2<v.2.2.2)
def Ge(u v:T4):Prop:=De u v/\u.2.2.2=v.2.2.2
theorem nL{u v:T4}(h:Gt u v):sg (nU u v)=1:=by
 have:0<nU u v:=by
  unfold Gt Dl De at h;unfold nU
  split
  ·lia
  ·split<;>lia
 exact if_pos this
theorem nK{u v:T4}(h:Gt v u):sg (nU u v)=-1:=by
 have:nU u v<0:=by
  have:=qy u v;unfold Gt Dl De at h;unfold nU
  split
  ·lia
  ·split<;>lia
 exact(if_neg (Int.not_lt.mpr (d4 this))).trans (if_pos this)
theorem rA{u v:T4}(h:Ge u v):sg (nU u v)=0:=by
 have:nU u v=0:=by
  unfold Ge De at h;unfold nU;rw[if_neg (by lia),if_neg (by lia)];lia
 rw[this];rfl
theorem tX(u v:T4):Gt u v∨Ge u v∨Gt v u:=by
 unfold Gt Ge;rcases BH u v with h|h|h
 ·exact .inl (.inl h)
 ·rcases Int.lt_trichotomy u.2.2.2 v.2.2.2 with k|k|k
  ·exact .inl (.inr ⟨h,k⟩)
  ·exact .inr (.inl ⟨h,k⟩)
  ·exact .inr (.inr (.inr ⟨xw h,k⟩))
 ·exact .inr (.inr (.inl h))
theorem xJ(hw:Wd w){u v:T4}(ou:Ok u)(ov:Ok v)(h:Gt u v):Gt (act w u) (act w v):=by
 have b:=zX hw ou ov;rcases h with h|⟨h,k⟩
 ·exact .inl (b.1 h)
 ·refine .inr ⟨b.2 h,?_⟩
  rw[zW,zW];exact Int.add_lt_add_right k _
theorem TX(hw:Wd w){u v:T4}(ou:Ok u)(ov:Ok v)(h:Ge u v):Ge (act w u) (act w v):=by
 refine⟨(zX hw ou ov).2 h.1,?_⟩;rw[zW,zW,h.2]
theorem uX(y:Int):0<=y*y:=by
 rcases Int.le_total 0 y with h|h
 ·exact Int.mul_nonneg h h
 ·exact Int.neg_mul_neg y y▸Int.mul_nonneg (Int.neg_nonneg_of_nonpos h) (Int.neg_nonneg_of_nonpos h)
theorem GX(h:a=102∨a=105){v:T4}(o:Ok v):Gt v (stepT v a):=by
 obtain⟨s,x,y,n⟩:=v;rcases h with rfl|rfl
 ·by_cases c:Ng x y
  ·rw[ph c];exact .inl (.inl (Int.sub_lt_self s ay))
  ·rw[nZ c]
   have:dt (s,x,y,n) (s,x+y,y,n+1)=y*y:=by
    show(x+y)*y-x*y=y*y;rw[Int.add_mul];lia
   rcases Int.lt_or_eq_of_le (show 0<=y*y from uX y)with k|k
   ·exact .inl (.inr ⟨U,this.symm▸k⟩)
   ·exact .inr ⟨⟨U,this.trans k.symm⟩,Int.lt_succ n⟩
 ·rw[mB]
  have:dt (s,x,y,n) (s,x,y-x,n+1)=x*x:=by
   show x*y-x*(y-x)=x*x;rw[Int.mul_sub];lia
  rcases Int.lt_or_eq_of_le (show 0<=x*x from uX x)with k|k
  ·exact .inl (.inr ⟨U,this.symm▸k⟩)
  ·exact .inr ⟨⟨U,this.trans k.symm⟩,Int.lt_succ n⟩
theorem Sf(h:a=70∨a=73){v:T4}(o:Ok v):Gt (stepT v a) v:=by
 have hl:Lt a:=h.elim (λe=>.inr (.inl e)) λe=>.inr (.inr (.inr e));have k:=GX (a:=inv a) (by rcases h with rfl|rfl<;>simp[inv]) (fH o hl)
 rwa [eO o hl]at k
end Mine.Internal.P
end
section
set_option linter.all false
namespace Mine.Internal.P
abbrev RS:Type:=List Nat×List Nat×List (List Nat×List Nat)
noncomputable def near(a:Nat):Nat:=if a=102 then 105 else 73
noncomputable def wM(trail:List Nat):Nat:=if trail.take 1=[105]then 102 else 70
noncomputable def fresh(a:Nat)(trail:List Nat):List Nat:=if trail=[]then []else near a::(aw trail.length (wM trail)++[inv (near a)])
noncomputable def blank(trail:List Nat)(a:Nat):List Nat:=if trail.drop (trail.length-1)=[inv a]then trail.take (trail.length-1)else trail++[a]
noncomputable def df:RS->RS
 |(trail,[],bT)=>(trail,[],bT)
 |(trail,a::w,bT) =>
  if a=105∨a=73 then(blank trail a,w,bT)
  else if(bT.headD ([],[])).2=[inv a]then((bT.headD ([],[])).1,fresh a trail++w,bT.tail)
  else([],w,(trail,[a])::((if bT.headD ([],[])=([],[])then []else [bT.headD ([],[])])++bT.tail))
noncomputable def rp(c:Nat):Int->List Nat
 |.ofNat n=>aw n (near c)
 |.negSucc n=>aw (n+1) (inv (near c))
def Fl(c:Nat):Prop:=c=102∨c=70
noncomputable abbrev pl(c s:Nat)(P:List Int):List (List Nat×List Nat):=P.map λt=>(rp c t,[s])
theorem Cs{n a b:Nat}(h:a≠b):(aw n a).drop ((aw n a).length-1)≠[b]:=by
 rw[cg,List.drop_replicate];cases n with
 |zero=>exact λq=>by cases q
 |succ n =>
  intro q;rw[Nat.add_sub_cancel,nV]at q;exact h (jY q).1
theorem wj(n a:Nat):(aw (n+1) a).drop ((aw (n+1) a).length-1)=[a]:=by
 rw[cg,List.drop_replicate,Nat.add_sub_cancel,nV];rfl
theorem wi(n a:Nat):(aw (n+1) a).take ((aw (n+1) a).length-1)=aw n a:=by
 rw[cg,List.take_replicate,Nat.add_sub_cancel,Nat.min_eq_left (cm n)]
variable{c:Nat}{P:List Int}{t:Int}{w:List Nat}{p:List (List Nat×List Nat)}{n s:Nat}
theorem sq(h:Fl c):(near c=105∨near c=73)/\(inv (near c)=105∨inv (near c)=73)/\inv (inv (near c))=near c/\near c≠inv (near c):=by
 rcases h with rfl|rfl<;>decide
theorem we(h:Fl c):df (rp c t,near c::w,p)=(rp c (t+1),w,p):=by
 have q:=sq h;refine(if_pos q.1).trans (congrArg (·,w,p) ?_);cases t with
 |ofNat n=>exact(if_neg (Cs q.2.2.2)).trans List.replicate_succ'.symm
 |negSucc n =>
  refine(if_pos (wj n (inv (near c)))).trans ((wi _ _).trans ?_);cases n with
  |zero=>rfl
  |succ n=>rfl
theorem sX(h:Fl c):df (rp c t,inv (near c)::w,p)=(rp c (t-1),w,p):=by
 have q:=sq h;refine(if_pos q.2.1).trans (congrArg (·,w,p) ?_);unfold blank;rw[q.2.2.1];cases t with
 |ofNat n =>
  cases n with
  |zero=>exact if_neg λe=>by cases e
  |succ n =>
   refine(if_pos (wj n (near c))).trans ((wi _ _).trans ?_);show _=rp c (((n+1:Nat):Int)-1);rw[Int.natCast_succ,Int.add_sub_cancel];rfl
 |negSucc n=>exact(if_neg (Cs (Ne.symm q.2.2.2))).trans List.replicate_succ'.symm
theorem BB(h:Fl c):¬(c=105∨c=73)/\¬(inv c=105∨inv c=73)/\inv (inv c)=c/\c≠inv c:=by
 rcases h with rfl|rfl<;>decide
theorem qc(h:Fl s):df (rp c t,s::w,pl c s P)=(rp c 0,w,pl c s (t::P)):=by
 have q:=BB h;show(if _ then _ else _)=_;rw[if_neg q.1];cases P with
 |nil =>
  show(if([]:List Nat)=[inv s]then _ else _)=_;rw[if_neg (λe=>by cases e)];rfl
 |cons u P =>
  show(if [s]=[inv s]then _ else _)=_;rw[if_neg λe=>q.2.2.2 (jY e).1];show([],w,(rp c t,[s])::((if(rp c u,[s])=([],[])then _ else _)++_))=_;rw[if_neg λe=>by have:=congrArg Prod.snd e;cases this];rfl
theorem Gk(h:Fl s):df (rp c t,s::w,[])=(rp c 0,w,pl c s [t]):=qc (P:=[]) h
theorem Ci(h:Fl c){u: Int}{s: List Nat}:df (s,c::w,pl c (inv c) (u::P))=(rp c u,fresh c s++w,pl c (inv c) P):=by
 have q:=BB h;show(if _ then _ else _)=_;rw[if_neg q.1];show(if [inv c]=[inv c]then _ else _)=_;rw[if_pos U];rfl
theorem t8{e d: Nat}(hm:wM (aw (n+1) e)=d):fresh c (aw (n+1) e)=near c::(aw (n+1) d++[inv (near c)]):=by
 unfold fresh;rw[if_neg (show aw (n+1) e≠[]from λq=>by rw[iR]at q;cases q),cg,hm]
theorem ED(h:Fl c)(n:Nat):fresh c (rp c (.ofNat (n+1)))=near c::(aw (n+1) c++[inv (near c)]):=t8 (by rcases h with rfl|rfl<;>rfl)
theorem EE(h:Fl c)(n:Nat):fresh c (rp c (.negSucc n))=near c::(aw (n+1) (inv c)++[inv (near c)]):=t8 (by rcases h with rfl|rfl<;>rfl)
inductive Rc:RS->RS->Prop where
 |refl (s:RS):Rc s s
 |step {s e:RS}(h:s.2.1≠[]) (k:Rc (df s) e):Rc s e
theorem Rc.trans{a b e:RS}(h:Rc a b)(k:Rc b e):Rc a e:=by
 induction h with
 |refl=>exact k
 |step h _ ih=>exact .step h (ih k)
theorem Rc.one{s s' e:RS}(x:df s=s')(h:s.2.1≠[])(k:Rc s' e):Rc s e:=.step h (x▸k)
noncomputable abbrev Sn(c:Nat)(P:List Int)(t:Int)(w:List Nat):RS:=(rp c t,w,pl c (inv c) P)
noncomputable abbrev Sp(c:Nat)(P:List Int)(t:Int)(w:List Nat):RS:=(rp c t,w,pl c c P)
theorem qh(h:Fl s)(n:Nat):∀P t,∃P' t',Rc (rp c t,aw n s++w,pl c s P) (rp c t',w,pl c s P'):=by
 induction n with
 |zero=>exact λP t=>⟨P,t,.refl _⟩
 |succ n ih =>
  intro P t;obtain⟨P',t',k⟩:=ih (t::P) 0;exact⟨P',t',.one (qc h) (bP _ _) k⟩
theorem DV(h:Fl s)(n:Nat):∀P,∃P',Rc (rp c 0,aw n s++w,pl c s P) (rp c 0,w,pl c s P'):=by
 induction n with
 |zero=>exact λP=>⟨P,.refl _⟩
 |succ n ih =>
  intro P;obtain⟨P',k⟩:=ih (0::P);exact⟨P',.one (qc h) (bP _ _) k⟩
theorem xn(h:Fl c):Fl (inv c):=by rcases h with rfl|rfl;exact .inr U;exact .inl U
theorem yk(h:Fl c)(n:Nat):∀P m,(∃P' m',Rc (Sn c P (.negSucc m) (aw n c++w)) (Sn c P' (.negSucc m') w))∨∃P' t',Rc (Sn c P (.negSucc m) (aw n c++w)) (Sp c P' t' w):=by
 induction n with
 |zero=>exact λP m=>.inl ⟨P,m,.refl _⟩
 |succ n ih =>
  intro P m;cases P with
  |nil =>
   obtain⟨P',t',k⟩:=qh (c:=c) (w:=w) h n [.negSucc m] 0;exact .inr ⟨P',t',.one (Gk h) (bP _ _) k⟩
  |cons u P =>
   have e:=Ci (P:=P) (w:=aw n c++w) h (u:=u) (s:=rp c (.negSucc m));rw[EE h,kS,bh]at e;obtain⟨P1,k1⟩:=DV (c:=c) (w:=inv (near c)::(aw n c++w)) (xn h) m ((u+1)::P);have go:Rc (Sn c (u::P) (.negSucc m) (aw (n+1) c++w)) (Sn c P1 (.negSucc 0) (aw n c++w)):=by
    refine .one e (bP _ _) (.one (we h) (bP _ _) ?_);exact .one (qc (xn h)) (bP _ _) (k1.trans (.one (sX h) (bP _ _) (.refl _)))
   rcases ih P1 0 with⟨P',m',k⟩|⟨P',t',k⟩
   ·exact .inl ⟨P',m',go.trans k⟩
   ·exact .inr ⟨P',t',go.trans k⟩
theorem take_all(h:Fl c):∀k n P t w,P.length<=k->(∃P' t',P'.length<=P.length/\Rc (Sn c P t (aw n c++w)) (Sn c P' t' w))∨(∃P' m',Rc (Sn c P t (aw n c++w)) (Sn c P' (.negSucc m') w))∨∃P' t',Rc (Sn c P t (aw n c++w)) (Sp c P' t' w):=by
 intro k
 induction k with
 |zero =>
  intro n P t w hk;cases List.eq_nil_of_length_eq_zero (Nat.le_zero.mp hk);obtain⟨P',t',r⟩:=qh (c:=c) (w:=w) h n [] t;exact .inr (.inr ⟨P',t',r⟩)
 |succ k ihk =>
  intro n;cases n with
  |zero=>exact λP t w zz=>.inl ⟨P,t,aW _,.refl _⟩
  |succ n =>
   intro P t w hk;cases P with
   |nil =>
    obtain⟨P',t',r⟩:=qh (c:=c) (w:=w) h (n+1) [] t;exact .inr (.inr ⟨P',t',r⟩)
   |cons u P =>
    have zb:P.length<=k:=Nat.le_of_succ_le_succ hk;have e:=Ci (P:=P) (w:=aw n c++w) h (u:=u) (s:=rp c t);cases t with
    |negSucc m =>
     rcases yk (w:=w) h (n+1) (u::P) m with x|x
     ·exact .inr (.inl x)
     ·exact .inr (.inr x)
    |ofNat m =>
     cases m with
     |zero =>
      have go:Rc (Sn c (u::P) 0 (aw (n+1) c++w)) (Sn c P u (aw n c++w)):=.one e (bP _ _) (.refl _);rcases ihk n P u w zb with⟨P',t',l,r⟩|⟨P',m',r⟩|⟨P',t',r⟩
      ·exact .inl ⟨P',t',au l (cm _),go.trans r⟩
      ·exact .inr (.inl ⟨P',m',go.trans r⟩)
      ·exact .inr (.inr ⟨P',t',go.trans r⟩)
     |succ m =>
      rw[ED h,kS,bh]at e;have go:Rc (Sn c (u::P) (.ofNat (m+1)) (aw (n+1) c++w)) (Sn c P (u+1) (aw (m+1) c++(inv (near c)::(aw n c++w)))):=by
       refine .one e (bP _ _) (.one (we h) (bP _ _) ?_);exact .refl _
      rcases ihk (m+1) P (u+1) (inv (near c)::(aw n c++w)) zb with⟨P1,t1,l,r⟩|⟨P1,m1,r⟩|⟨P1,t1,r⟩
      ·have Ol:=go.trans (r.trans (.one (sX h) (bP _ _) (.refl _)))
       rcases ihk n P1 (t1-1) w (au l zb)with⟨P',t',l2,r2⟩|⟨P',m',r2⟩|⟨P',t',r2⟩
       ·exact .inl ⟨P',t',au l2 (au l (cm _)),Ol.trans r2⟩
       ·exact .inr (.inl ⟨P',m',Ol.trans r2⟩)
       ·exact .inr (.inr ⟨P',t',Ol.trans r2⟩)
      ·have Ol:=go.trans (r.trans (.one (sX h) (bP _ _) (.refl _)))
       rcases yk (w:=w) h n P1 (m1+1)with⟨P',m',r2⟩|⟨P',t',r2⟩
       ·exact .inr (.inl ⟨P',m',Ol.trans r2⟩)
       ·exact .inr (.inr ⟨P',t',Ol.trans r2⟩)
      ·have Ol:=go.trans (r.trans (.one (sX h) (bP _ _) (.refl _)))
       obtain⟨P',t',r2⟩:=qh (c:=c) (w:=w) h n P1 (t1-1);exact .inr (.inr ⟨P',t',Ol.trans r2⟩)
end Mine.Internal.P
end
section
set_option linter.all false
namespace Mine.Internal.P
variable{c:Nat}{P:List Int}{t:Int}{w:List Nat}{b l:List Nat}{a:Nat}
theorem yR(h:Fl c):near (inv c)=inv (near c)/\inv (inv c)=c:=by rcases h with rfl|rfl<;>decide
theorem GG(h:Fl c)(t:Int):rp (inv c) (-t)=rp c t:=by
 have q:=yR h;have e:=(sq h).2.2.1;cases t with
 |ofNat n =>
  cases n with
  |zero=>rfl
  |succ n=>show aw (n+1) (inv (near (inv c)))=aw (n+1) (near c);rw[q.1,e]
 |negSucc n=>show aw (n+1) (near (inv c))=aw (n+1) (inv (near c));rw[q.1]
theorem VG(h:Fl c)(P:List Int)(t:Int)(w:List Nat):Sp c P t w=Sn (inv c) (P.map (- ·)) (-t) w:=by
 have q:=yR h;show(rp c t,w,pl c c P)=(rp (inv c) (-t),w,pl (inv c) (inv (inv c)) (P.map (- ·)));rw[GG h,q.2];refine congrArg (rp c t,w,·) ?_;show _=(P.map _).map _;rw[f9];exact List.map_congr_left λu zz=>by show(rp c u,[c])=(rp (inv c) (-u),[c]);rw[GG h]
theorem A7(ha:Lt a)(h:Fl c):∃c' P' t',Fl c'/\Rc (Sn c P t (a::w)) (Sn c' P' t' w):=by
 have n1:∀b,Rc (df (Sn c P t (b::w))) (df (Sn c P t (b::w))):=λb=>.refl _;by_cases e:a=near c
 ·subst e;exact⟨c,P,t+1,h,.one (we h) (bP _ _) (.refl _)⟩
 by_cases e2:a=inv (near c)
 ·subst e2;exact⟨c,P,t-1,h,.one (sX h) (bP _ _) (.refl _)⟩
 by_cases e3:a=c
 ·subst e3
  rcases take_all h P.length 1 P t w (aW _)with⟨P',t',_,r⟩|⟨P',m',r⟩|⟨P',t',r⟩
  ·exact⟨a,P',t',h,r⟩
  ·exact⟨a,P',_,h,r⟩
  ·rw[VG h]at r;exact⟨_,_,_,xn h,r⟩
 ·have e4:a=inv c:=by
   rcases h with rfl|rfl<;>rcases ha with rfl|rfl|rfl|rfl<;>first|rfl|exact absurd U e|exact absurd U e2|exact absurd U e3
  subst e4;exact⟨c,t::P,0,h,.one (qc (xn h)) (bP _ _) (.refl _)⟩
theorem zU(ws:List Nat):Wd ws->∀{c P t},Fl c->∃c' P' t',Fl c'/\Rc (Sn c P t (ws++w)) (Sn c' P' t' w):=by
 induction ws with
 |nil=>exact λ_ {c P t} h=>⟨c,P,t,h,.refl _⟩
 |cons a ws ih =>
  intro hw c P t h;obtain⟨c1,P1,t1,h1,r1⟩:=A7 (P:=P) (t:=t) (w:=ws++w) (hw a (.head _)) h;obtain⟨c2,P2,t2,h2,r2⟩:=ih (λb hb=>hw b (.tail _ hb)) (P:=P1) (t:=t1) h1;exact⟨c2,P2,t2,h2,r1.trans r2⟩
theorem DS(hw:Wd w):∃c P t,Fl c/\Rc ([],w,[]) (Sn c P t []):=by
 obtain⟨c,P,t,h,r⟩:=zU (w:=[]) w hw (c:=102) (P:=[]) (t:=0) (.inl U);rw[bV]at r;exact⟨c,P,t,h,r⟩
noncomputable def flat(p:List (List Nat×List Nat)):List Nat:=(p.reverse.map λq=>q.1++q.2).flatten
noncomputable def all(s:RS):List Nat:=flat s.2.2++s.1++s.2.1
theorem ly(q:List Nat×List Nat)(p:List (List Nat×List Nat)):flat (q::p)=flat p++(q.1++q.2):=by
 unfold flat;rw[dX,bG,List.flatten_append];simp
def Bl(l:List Nat):Prop:=∃n e,(e=105∨e=73)/\l=aw n e
structure Wf(s:RS):Prop where
 trail:Bl s.1
 wait:Wd s.2.1
 bT:∀q∈s.2.2,Bl q.1/\∃c,Fl c/\q.2=[c]
theorem Bl.nil:Bl []:=⟨0,105,.inl U,U⟩
theorem Bl.wd(h:Bl l):Wd l:=by
 obtain⟨n,e,he,rfl⟩:=h;intro a ha;rw[(List.mem_replicate.mp ha).2];exact he.elim (λx=>.inr (.inr (.inl x))) λx=>.inr (.inr (.inr x))
def nH(u v:List Nat):Prop:=(∀z,Ok z->act u z=act v z)/\v.length<=u.length
theorem nH.refl(u:List Nat):nH u u:=⟨λzz zz=>U,aW _⟩
theorem nH.trans{a d: List Nat}(h:nH a b)(k:nH b d):nH a d:=⟨λz o=>(h.1 z o).trans (k.1 z o),au k.2 h.2⟩
theorem nH.mid{u v a: List Nat}(h:nH u v)(hb:Wd b):nH (a++u++b) (a++v++b):=by
 refine⟨λz o=>?_,?_⟩
 ·rw[ft,ft,ft,ft,h.1 _ (iw hb o)]
 ·simp only[aB];exact cE (cq h.2 _) _
theorem u_(h:Lt a):nH [inv a,a] []:=⟨λz o=>eO o h,bJ _⟩
theorem inv_inv(h:Lt a):inv (inv a)=a/\Lt (inv a):=by
 rcases h with rfl|rfl|rfl|rfl<;>exact⟨U,by unfold Lt inv;decide⟩
theorem JN(h:Bl l)(ha:a=105∨a=73):Bl (blank l a)/\nH (l++[a]) (blank l a):=by
 obtain⟨n,e,he,rfl⟩:=h;have hl:Lt a:=ha.elim (λx=>.inr (.inr (.inl x))) λx=>.inr (.inr (.inr x));cases n with
 |zero=>exact⟨⟨1,a,ha,by unfold blank;rw[if_neg λq=>by cases q];rfl⟩,by unfold blank;rw[if_neg λq=>by cases q];exact .refl _⟩
 |succ n =>
  unfold blank;rw[wj,wi];by_cases q:e=a
  ·subst q
   have:e≠inv e:=by rcases ha with rfl|rfl<;>decide
   rw[if_neg λz=>this (jY z).1,←List.replicate_succ'];exact⟨⟨_,_,he,U⟩,.refl _⟩
  ·have z:e=inv a:=by rcases ha with rfl|rfl<;>rcases he with rfl|rfl<;>first|rfl|exact absurd U q
   subst z;rw[if_pos U];refine⟨⟨_,_,he,U⟩,?_⟩;rw[List.replicate_succ',bh];have k:=nH.mid (a:=aw n (inv a)) (b:=[]) (u_ hl) (λzz h=>nomatch h);simpa using k
end Mine.Internal.P
end
section
set_option linter.all false
namespace Mine.Internal.P
variable{a b c e:Nat}
seal stepT
def Eqv(u v:List Nat):Prop:=∀z,Ok z->act u z=act v z
theorem un{z:T4}(h:Lt a)(o:Ok z):stepT (stepT z (inv a)) a=z:=by
 have k:=eO o (inv_inv h).2
 rwa [(inv_inv h).1]at k
theorem lf:Lt 102:=.inl U
theorem lF:Lt 70:=.inr (.inl U)
theorem li:Lt 105:=.inr (.inr (.inl U))
theorem lI:Lt 73:=.inr (.inr (.inr U))
theorem h1:Eqv [70,105,102] [105,102,73]:=λz o=>by
 have o':=fH o lI;show stepT (stepT (stepT z 102) 105) 70=stepT (stepT (stepT z 73) 102) 105;have e:stepT (stepT z 73) 105=z:=eO o lI;have b:=JI o';rw[e]at b;rw[←b];exact eO (fH (fH o' lf) li) lf
theorem h2:Eqv [102,105,70] [73,102,105]:=λz o=>by
 have o':=fH o lF;show stepT (stepT (stepT z 70) 105) 102=stepT (stepT (stepT z 105) 102) 73;have e:stepT (stepT z 70) 102=z:=eO o lF;have b:=JI o';rw[e]at b;rw[b];exact(eO (fH (fH o' li) lf) li).symm
theorem Du(h:Lt a)(k:Lt b)(l:Lt c):Wd [a,b,c]:=by
 intro x hx;rcases List.mem_cons.mp hx with rfl|hx
 ·exact h
 ·rcases List.mem_cons.mp hx with rfl|hx
  ·exact k
  ·exact List.mem_singleton.mp hx▸l
theorem Np(h:Lt a)(k:Lt b)(l:Lt c){z:T4}(o:Ok z):act [inv c,inv b,inv a] (act [a,b,c] z)=z:=by
 show stepT (stepT (stepT (stepT (stepT (stepT z c) b) a) (inv a)) (inv b)) (inv c)=z;rw[eO (fH (fH o l) k) h,eO (fH o l) k,eO o l]
theorem xq{d f: Nat}(ha:Lt a)(hb:Lt b)(hc:Lt c)(hd:Lt d)(he:Lt e)(hf:Lt f)(h:Eqv [a,b,c] [d,e,f]):Eqv [inv c,inv b,inv a] [inv f,inv e,inv d]:=λz o=>by
 have o1:=iw (Du (inv_inv hc).2 (inv_inv hb).2 (inv_inv ha).2) o;have u:=Np (inv_inv hc).2 (inv_inv hb).2 (inv_inv ha).2 o;rw[(inv_inv ha).1,(inv_inv hb).1,(inv_inv hc).1,h _ o1]at u;have v:=Np hd he hf o1;rw[u]at v;exact v.symm
noncomputable def qZ(e:Nat):Nat:=if e=105 then 102 else 70
theorem xh(h:Fl c)(he:e=105∨e=73):Eqv [inv c,e,c] [near c,qZ e,inv (near c)]:=by
 rcases h with rfl|rfl<;>rcases he with rfl|rfl
 ·exact h1
 ·have k:=xq lF li lf li lf lI h1
  rwa [show [inv 102,inv 105,inv 70]=[inv 102,73,102]from by decide,show [inv 73,inv 102,inv 105]=[near 102,qZ 73,inv (near 102)]from by decide]at k
 ·exact h2
 ·have k:=xq lf li lF lI lf li h2
  rwa [show [inv 70,inv 105,inv 102]=[inv 70,73,70]from by decide,show [inv 105,inv 102,inv 73]=[near 70,qZ 73,inv (near 70)]from by decide]at k
theorem wR(h:Fl c):Lt c/\Lt (near c):=by rcases h with rfl|rfl;exact⟨lf,li⟩;exact⟨lF,lI⟩
theorem Xr(he:e=105∨e=73):Lt e/\Lt (qZ e):=by rcases he with rfl|rfl;exact⟨li,lf⟩;exact⟨lI,lF⟩
theorem Aw{n: Nat}(h:Lt e):Wd (aw n e):=λa ha=>(List.mem_replicate.mp ha).2▸h
theorem mx{u v: List Nat}(h:Wd u)(k:Wd v):Wd (u++v):=λa ha=>(List.mem_append.mp ha).elim (h a) (k a)
theorem qI(h:Lt a):Wd [a]:=λb hb=>List.mem_singleton.mp hb▸h
theorem SW(h:Fl c)(he:e=105∨e=73)(n:Nat):Eqv (inv c::(aw n e++[c])) (near c::(aw n (qZ e)++[inv (near c)])):=by
 have hl:=wR h;have ke:=Xr he
 induction n with
 |zero=>exact λz o=>(eO o hl.1).trans (un hl.2 o).symm
 |succ n ih =>
  intro z o;have oy:Ok (act (aw n e++[c]) z):=iw (mx (Aw ke.1) (qI hl.1)) o;have oy':Ok (act (aw n (qZ e)++[inv (near c)]) z):=iw (mx (Aw ke.2) (qI (inv_inv hl.2).2)) o;have a:=xh h he _ (fH oy (inv_inv hl.1).2);have b:=ih z o;show stepT (stepT (act (aw n e++[c]) z) e) (inv c)=stepT (stepT (act (aw n (qZ e)++[inv (near c)]) z) (qZ e)) (near c);have a':stepT (stepT (stepT (stepT (act (aw n e++[c]) z) (inv c)) c) e) (inv c)=stepT (stepT (stepT (stepT (act (aw n e++[c]) z) (inv c)) (inv (near c))) (qZ e)) (near c):=a;rw[un hl.1 oy]at a';have b':stepT (act (aw n e++[c]) z) (inv c)=stepT (act (aw n (qZ e)++[inv (near c)]) z) (near c):=b;rw[a',b',eO oy' hl.2]
theorem AX{tr: List Nat}(h:Fl c)(hb:Bl tr):nH (inv c::(tr++[c])) (fresh c tr)/\Wd (fresh c tr):=by
 have hl:=wR h;obtain⟨n,e,he,rfl⟩:=hb;cases n with
 |zero =>
  rw[show fresh c (aw 0 e)=[]from if_pos U];exact⟨u_ hl.1,λzz h=>nomatch h⟩
 |succ n =>
  rw[t8 (d:=qZ e) (by rcases he with rfl|rfl<;>rfl)];refine⟨⟨SW h he (n+1),by simp⟩,?_⟩;intro a ha;rcases List.mem_cons.mp ha with rfl|ha
  ·exact hl.2
  ·exact mx (Aw (Xr he).2) (qI (inv_inv hl.2).2) a ha
theorem Cg{s:RS}(h:Wf s)(hs:s.2.1≠[]):Wf (df s)/\nH (all s) (all (df s)):=by
 obtain⟨tr,wt,p⟩:=s;obtain⟨h1,h2,h3⟩:=h;cases wt with
 |nil=>exact absurd U hs
 |cons a w =>
  have hw:Wd w:=λb hb=>h2 b (.tail _ hb);have ha:Lt a:=h2 a (.head _);by_cases q:a=105∨a=73
  ·have e:df (tr,a::w,p)=(blank tr a,w,p):=if_pos q
   have b:=JN h1 q;rw[e];refine⟨⟨b.1,hw,h3⟩,?_⟩;have k:=b.2.mid (a:=flat p) (b:=w) hw;show nH (flat p++tr++a::w) (flat p++blank tr a++w)
   rwa [←bh,bh _ [a]]at k
  ·have hf:Fl a:=by rcases ha with rfl|rfl|h|h;exact .inl U;exact .inr U;exact absurd (.inl h) q;exact absurd (.inr h) q
   cases p with
   |nil =>
    have e:df (tr,a::w,[])=([],w,[(tr,[a])]):=by
     refine(if_neg q).trans ((if_neg λe=>by cases e).trans ?_);rfl
    rw[e];refine⟨⟨.nil,hw,λq hq=>List.mem_singleton.mp hq▸⟨h1,a,hf,U⟩⟩,?_⟩;show nH (flat []++tr++a::w) (flat ((tr,[a])::[])++[]++w);rw[ly,bV,←bh,bh _ [a]];exact .refl _
   |cons q0 p =>
    obtain⟨ah,la⟩:=q0;obtain⟨hb,s,hs,rfl⟩:=h3 _ (.head _);have h3':∀q∈p,Bl q.1/\∃c,Fl c/\q.2=[c]:=λq hq=>h3 q (.tail _ hq);by_cases z:s=inv a
    ·subst z
     have e:df (tr,a::w,(ah,[inv a])::p)=(ah,fresh a tr++w,p):=(if_neg q).trans (if_pos U);have k:=AX hf h1;rw[e];refine⟨⟨hb,mx k.2 hw,h3'⟩,?_⟩;have m:=k.1.mid (a:=flat p++ah) (b:=w) hw;show nH (flat ((ah,[inv a])::p)++tr++a::w) (flat p++ah++(fresh a tr++w));rw[ly];simp only[bh,kS,List.nil_append]at m ⊢;exact m
    ·have e:df (tr,a::w,(ah,[s])::p)=([],w,(tr,[a])::(ah,[s])::p):=by
      refine(if_neg q).trans ((if_neg λe=>z (jY e).1).trans ?_);show([],w,(tr,[a])::((if(ah,[s])=([],[])then []else [(ah,[s])])++p))=_;rw[if_neg λe=>by have:=congrArg Prod.snd e;cases this];rfl
     rw[e];refine⟨⟨.nil,hw,?_⟩,?_⟩
     ·intro q hq
      rcases List.mem_cons.mp hq with rfl|hq
      ·exact⟨h1,a,hf,U⟩
      ·exact h3 q hq
     ·show nH (flat ((ah,[s])::p)++tr++a::w) (flat ((tr,[a])::(ah,[s])::p)++[]++w)
      rw[ly (tr,[a]),bV,←bh,bh _ [a]];exact .refl _
theorem V6{s e:RS}(r:Rc s e)(h:Wf s):Wf e/\nH (all s) (all e):=by
 induction r with
 |refl s=>exact⟨h,.refl _⟩
 |step hs _ ih =>
  have k:=Cg h hs;have m:=ih k.1;exact⟨m.1,k.2.trans m.2⟩
end Mine.Internal.P
end
section
set_option linter.all false
namespace Mine.Internal.P
variable{R u:List Nat}
seal stepT
theorem uB:Ok v0:=.inr ⟨U,by decide⟩
noncomputable def pv(R:List Nat):List Nat:=R.filter (λa=>a==102 || a==70)++R
noncomputable def gH(R:List Nat):Int:=match pv R with
 |[]=>0
 |a::_=>if a=102∨a=105 then 1 else -1
def Pos(z:T4):Prop:=z.1<0∨(z.1=0/\0<z.2.1)
def Up(z:T4):Prop:=z.1=0/\z.2.1=0/\z.2.2.1=1
theorem QH{z:T4}:Pos z->Dl v0 z:=by
 rintro(h|⟨h1,h2⟩)
 ·exact .inl h
 ·refine .inr ⟨h1.symm,?_⟩
  show 0<z.2.1*1-0*z.2.2.1;rw[fm,Int.mul_one,Int.sub_zero];exact h2
theorem ND{z:T4}(h:Pos z):Pos (stepT z 105)/\Pos (stepT z 73):=by
 obtain⟨s,x,y,n⟩:=z;rw[mB,AK];exact⟨h,h⟩
theorem Wh{z:T4}(o:Ok z)(h:Pos z∨Up z):Pos (stepT z 102):=by
 obtain⟨s,x,y,n⟩:=z;by_cases c:Ng x y
 ·rw[ph c]
  rcases h with(h|⟨h,_⟩)|⟨h,_⟩
  ·exact .inl (Int.lt_trans (Int.sub_lt_self s ay) h)
  ·refine .inl ?_;show s-1<0;rw[show s=0 from h];decide
  ·refine .inl ?_;show s-1<0;rw[show s=0 from h];decide
 ·rw[nZ c]
  have hx:0<x+y:=by
   unfold Ok at o;unfold Ng at c;dsimp only at o;lia
  rcases h with(h|⟨h,_⟩)|⟨h,_⟩
  ·exact .inl h
  ·exact .inr ⟨h,hx⟩
  ·exact .inr ⟨h,hx⟩
theorem Ky{z:T4}(h:Up z):Up (stepT z 105)/\Up (stepT z 73):=by
 obtain⟨s,x,y,n⟩:=z;obtain⟨h1,h2,h3⟩:=h;dsimp only at h1 h2 h3;subst h1 h2 h3;rw[mB,AK];exact⟨⟨U,U,U⟩,⟨U,U,U⟩⟩
theorem Xj{z:T4}(o:Ok z)(h:0<z.1∨Up z):0<(stepT z 70).1:=by
 obtain⟨s,x,y,n⟩:=z;rw[Gl];by_cases c:x-y<0∨(x-y=0/\y<0)
 ·rw[if_pos c]
  rcases h with h|⟨h,_⟩
  ·exact Int.lt_trans h (Int.lt_succ s)
  ·show 0<s+1;rw[show s=0 from h];decide
 ·rw[if_neg c]
  rcases h with h|⟨h,h2,h3⟩
  ·exact h
  ·exact absurd (.inl (by rw[show x=0 from h2,show y=1 from h3];decide)) c
theorem NS{z:T4}(h:0<z.1):0<(stepT z 105).1/\0<(stepT z 73).1:=by
 obtain⟨s,x,y,n⟩:=z;rw[mB,AK];exact⟨h,h⟩
theorem aa0(hw:Wd R)(hF:70 ∉ R):if 102∈R then Pos (act R v0)else Up (act R v0):=by
 induction R with
 |nil=>rw[if_neg (by simp)];exact⟨U,U,U⟩
 |cons a R ih =>
  have Kb:Wd R:=λb hb=>hw b (.tail _ hb);have ih:=ih Kb λq=>hF (.tail _ q);rw[oU];have o:=iw Kb uB;rcases hw a (.head _)with rfl|rfl|rfl|rfl
  ·rw[if_pos (.head _)]
   refine Wh o ?_;by_cases q:102∈R
   ·rw[if_pos q]at ih;exact .inl ih
   ·rw[if_neg q]at ih;exact .inr ih
  ·exact absurd (.head _) hF
  ·by_cases q:102∈R
   ·rw[if_pos q]at ih;rw[if_pos (.tail _ q)];exact(ND ih).1
   ·rw[if_neg q]at ih;rw[if_neg (by simp[q])];exact(Ky ih).1
  ·by_cases q:102∈R
   ·rw[if_pos q]at ih;rw[if_pos (.tail _ q)];exact(ND ih).2
   ·rw[if_neg q]at ih;rw[if_neg (by simp[q])];exact(Ky ih).2
theorem Xk(hw:Wd R)(hF:102 ∉ R):if 70∈R then 0<(act R v0).1 else Up (act R v0):=by
 induction R with
 |nil=>rw[if_neg (by simp)];exact⟨U,U,U⟩
 |cons a R ih =>
  have Kb:Wd R:=λb hb=>hw b (.tail _ hb);have ih:=ih Kb λq=>hF (.tail _ q);rw[oU];have o:=iw Kb uB;rcases hw a (.head _)with rfl|rfl|rfl|rfl
  ·exact absurd (.head _) hF
  ·rw[if_pos (.head _)]
   refine Xj o ?_;by_cases q:70∈R
   ·rw[if_pos q]at ih;exact .inl ih
   ·rw[if_neg q]at ih;exact .inr ih
  ·by_cases q:70∈R
   ·rw[if_pos q]at ih;rw[if_pos (.tail _ q)];exact(NS ih).1
   ·rw[if_neg q]at ih;rw[if_neg (by simp[q])];exact(Ky ih).1
  ·by_cases q:70∈R
   ·rw[if_pos q]at ih;rw[if_pos (.tail _ q)];exact(NS ih).2
   ·rw[if_neg q]at ih;rw[if_neg (by simp[q])];exact(Ky ih).2
theorem rQ{a b: Nat}(h:a∈R)(ha:(a==102 || a==70)=af)(hb:∀x∈R,(x==102 || x==70)=af->x=a):∃r,pv R=a::r:=by
 have m:a∈R.filter (λa=>a==102 || a==70):=List.mem_filter.mpr ⟨h,ha⟩;unfold pv;cases q:R.filter (λa=>a==102 || a==70)with
 |nil=>rw[q]at m;cases m
 |cons x r =>
  have hx:x∈R.filter (λa=>a==102 || a==70):=q ▸ .head _;rw[hb x (List.mem_filter.mp hx).1 (List.mem_filter.mp hx).2];exact⟨r++R,U⟩
theorem Nm{z:T4}(h:Up z):De v0 z:=by
 refine⟨h.1.symm,?_⟩;show z.2.1*1-0*z.2.2.1=0;rw[h.2.1,fm,fm];rfl
theorem KJ(n e:Nat):VB (aw n e)=n*tl e:=by
 unfold VB;rw[List.map_replicate]
 induction n with
 |zero=>rw[Int.ofNat_zero,fm];rfl
 |succ n ih=>rw[iR,List.sum_cons,ih,Int.natCast_succ,Int.add_mul,Int.one_mul,Int.add_comm]
theorem LU(hw:Wd R)(h:102 ∉ R∨70 ∉ R)(hn:102 ∉ R->70 ∉ R->Bl R):gH R=sg (nU v0 (act R v0)):=by
 by_cases p:102∈R
 ·have hF:70 ∉ R:=h.resolve_left λq=>q p
  have k:=aa0 hw hF;rw[if_pos p]at k;rw[nL (.inl (QH k))];obtain⟨r,e⟩:=rQ (b:=0) p U λx hx q=>by
   rcases hw x hx with rfl|rfl|rfl|rfl
   ·rfl
   ·exact absurd hx hF
   ·cases q
   ·cases q
  unfold gH;rw[e];rfl
 ·by_cases q:70∈R
  ·have k:=Xk hw p
   rw[if_pos q]at k;rw[nK (.inl (.inl k))];obtain⟨r,e⟩:=rQ (b:=0) q U λx hx z=>by
    rcases hw x hx with rfl|rfl|rfl|rfl
    ·exact absurd hx p
    ·rfl
    ·cases z
    ·cases z
   unfold gH;rw[e];rfl
  ·have k:=Xk hw p
   rw[if_neg q]at k;obtain⟨n,e,he,rfl⟩:=hn p q;have a:=zW (aw n e) v0;rw[KJ,show v0.2.2.2=0 from U,kq]at a;cases n with
   |zero=>rfl
   |succ n =>
    have hm:pv (aw (n+1) e)=e::aw n e:=by
     unfold pv;rw[List.filter_replicate,if_neg (by rcases he with rfl|rfl<;>decide)];rfl
    unfold gH;rw[hm];rcases he with rfl|rfl
    ·refine(nL (.inr ⟨Nm k,?_⟩)).symm
     show(0:Int)<_;rw[a,show tl 105=1 from U,Int.mul_one];exact Int.natCast_pos.mpr (j_ n)
    ·refine(nK (.inr ⟨xw (Nm k),?_⟩)).symm
     show _<(0:Int);rw[a,show tl 73=-1 from U,Int.mul_neg,Int.mul_one];exact Int.neg_neg_of_pos (Int.natCast_pos.mpr (j_ n))
noncomputable def pY(u:List Nat):List Nat:=u.reverse.map inv
theorem B9(h:Wd u):Wd (pY u):=by
 intro a ha;obtain⟨b,hb,rfl⟩:=List.mem_map.mp ha;exact(inv_inv (h b (List.mem_reverse.mp hb))).2
theorem FT(h:Wd u):∀{z},Ok z->act u (act (pY u) z)=z:=by
 induction u with
 |nil=>exact λzz=>U
 |cons a u ih =>
  intro z o;have hu:Wd u:=λb hb=>h b (.tail _ hb);have ha:=h a (.head _);unfold pY;rw[dX,bG,ft,oU];have o':Ok (act ([a].map inv) z):=fH o (inv_inv ha).2;have k:=ih hu o';unfold pY at k;rw[k];exact un ha o
theorem sO(u:List Nat):(pY u).length=u.length:=by unfold pY;rw[aG,cJ]
theorem DX{c: Nat}(h:Fl c)(P:List Int)(t:Int):c ∉ flat (pl c (inv c) P)++rp c t/\(inv c ∉ flat (pl c (inv c) P)++rp c t->P=[]):=by
 have q:=sq h;have r:=BB h;have hr:∀u,c ∉ rp c u:=λu m=>by
  cases u with
  |ofNat n=>exact r.1 ((List.mem_replicate.mp m).2▸q.1)
  |negSucc n=>exact r.1 ((List.mem_replicate.mp m).2▸q.2.1)
 have hp:∀P:List Int,c ∉ flat (pl c (inv c) P):=by
  intro P
  induction P with
  |nil=>exact λm=>nomatch m
  |cons u P ih =>
   intro m;rw[show pl c (inv c) (u::P)=(rp c u,[inv c])::pl c (inv c) P from U,ly]at m;rcases List.mem_append.mp m with m|m
   ·exact ih m
   ·rcases List.mem_append.mp m with m|m
    ·exact hr u m
    ·exact r.2.2.2 (List.mem_singleton.mp m)
 refine⟨λm=>(List.mem_append.mp m).elim (hp P) (hr t),λm=>?_⟩;cases P with
 |nil=>rfl
 |cons u P =>
  refine absurd (List.mem_append.mpr (.inl ?_)) m;rw[show pl c (inv c) (u::P)=(rp c u,[inv c])::pl c (inv c) P from U,ly];exact List.mem_append.mpr (.inr (List.mem_append.mpr (.inr (List.mem_singleton.mpr U))))
structure BR(u v:List Nat)(tr:List Nat)(p:List (List Nat×List Nat)):Prop where
 reach:Rc ([],pY u++v,[]) (tr,[],p)
 wf:Wf (tr,[],p)
 wd:Wd (flat p++tr)
 mark:gH (flat p++tr)=sg (nU (dN u) (dN v))
 turn:dN (u++(flat p++tr))=dN v
 free:¬(102∈flat p++tr/\70∈flat p++tr)
 len:(flat p++tr).length<=u.length+v.length
theorem Lj{v: List Nat}(hu:Wd u)(hv:Wd v):∃tr p,BR u v tr p:=by
 have hw:=mx (B9 hu) hv;obtain⟨c,P,t,hc,r⟩:=DS hw;have k:=V6 r ⟨.nil,hw,λq hq=>nomatch hq⟩;have e:all (Sn c P t [])=flat (pl c (inv c) P)++rp c t:=bV _;have e0:all (([],pY u++v,[]):RS)=pY u++v:=U;have s:=k.2;rw[e,e0]at s;have wp:Wd (flat (pl c (inv c) P)++rp c t):=by
  refine mx ?_ k.1.trail.wd;intro a ha;unfold flat at ha;obtain⟨l,hl,ha⟩:=List.mem_flatten.mp ha;obtain⟨q,hq,rfl⟩:=List.mem_map.mp hl;obtain⟨b,d,hd,e⟩:=k.1.bT q (List.mem_reverse.mp hq);rw[e]at ha;rcases List.mem_append.mp ha with ha|ha
  ·exact b.wd a ha
  ·rw[List.mem_singleton.mp ha];exact(wR hd).1
 have f:=DX hc P t;have f2:102 ∉ flat (pl c (inv c) P)++rp c t∨70 ∉ flat (pl c (inv c) P)++rp c t:=by
  rcases hc with rfl|rfl
  ·exact .inl f.1
  ·exact .inr f.1
 have tu:dN (u++(flat (pl c (inv c) P)++rp c t))=dN v:=by
  unfold dN;rw[ft,←s.1 _ uB,ft];exact FT hu (iw hv uB)
 refine⟨rp c t,pl c (inv c) P,r,k.1,wp,?_,tu,?_,?_⟩
 ·rw[LU wp f2 λh1 h2=>?_]
  ·rcases tX v0 (act (flat (pl c (inv c) P)++rp c t) v0)with g|g|g
   ·have g':=xJ hu uB (iw wp uB) g
    rw[←ft]at g';rw[nL g,←tu];exact(nL g').symm
   ·have g':=TX hu uB (iw wp uB) g
    rw[←ft]at g';rw[rA g,←tu];exact(rA g').symm
   ·have g':=xJ hu (iw wp uB) uB g
    rw[←ft]at g';rw[nK g,←tu];exact(nK g').symm
  ·have:P=[]:=f.2 (by rcases hc with rfl|rfl;exact h2;exact h1)
   subst this;exact k.1.trail
 ·rintro⟨a,b⟩;exact f2.elim (λq=>q a) λq=>q b
 ·refine au s.2 ?_
  rw[aB,sO];exact aW _
end Mine.Internal.P
end
section
set_option linter.all false
namespace Mine.Internal.P
variable{x y:List Nat}{a:Nat}
seal stepT
theorem Tq(x y p q r t:Int):p*(r*y-x*t)=r*(p*y-x*q)+x*(r*q-p*t):=by
 rw[Int.mul_sub,Int.mul_sub,Int.mul_sub,Int.mul_left_comm p r y,Int.mul_left_comm p x t,Int.mul_left_comm r x q];lia
theorem Tp{x y p q r t: Int}(ou:0<x∨(x=0/\0<y))(ov:0<p∨(p=0/\0<q))(ow:0<r∨(r=0/\0<t))(h1:0<=p*y-x*q)(h2:0<=r*q-p*t):
  (0<p*y-x*q∨0<r*q-p*t->0<r*y-x*t)/\(p*y-x*q=0->r*q-p*t=0->r*y-x*t=0):=by
 have e:=Tq x y p q r t;rcases ov with hp|⟨rfl,hq⟩
 ·have hr:0<r:=by
   rcases ow with w|⟨rfl,ht⟩
   ·exact w
   ·rw[fm,Int.zero_sub]at h2
    exact absurd (lu hp ht) (Int.not_lt.mpr (Int.neg_nonneg.mp h2))
  rcases ou with hx|⟨rfl,hy⟩
  ·refine⟨λh=>?_,λa b=>?_⟩
   ·have k:0<p*(r*y-x*t):=by
     rw[e];rcases h with h|h
     ·exact jz (lu hr h) (Int.le_add_of_nonneg_right (Int.mul_nonneg (d4 hx) h2))
     ·exact jz (lu hx h) (Int.le_add_of_nonneg_left (Int.mul_nonneg (d4 hr) h1))
    exact Int.pos_of_mul_pos_right k hp
   ·rw[a,b,Int.mul_zero,Int.mul_zero]at e
    exact(Int.mul_eq_zero.mp e).resolve_left (Int.ne_of_gt hp)
  ·rw[fm,fm,Int.sub_zero,Int.sub_zero]
   exact⟨λzz=>lu hr hy,λa zz=>absurd a (Int.ne_of_gt (lu hp hy))⟩
 ·rcases ou with hx|⟨rfl,hy⟩
  ·rw[fm,Int.zero_sub]at h1
   exact absurd (lu hx hq) (Int.not_lt.mpr (Int.neg_nonneg.mp h1))
  ·simp only[fm,Int.sub_zero]
   refine⟨λh=>?_,λzz b=>?_⟩
   ·rcases h with h|h
    ·exact absurd h (Int.lt_irrefl 0)
    ·exact lu (Int.pos_of_mul_pos_left h hq) hy
   ·rw[(Int.mul_eq_zero.mp b).resolve_right (Int.ne_of_gt hq),fm]
theorem BJ{u v z:T4}(ou:Ok u)(ov:Ok v)(oz:Ok z):(Dl u v->(Dl v z∨De v z)->Dl u z)/\(De u v->(Dl v z->Dl u z)/\(De v z->De u z)):=by
 have k:=λh1 h2=>Tp ou ov oz h1 h2;refine⟨?_,λa=>⟨?_,λb=>⟨a.1.trans b.1,(k (Int.le_of_eq a.2.symm) (Int.le_of_eq b.2.symm)).2 a.2 b.2⟩⟩⟩
 ·rintro(a|⟨a1,a2⟩) (b|b)
  ·rcases b with b|b
   ·exact .inl (Int.lt_trans b a)
   ·exact .inl (b.1▸a)
  ·exact .inl (b.1▸a)
  ·rcases b with b|b
   ·exact .inl (a1▸b)
   ·exact .inr ⟨a1.trans b.1,(k (d4 a2) (d4 b.2)).1 (.inl a2)⟩
  ·exact .inr ⟨a1.trans b.1,(k (d4 a2) (Int.le_of_eq b.2.symm)).1 (.inl a2)⟩
 ·rintro(b|b)
  ·exact .inl (a.1▸b)
  ·exact .inr ⟨a.1.trans b.1,(k (Int.le_of_eq a.2.symm) (d4 b.2)).1 (.inr b.2)⟩
theorem Jd{u v z:T4}(ou:Ok u)(ov:Ok v)(oz:Ok z)(h:Gt u v)(k:Gt v z):Gt u z:=by
 have t:=BJ ou ov oz;rcases h with h|⟨h,m⟩
 ·exact .inl (t.1 h (k.imp id λx=>x.1))
 ·rcases k with k|⟨k,l⟩
  ·exact .inl ((t.2 h).1 k)
  ·exact .inr ⟨(t.2 h).2 k,Int.lt_trans m l⟩
theorem YO{u v z:T4}(ou:Ok u)(ov:Ok v)(oz:Ok z)(h:Gt u v)(k:Ge v z):Gt u z:=by
 have t:=BJ ou ov oz;rcases h with h|⟨h,m⟩
 ·exact .inl (t.1 h (.inr k.1))
 ·exact .inr ⟨(t.2 h).2 k.1,k.2▸m⟩
theorem CR{u v:T4}(h:Ge u v):Ge v u:=⟨xw h.1,h.2.symm⟩
theorem Y0{u v z:T4}(ou:Ok u)(ov:Ok v)(oz:Ok z)(h:Ge u v)(k:Gt v z):Gt u z:=by
 have t:=BJ ou ov oz;rcases k with k|⟨k,m⟩
 ·exact .inl ((t.2 h.1).1 k)
 ·exact .inr ⟨(t.2 h.1).2 k,h.2.symm▸m⟩
theorem Mx(u:T4):Ge u u:=⟨⟨U,Int.sub_self _▸by unfold dt;rw[iP]⟩,U⟩
noncomputable def J(u v:T4):Int:=sg (nU u v)
theorem xQ(u v:T4):J v u=-J u v:=by
 unfold J;rcases tX u v with h|h|h
 ·rw[nL h,nK h]
 ·rw[rA h,rA (CR h)];rfl
 ·rw[nK h,nL h];rfl
noncomputable def abo(a b c:Int):List (List Int):=[[0,1,a,0,-1],[-1,0,b,-1,-1],[-a,-b,0,-a,-c],[0,1,a,0,-1],[1,1,c,1,0]]
noncomputable def mE:List (Int×Int×Int):=[(-1,-1,-1),(-1,-1,0),(-1,-1,1),(0,-1,1),(1,-1,1),(1,0,1),(1,1,1)]
theorem VU{base over free under:T4}(o1:Ok base)(o2:Ok over)(o3:Ok free)(o4:Ok under)(h1:Gt base over)(h2:Gt under base):
  (J base free,J over free,J under free)∈mE:=by
 unfold J;rcases tX base free with a|a|a
 ·rw[nL a,nL (Jd o4 o1 o3 h2 a)]
  rcases tX over free with b|b|b
  ·rw[nL b];decide
  ·rw[rA b];decide
  ·rw[nK b];decide
 ·rw[rA a,nL (YO o4 o1 o3 h2 a),nK (Y0 o3 o1 o2 (CR a) h1)];decide
 ·rw[nK a,nK (Jd o3 o1 o2 a h1)]
  rcases tX under free with b|b|b
  ·rw[nL b];decide
  ·rw[rA b];decide
  ·rw[nK b];decide
theorem Sz(hx:Wd x)(hy:Wd y)(h:a=102∨a=105):Gt (dN (x++y)) (dN (x++a::y)):=by
 unfold dN;rw[ft,ft];have o:=iw hy uB;exact xJ hx o (fH o (h.elim (λe=>.inl e) λe=>.inr (.inr (.inl e)))) (GX h o)
theorem Sy(hx:Wd x)(hy:Wd y)(h:a=70∨a=73):Gt (dN (x++a::y)) (dN (x++y)):=by
 unfold dN;rw[ft,ft];have o:=iw hy uB;exact xJ hx (fH o (h.elim (λe=>.inr (.inl e)) λe=>.inr (.inr (.inr e)))) o (Sf h o)
theorem LQ{u v: List Nat}(h:Eqv u v)(hy:Wd y):dN (x++u++y)=dN (x++v++y):=by
 unfold dN;rw[ft,ft,ft,ft,h _ (iw hy uB)]
theorem h3:Eqv [102,105,102] [105,102,105]:=λz o=>JI o
theorem h4:Eqv [70,73,70] [73,70,73]:=by
 have k:=xq lf li lf li lf li h3
 rwa [show [inv 102,inv 105,inv 102]=[70,73,70]from by decide,show [inv 105,inv 102,inv 105]=[73,70,73]from by decide]at k
theorem h5:Eqv [70,73,102] [105,70,73]:=by
 have k:=xh (c:=102) (e:=73) (.inl U) (.inr U)
 rwa [show [inv 102,73,102]=[70,73,102]from by decide,show [near 102,qZ 73,inv (near 102)]=[105,70,73]from by decide]at k
theorem h6:Eqv [102,73,70] [73,70,105]:=by
 have k:=xh (c:=70) (e:=73) (.inr U) (.inr U)
 rwa [show [inv 70,73,70]=[102,73,70]from by decide,show [near 70,qZ 73,inv (near 70)]=[73,70,105]from by decide]at k
noncomputable def mC:List (List Nat×List Nat):=[([102,105,102],[105,102,105]),([102,105,70],[73,102,105]),([70,105,102],[105,102,73]),([102,73,70],[73,70,105]),([70,73,102],[105,70,73]),([70,73,70],[73,70,73])]
theorem ta:∀q∈mC,Eqv q.1 q.2/\Wd q.1/\Wd q.2:=by
 intro q hq;simp only[mC,List.mem_cons,List.not_mem_nil,or_false]at hq;rcases hq with rfl|rfl|rfl|rfl|rfl|rfl
 ·exact⟨h3,Du lf li lf,Du li lf li⟩
 ·exact⟨h2,Du lf li lF,Du lI lf li⟩
 ·exact⟨h1,Du lF li lf,Du li lf lI⟩
 ·exact⟨h6,Du lf lI lF,Du lI lF li⟩
 ·exact⟨h5,Du lF lI lf,Du li lF lI⟩
 ·exact⟨h4,Du lF lI lF,Du lI lF lI⟩
end Mine.Internal.P
end
namespace Mine.Internal
section
variable{G:Gv}{n m:Nat}
noncomputable abbrev abp:Str:=Sx [108,97,119,95,119,99,48,48,50,49,95,48,50]
noncomputable abbrev nE(k:Nat)(nm:Str)(tk c:Nat):cO:=fdOf k nm N N (.str abp (tk+8)) (R c)
theorem aO.fnAt{G n}(B:aO G n){a c k:Nat}{nm:Str}{o oc:ag->Nat->Nat->Obj}(h1:∀P f kt tk,(fq P f kt tk).get? a=aa (o P kt tk))(h2:∀P f kt tk,(fq P f kt tk).get? c=aa (oc P kt tk))(hd:∀P kt tk,(o P kt tk).data=.func (nE k nm tk c))
  (hc:∀P kt tk,∃vs t,(oc P kt tk).data=.fields vs/\vs[1]?=aa (.str nm t)) (ha:autoParam (nk.contains a=false) iU) (hcc:autoParam (nk.contains c=false) iU):∃tk,eZ G a (nE k nm tk c)/\G.h₀.CodeRec (R c) nm:=by
 obtain⟨f,kt,tk,es,ep,_,_,q⟩:=B.heap;refine mU (hc G.w.params kt tk) λvs t e1 e2=>?_;exact⟨tk,⟨_,q _ _ ha (h1 _ _ _ _),hd _ _ _⟩,dB (q _ _ hcc (h2 _ _ _ _)) e1 e2⟩
theorem JM(B:aO G n):Glob G (So "enumerate") (.type "enumerate"):=B.blt (λzz zz zz zz=>ak) (λzz zz zz zz=>ak)
theorem lx{a b:Int}(h:a.natAbs<2^40):IntMulOk a b:=by
 refine IntMulOk.of_left ?_;unfold Builtin.Int.intBits
 split
 ·lia
 ·rename_i h0
  have h1:a.natAbs≠0:=by
   intro e;exact h0 (by simp[Int.natAbs_eq_zero.mp e])
  have:=(Nat.log2_lt h1).mpr (aM h (Nat.pow_le_pow_right ay (show 40<=63 by decide)));lia
theorem eY.text{e:Env}{xs ys:List Stmt}{σ σ2:St}{f:CF}(q:xs=ys)(h:eY G m e ys σ f σ2):eY G m e xs σ f σ2:=q▸h
theorem oQ{G n}(B:aO G n):Glob G (So "list") (.type "list"):=B.blt (λzz zz zz zz=>ak) (λzz zz zz zz=>ak)
theorem jb{G n}(B:aO G n):Glob G (So "range") (.type "range"):=B.blt (λzz zz zz zz=>ak) (λzz zz zz zz=>ak)
theorem Dc(B:aO G n):Glob G (So "chr") (.builtin "chr"):=B.blt (λzz zz zz zz=>ak) (λzz zz zz zz=>ak)
theorem C_(B:aO G n):Glob G (So "str") (.type "str"):=B.blt (λzz zz zz zz=>ak) (λzz zz zz zz=>ak)
theorem C9(B:aO G n):Glob G (So "zip") (.type "zip"):=B.blt (λzz zz zz zz=>ak) (λzz zz zz zz=>ak)
theorem MS(B:aO G n):Glob G (So "min") (.builtin "min"):=B.blt (λzz zz zz zz=>ak) (λzz zz zz zz=>ak)
theorem MT(B:aO G n):Glob G (So "max") (.builtin "max"):=B.blt (λzz zz zz zz=>ak) (λzz zz zz zz=>ak)
theorem ue(B:aO G n):Glob G (So "sorted") (.builtin "sorted"):=B.blt (λzz zz zz zz=>ak) (λzz zz zz zz=>ak)
end
section
noncomputable abbrev Ud:Str:=Sx [95,108,97,119,95,116,117,114,110]
theorem zS(P:ag)(f:Nat->Obj)(kt tk:Nat):(fq P f kt tk).get? 231=aa (Hq P kt tk):=by kernel_rfl
theorem ZJ(P:ag)(f:Nat->Obj)(kt tk:Nat):(fq P f kt tk).get? 230=aa (NM P kt tk):=by kernel_rfl
theorem Zd(P:ag)(kt tk:Nat):(Hq P kt tk).data=.func (nE 18 Ud tk 230):=by kernel_rfl
theorem aO.zS{G n}(B:aO G n):∃tk,eZ G 231 (nE 18 Ud tk 230)/\G.h₀.CodeRec (R 230) Ud:=B.fnAt Mine.Internal.zS ZJ Zd λzz zz zz=>⟨_,_,U,U⟩
noncomputable abbrev eU(tk:Nat):Env:=entryE (nE 18 Ud tk 230) [] 0 231
variable{G:Gv}{tk n m:Nat}{w:List Nat}{v:P.T4}{a:Nat}{i:Nat}{σ:St}{y:Str}{l:List Nat}
noncomputable abbrev uF(w:List Nat)(v:P.T4)(more:List (Str×CV)):List (Str×CV):=[(So "word",.str (tx w)),(So "sheet",.int v.1),(So "x",.int v.2.1),(So "y",.int v.2.2.1),(So "total",.int v.2.2.2)]++more
noncomputable abbrev uS(w:List Nat)(v:P.T4)(more:List (Str×CV))(i:Nat):St:=⟨[(1,.rf (tx w.reverse) i),(0,.frame (uF w v more))],2⟩
noncomputable abbrev oN:List Stmt:=fB (az (fB (st 18)) 1)
noncomputable abbrev j4(a:Nat):Int:=if a=102∨a=105 then 1 else -1
seal a8 cS SS eY bM dD bN eC cU cI ef eX cR gc dJ jK SK SF l5 P.stepT
theorem fe{b: Bool}(hy:y=tx l)(h:decide (a∈l)=b):bN G (bS .In) (.str (tx [a])) (.str y) σ (.bool b) σ:=by
 subst hy h;exact XK (l:=l) (c:=a)▸D2
theorem Jx(a:Nat):decide (a∈[102,105])=decide (a=102∨a=105):=by simp
theorem xv(a:Nat):decide (a∈[105,73])=decide (a=105∨a=73):=by simp
unseal st in
theorem tu0(hh:G.A.handled=none):SS G m (eU tk) (az (fB (st 18)) 0) ⟨[(0,.frame [(So "word",.str (tx w))])],1⟩ .next ⟨[(0,.frame (uF w P.v0 []))],1⟩:=by
 conv in az (fB (st 18)) 0=>whnf
 exact .to (.ig (.tuple (.cons .int (.cons .int (.cons .int (.cons .int .nil)))) U) (.tuple hh (.name (.loc U) (.name (.loc U) (.name (.loc U) (.name (.loc U) .nil))))) (hw:=λenv h=>(bQ h).trans ak)) U
unseal st in
theorem aay:SS G m (eU tk) (az oN 0) (uS w v [(So "sign",.str (tx [a]))] n) .next (uS w v [(So "sign",.str (tx [a])),(So "way",.int (j4 a))] n):=by
 conv in az oN 0=>whnf
 by_cases h:a=102∨a=105
 ·rw[show j4 a=1 from if_pos h]
  exact .to (.assign (.js (b:=af) (.cmp (.loc U U) .str (fe (l:=[102,105]) U ((Jx a).trans (decide_eq_true h)))) .int) (.loc U)) U
 ·rw[show j4 a=-1 from if_neg h]
  exact .to (.assign (.js (b:=false) (.cmp (.loc U U) .str (fe (l:=[102,105]) U ((Jx a).trans (decide_eq_false h)))) (.un .int iu)) (.loc U)) U
noncomputable abbrev uG(a:Nat):List (Str×CV):=[(So "sign",.str (tx [a])),(So "way",.int (j4 a))]
unseal st in
theorem aax:SS G m (eU tk) (az oN 1) (uS w v (uG a) n) .next (uS w (v.1,v.2.1,v.2.2.1,v.2.2.2+j4 a) (uG a) n):=by
 conv in az oN 1=>whnf
 exact .to (.aug (.loc U U) (.loc U U) sj (.loc U)) U
theorem B8(a:Nat):(j4 a).natAbs<2^40:=by
 by_cases h:a=102∨a=105
 ·rw[show j4 a=1 from if_pos h];decide
 ·rw[show j4 a=-1 from if_neg h];decide
unseal st P.stepT in
theorem aaw(hh:G.A.handled=none)(hb:EB m (eU tk)=af):SS G m (eU tk) (az oN 2) (uS w (v.1,v.2.1,v.2.2.1,v.2.2.2+j4 a) (uG a) n) .next (uS w (P.stepT v a) (uG a) n):=by
 conv in az oN 2=>whnf
 by_cases h:a=105∨a=73
 ·rw[show P.stepT v a=(v.1,v.2.1,v.2.2.1-j4 a*v.2.1,v.2.2.2+j4 a)from if_pos h]
  exact .js (b:=af) (.cmp (.loc U U) .str (fe (l:=[105,73]) U ((xv a).trans (decide_eq_true h))))
   (.cons (.to (.aug (.loc U U) (.bin (.loc U U) (.loc U U) (pH (lx (B8 a)))) Lp (.loc U)) U) .nil hb)
 ·refine .js (b:=false) (.cmp (.loc U U) .str (fe (l:=[105,73]) U ((xv a).trans (decide_eq_false h))))
   (.cons (σ1:=uS w (v.1,v.2.1+j4 a*v.2.2.1,v.2.2.1,v.2.2.2+j4 a) (uG a) n) (.to (.aug (.loc U U) (.bin (.loc U U) (.loc U U) (pH (lx (B8 a)))) sj (.loc U)) U) (.cons ?_ .nil hb) hb)
  by_cases c:v.2.1+j4 a*v.2.2.1<0∨(v.2.1+j4 a*v.2.2.1=0/\v.2.2.1<0)
  ·rw[show P.stepT v a=(v.1-j4 a,-(v.2.1+j4 a*v.2.2.1),-v.2.2.1,v.2.2.2+j4 a)from(if_neg h).trans (if_pos c)]
   refine .js (b:=af) (σ1:=uS w (v.1,v.2.1+j4 a*v.2.2.1,v.2.2.1,v.2.2.2+j4 a) (uG a) n) ?_ (.cons (σ1:=uS w (v.1-j4 a,-(v.2.1+j4 a*v.2.2.1),-v.2.2.1,v.2.2.2+j4 a) (uG a) n) (.to (.swap (names:=[So "sheet",So "x",So "y"]) hh (.tuple (.cons (.bin (.loc U U) (.loc U U) pG) (.cons (.un (.loc U U) iu) (.cons (.un (.loc U U) iu) .nil))) U) U (.bind (.loc U) (.bind (.loc U) (.bind (.loc U) .nil))) (hw:=λenv h=>(bQ h).trans ak)) U) .nil hb);by_cases c1:v.2.1+j4 a*v.2.2.1<0
   ·exact .orT (.cmp (.loc U U) .int (iK.to (decide_eq_true c1)))
   ·have c2:=c.resolve_left c1
    exact .G8 (.cmp (.loc U U) .int (iK.to (decide_eq_false c1))) (.QQ (.sa (.cmp (.loc U U) .int (vm.to (beq_iff_eq.mpr c2.1))) (.uj (.cmp (.loc U U) .int (iK.to (decide_eq_true c2.2))))))
  ·rw[show P.stepT v a=(v.1,v.2.1+j4 a*v.2.2.1,v.2.2.1,v.2.2.2+j4 a)from(if_neg h).trans (if_neg c)]
   refine .js (b:=false) (.G8 (.cmp (.loc U U) .int (iK.to (decide_eq_false λq=>c (.inl q)))) (.QQ ?_)) .nil;by_cases c1:v.2.1+j4 a*v.2.2.1=0
   ·exact .sa (.cmp (.loc U U) .int (vm.to (beq_iff_eq.mpr c1))) (.uj (.cmp (.loc U U) .int (iK.to (decide_eq_false λq=>c (.inr ⟨c1,q⟩)))))
   ·exact .JX (.cmp (.loc U U) .int (vm.to (beq_eq_false_iff_ne.mpr c1)))
theorem K5(h:i<l.length):uZ (tx l) i=.str (tx [l[i]]):=by
 show CV.str ⟨#[(tx l).cps.getD i 0]⟩=_;have:(tx l).cps.getD i 0=l[i]:=by simp[h]
 rw[this]
theorem X.sign{it: Nat}{p: Pos}(e:σ.get it=aa (.rf (tx l) i))(h:i<l.length):eC G (.Name y p) it σ (.str (tx [l[i]])) (σ.set it (.rf (tx l) (i+1))):=K5 h▸X.str e (by simpa using h)
theorem KI(w:List Nat)(h:i<w.reverse.length):P.act (w.drop (w.length-(i+1))) P.v0=P.stepT (P.act (w.drop (w.length-i)) P.v0) (w.reverse[i]):=by
 rw[cJ]at h;have e:w.length-i=w.length-(i+1)+1:=by lia
 have hk:w.length-(i+1)<w.length:=by lia
 rw[e,mR hk];show P.stepT (P.act (w.drop (w.length-(i+1)+1)) P.v0) w[w.length-(i+1)]=_
 congr 1
 rw[List.getElem_reverse]
 congr 1
 lia
unseal st in
theorem PQ(hh:G.A.handled=none)(hl:w.length<=bC):SS G 1 (eU tk) (az (fB (st 18)) 1) ⟨[(0,.frame (uF w P.v0 []))],1⟩ .next ((uS w (P.dN w) [] w.length).del 1):=by
 have body:∀i v a,eY G 2 (eU tk) oN (uS w v [(So "sign",.str (tx [a]))] i) .next (uS w (P.stepT v a) (uG a) i):=λi v a=>by
  rw[show oN=[az oN 0,az oN 1,az oN 2] by kernel_rfl];exact .cons aay (.cons aax (.cons (aaw hh U) .nil U) U) U
 conv in az (fB (st 18)) 1=>whnf
 have last:P.dN w=P.act (w.drop (w.length-w.length)) P.v0:=by rw[Nat.sub_self];rfl
 rw[last];have z:P.v0=P.act (w.drop (w.length-0)) P.v0:=by rw[Nat.sub_zero,List.drop_length];rfl
 conv in uF w P.v0 []=>rw[z]
 refine .for (m':=2) (it:=1) w.length (λi=>uS w (P.act (w.drop (w.length-i)) P.v0) [] i) U ay ay (.slice (.loc U U) .no .no (.at (.un .int iu)) (s_ hl)) qq (λi hi=>?_) (D.str hh U (by simp));have sx:i<w.reverse.length:=by rw[cJ];exact hi
 refine⟨_,⟨_,_,uS w (P.act (w.drop (w.length-i)) P.v0) [(So "sign",.str (tx [w.reverse[i]]))] (i+1),X.sign U sx,.name (.loc (m':=uF w (P.act (w.drop (w.length-i)) P.v0) []) U),KI w sx▸body _ _ _⟩,?_⟩;exact gN.mk [] U U ⟨aD,⟨_,U,_,U,U,U,U,U,U,aE⟩,aE⟩
noncomputable abbrev uE(w:List Nat):St:=(uS w (P.dN w) [] w.length).del 1
noncomputable def hZ(v:P.T4):List CV:=[.int v.1,.int v.2.1,.int v.2.2.1,.int v.2.2.2]
unseal st in
theorem Vy:SS G m (eU tk) (az (fB (st 18)) 2) (uE w) (.ret (.ref 2)) ((uE w).push (.list (hZ (P.dN w)))):=by
 conv in az (fB (st 18)) 2=>whnf
 exact .ret (.list (.cons (.loc U U) (.cons (.loc U U) (.cons (.loc U U) (.cons (.loc U U) .nil)))) U)
theorem abd(tk:Nat):jf (nE 18 Ud tk 230) (fB (st 18)) []:=⟨U,U,λL=>ak,U,ak,ak,ak,ak⟩
theorem aci{tk s}(a:aq):bW s (nE 18 Ud tk 230) ⟨[a],[]⟩ [(So "word",a)]:=cB (K:=[]) (λzz zz h=>nomatch h) λS=>ak
theorem Nr(B:aO G 5)(hl:w.length<=bC):SK G (λvs ws=>call (.ref 231) vs ([].zip ws)) [.str (tx w)] [] ⟨[],0⟩ (.ref 2) ((uE w).push (.list (hZ (P.dN w)))):=by
 refine aR (B.zS) λtk D C=>?_;exact SK.fj (names:=[]) (m:=1) (f:=.ret (.ref 2)) (rb:=[(So "word",.str (tx w))]) B.cQ D B.cP C (abd tk) (zg λα s v g q=>⟨_,aci v,U,.aZ q cy⟩) ak U ak λenv =>
  .text (show fB (st 18)=[az (fB (st 18)) 0,az (fB (st 18)) 1,az (fB (st 18)) 2] by kernel_rfl) (.cons (tu0 (B.deep (env:=env)).hh) (.cons (PQ (B.deep (env:=env)).hh hl) (.stop Vy U) U) U)
end
section
variable{G:Gv}{n m:Nat}{σ:St}{ps:List (Str×Str)}{x d t:Nat}{k:Int}{a b:Str}{r:Str×Str}
theorem qM(a b:List Nat):(tx a==tx b)=(a==b):=by
 rw[Bool.eq_iff_iff,beq_iff_eq,beq_iff_eq];exact⟨λh=>by simpa using congrArg (λs:Str=>s.cps.toList) h,λh=>by rw[h]⟩
theorem L9(ha:gE a=af)(hb:gE b=af):(PyData.tuple [.str a,.str b]).canLay0=af:=by
 simp only[PyData.canLay0,jG,ha,hb,Bool.and_self]
theorem Jw(a b:Str):(PyData.tuple [.str a,.str b]).depth<=1:=by
 simp[PyData.depth,PyData.depthAll]
theorem aO.hu{G n}{da db: PyData}(B:aO G n)(h:da.depth<=50):G.A.units+min da.depth db.depth<cLine:=by
 have:=B.un;have h2:min da.depth db.depth<=da.depth:=Nat.min_le_left _ _;show _<9900;lia
theorem uB:gE ⟨#[]⟩=af:=by kernel_rfl
theorem GY(B:aO G 3){q: List (Str×Str)}(hx:σ.get x=aa (.bT cC d (ps.map dZ)))(hd:σ.get d=aa (.size k))(ht:σ.get t=aa (.tab mA yz))(hf:ps.length<2^20)(h:(ps=[]/\q=[]/\r=(So "",So ""))∨ps=q++[r]):
  bM G (λvs=>call (.ref xp) vs) [.ref x] σ (dZ r) (σ.set x (.bT cC d (q.map dZ))):=
 SK.sU (g:=λvs=>call (.ref xp) vs) (SK.G2 (cs0:=[]) hx hd ht (λh' k'=>aa2 (k:=k) (B.ext k') hf h) U U U (λzz=>U) λzz=>U)
theorem FY(a b:List Nat):(tx a++tx b)=tx (a++b):=by
 apply Str.ext';show a.toArray++b.toArray=(a++b).toArray;simp
theorem Ca{a b: List Nat}(h:a.length+b.length<=2^20):(tx a).length+(tx b).length<=bC:=by rw[cw,cw];exact bD h
theorem j9{a b: List Nat}(h:a.length+b.length<=2^20):bN G (eB .Add) (.str (tx a)) (.str (tx b)) σ (.str (tx (a++b))) σ:=FY a b▸A6 (Ca h)
theorem Im{a: List Nat}{b: Bool}:bN G (eB .Mult) (.str (tx a)) (.bool b) σ (.str (tx (if b then a else []))) σ:=by
 cases b
 ·exact nM
 ·exact nM
theorem jn:So ""=(⟨#[]⟩:Str):=by kernel_rfl
theorem a8.fW{e: Env}{s y: Str}{kk: Nat}{pos: Pos}(h:s=y):a8 G e (.Constant (.str s) kk pos) σ (.str y) σ:=h▸a8.str
theorem Ww{l: List Nat}(h:∀a∈l,a<1114112):gE (tx l)=af:=by
 show Array.all l.toArray _=af;rw[List.all_toArray,List.all_eq_true];exact λa ha=>decide_eq_true (h a ha)
noncomputable abbrev QN(σ:St)(x:Nat)(a b:Str):St:=σ.push (.frame [(So "string",.str b),(So "fws",.str a),(So "self",.ref x)])
unseal st cst in
theorem PE(B:aO G 1)(hx:(QN σ x a b).get x=aa (.bT cC d (ps.map dZ)))(hd:(QN σ x a b).get d=aa (.size k))(hf:ps.length<2^20):
  eY G (σ.n+1) (entryE xo [] σ.n zv) (fB (cst 1)) (QN σ x a b) .next ((QN σ x a b).set x (.bT cC d ((ps++[(a,b)]).map dZ))):=by
 conv in fB (cst 1)=>whnf
 exact .cons (.expr (.LR (uL _) B.K (y6 _).1 (y6 _).2 (.loc gG U) hx hd (λtk t=>(shadow _ _ _ _).2.2.2) (.cons (.tuple (.cons (.loc gG U) (.cons (.loc gG U) .nil)) U) .nil) (DW (uL _) B.K hx hd hf))) .nil (by show(cf σ.n (σ.n+1)&&af)=af;rw[Bool.and_true];exact Nat.blt_eq.mpr (bq _))
theorem pushQ(B:aO G 2)(hx:(QN σ x a b).get x=aa (.bT cC d (ps.map dZ)))(hd:(QN σ x a b).get d=aa (.size k))(hf:ps.length<2^20):
  SemQ G zv [.ref x,.str a,.str b] σ .none ((QN σ x a b).set x (.bT cC d ((ps++[(a,b)]).map dZ))):=by
 intro α s vs R g r hR;have kg:=tN G.w.params;refine oF (fd:=xo) (body:=fB (cst 1)) (rb:=[(So "string",.str b),(So "fws",.str a),(So "self",.ref x)]) (f:=.next) (m:=σ.n+1) (P:=λzz=>True) B.cQ ⟨_,B.k5 kg.2.2.2.2.2.2.1,ak⟩ B.cP (dB (B.k5 kg.2.2.2.2.2.2.2.1) U U) U ?_ ak ak (λzz=>aE) (cm _)
  (λenv=>uR.of (PE B.deep hx hd hf)) g hR ak ak ak
 obtain⟨u,_,rfl,q1,v,_,rfl,q2,w,_,rfl,q3,rfl⟩:=r;exact⟨_,TC u v w,U,.aZ q3 (.aZ q2 (.aZ q1 cy))⟩
theorem Sw(P:ag)(i:Int)(tk t:Tok):findObj (lq P) cC (aa (qO P i tk t)) (aF "push")=aa (.bind (.builtin "function.__get__") (.ref zv)):=by kernel_rfl
theorem Mf{a: Nat}(h:P.Lt a):∃i,iF (tx [102,70,105,73]) (tx [a]) 0 (tx [102,70,105,73]).length 1=[i]/\[70,102,73,105][i]?=aa (P.inv a):=by
 rcases h with rfl|rfl|rfl|rfl
 ·exact⟨0,ak,U⟩
 ·exact⟨1,ak,U⟩
 ·exact⟨2,ak,U⟩
 ·exact⟨3,ak,U⟩
theorem vG{a: Nat}(h:P.Lt a):∃i:Nat,bM G (λvs=>call (.builtin "str.index") vs) [.str (So "fFiI"),.str (tx [a])] σ (.int i) σ/\(So "FfIi").cps[i]?=aa (P.inv a):=by
 obtain⟨i,h1,h2⟩:=Mf h;refine⟨i,El (r:=[]) ?_,?_⟩
 ·rw[show So "fFiI"=tx [102,70,105,73] by kernel_rfl];exact h1
 ·rw[show So "FfIi"=tx [70,102,73,105] by kernel_rfl];simpa using h2
theorem zo:(So "FfIi").length<2^60:=aY (show(So "FfIi").length<=4 from d3 ak) ay
end
section
noncomputable abbrev Ue:Str:=Sx [95,108,97,119,95,114,101,115,116]
theorem Di(P:ag)(f:Nat->Obj)(kt tk:Nat):(fq P f kt tk).get? 224=aa (Hr P kt tk):=by kernel_rfl
theorem ZK(P:ag)(f:Nat->Obj)(kt tk:Nat):(fq P f kt tk).get? 223=aa (NN P kt tk):=by kernel_rfl
theorem Ze(P:ag)(kt tk:Nat):(Hr P kt tk).data=.func (nE 17 Ue tk 223):=by kernel_rfl
theorem aO.Di{G n}(B:aO G n):∃tk,eZ G 224 (nE 17 Ue tk 223)/\G.h₀.CodeRec (R 223) Ue:=B.fnAt Mine.Internal.Di ZK Ze λzz zz zz=>⟨_,_,U,U⟩
noncomputable abbrev eR(tk:Nat):Env:=entryE (nE 17 Ue tk 223) [] 3 224
abbrev PL:Type:=List (List Nat×List Nat)
noncomputable def fF(p:PL):List (Str×Str):=p.reverse.map λq=>(tx q.1,tx q.2)
variable{G:Gv}{tk m:Nat}{w wl tr:List Nat}{p:PL}{a:Nat}{k:Int}{σ:St}{t:Bool}{l x y:List Nat}
noncomputable abbrev rF(w tr:List Nat)(more:List (Str×CV)):List (Str×CV):=[(So "pile",.ref 0),(So "word",.str (tx w)),(So "wait",.ref 5),(So "trail",.str (tx tr))]++more
noncomputable abbrev rI(w:List Nat)(k:Int)(tr wl:List Nat)(p:PL)(more:List (Str×CV)):St:=⟨[(5,.list (kF wl.reverse)),(4,.list (kF w)),(3,.frame (rF w tr more)),(2,.tab mA yz),(1,.size k),(0,.bT cC 1 ((fF p).map dZ))],6⟩
noncomputable abbrev rS(w:List Nat)(k:Int)(tr wl:List Nat)(p:PL)(more:List (Str×CV)):St:=⟨[(6,.list []),(5,.list (kF wl.reverse)),(4,.list (kF w)),(3,.frame (rF w tr more)),(2,.tab mA yz),(1,.size k),(0,.bT cC 1 ((fF p).map dZ))],7⟩
noncomputable abbrev jU:List Stmt:=fB (az (fB (st 17)) 1)
seal a8 cS SS eY bM dD bN eC cU cI ef eX cR gc dJ jK SK SF l5 SemQ
theorem Cn(h:l.length<=1000):cR G (.str (tx l)) (aa (-1)) none none σ (.str (tx (l.drop (l.length-1)))) σ:=AN l▸mZ (by rw[cw];exact bD (au h ay))
theorem K4(h:l.length<=1000):cR G (.str (tx l)) none (aa (-1)) none σ (.str (tx (l.take (l.length-1)))) σ:=AP l▸mZ (by rw[cw];exact bD (au h ay))
theorem Cm{i: Int}(j:Nat)(hi:i=j)(h:l.length<=1000):cR G (.str (tx l)) none (aa i) none σ (.str (tx (l.take j))) σ:=hi▸Gw l▸mZ (by rw[cw];exact bD (au h ay))
theorem jo(h:(x==y)=t):bN G (bS .Eq) (.str (tx x)) (.str (tx y)) σ (.bool t) σ:=h▸qM x y▸vi
theorem tw(h:(x != y)=t):bN G (bS .NotEq) (.str (tx x)) (.str (tx y)) σ (.bool t) σ:=by
 have e:(tx x != tx y)=t:=by rw[←h];show(!(tx x==tx y))=!(x==y);rw[qM]
 exact e▸D0
theorem wU(hl:w.length<=1000):bM G (λvs=>call (.builtin "len") vs) [.str (tx w)] σ (.int w.length) σ:=by
 have:=IC (G:=G) (σ:=σ) (x:=tx w) (by rw[cw];exact aY hl ay)
 rwa [cw]at this
theorem Eb{q: Nat}(e:σ.get q=aa (.list (kF (a::wl).reverse)))(hl:wl.length<=1000):bM G (λvs=>call (.builtin "list.pop") vs) [.ref q] σ (.str (tx [a])) (σ.set q (.list (kF wl.reverse))):=by
 rw[dX,kF,bG]at e;exact IB e (by rw[aG,cJ];exact aY hl ay)
noncomputable abbrev R1(w:List Nat)(k:Int)(tr wl:List Nat)(p:PL)(a:Nat)(more:List (Str×CV)):St:=rS w k tr wl p ([(So "sign",.str (tx [a])),(So "other",.str (tx [P.inv a]))]++more)
unseal st in
theorem re0(B:aO G 4)(hh:G.A.handled=none)(hl:w.length<=1000):SS G m (eR tk) (az (fB (st 17)) 0) ⟨(3,.frame [(So "pile",.ref 0),(So "word",.str (tx w))])::(pS k (fF p)).objs,4⟩ .next (rI w k [] w p []):=by
 conv in az (fB (st 17)) 0=>whnf
 have e:((n8 (kF w) none none (aa (-1))))=kF w.reverse:=by rw[DY,kF,kF,List.map_reverse]
 have sl:cR G (.ref 4) none none (aa (-1)) ⟨(4,.list (kF w))::(3,.frame [(So "pile",.ref 0),(So "word",.str (tx w))])::(pS k (fF p)).objs,5⟩ (.ref 5) ⟨(5,.list (kF w.reverse))::(4,.list (kF w))::(3,.frame [(So "pile",.ref 0),(So "word",.str (tx w))])::(pS k (fF p)).objs,6⟩:=
  e▸slice_list U ay (by rw[aG];exact bD (au hl ay))
 exact .to (.swap (names:=[So "trail",So "wait"]) hh (.tuple (.cons (.fW jn) (.cons (.slice (.jS (.glob (oQ B)) (.cons (.loc U U) .nil) (rL hh (bD (au hl ay)))) .no .no (.at (.un .int iu)) sl) .nil)) U) U (.bind (.loc U) (.bind (.loc U) .nil)) (hw:=λenv h=>(bQ h).trans ak)) U
unseal st in
theorem aaW(hl:wl.length<=1000):SS G m (eR tk) (az jU 0) (rS w k tr (a::wl) p []) .next (rS w k tr wl p [(So "sign",.str (tx [a]))]):=by
 conv in az jU 0=>whnf
 exact .to (.assign (.rW PySem.F.slot_list_pop bE U (.loc U U) (gk U) .nil (Eb U hl)) (.loc U)) U
unseal st in
theorem aaV(ha:P.Lt a):SS G m (eR tk) (az jU 1) (rS w k tr wl p [(So "sign",.str (tx [a]))]) .next (R1 w k tr wl p a []):=by
 conv in az jU 1=>whnf
 refine aR (vG (G:=G) (σ:=rS w k tr wl p [(So "sign",.str (tx [a]))]) ha) λi h1 h2=>?_;exact .to (.assign (.sub .str (.rW PySem.F.slot_str_index cA U .str l_ (.cons (.loc U U) .nil) h1) (k_ (i:=(i:Int)) (aI _) h2 zo)) (.loc U)) U
unseal st in
theorem reI(h:a=105∨a=73)(hl:tr.length+1<=1000)(hb:EB m (eR tk)=af):SS G m (eR tk) (az jU 2) (R1 w k tr wl p a []) .next (R1 w k (P.blank tr a) wl p a []):=by
 conv in az jU 2=>whnf
 refine .js (b:=af) (.cmp (.loc U U) .str (fe (l:=[105,73]) U ((xv a).trans (decide_eq_true h)))) (.cons ?_ .nil hb);have h1:=d2 hl;unfold P.blank;by_cases q:tr.drop (tr.length-1)=[P.inv a]
 ·rw[if_pos q]
  exact .to (.assign (.js (b:=af) (.cmp (.slice (.loc U U) (.at (.un .int iu)) .no .no (Cn h1)) (.loc U U) (jo (beq_iff_eq.mpr q))) (.slice (.loc U U) .no (.at (.un .int iu)) .no (K4 h1))) (.loc U)) U
 ·rw[if_neg q]
  exact .to (.assign (.js (b:=false) (.cmp (.slice (.loc U U) (.at (.un .int iu)) .no .no (Cn h1)) (.loc U U) (jo (beq_eq_false_iff_ne.mpr q))) (.bin (.loc U U) (.loc U U) (j9 (au hl ay)))) (.loc U)) U
end
section
noncomputable def orB(s:Stmt):List Stmt:=match s with
 |.If _ _ o _=>o
 |_=>[]
noncomputable abbrev ifR:Stmt:=az (orB (az jU 2)) 1
noncomputable abbrev me:List Stmt:=fB ifR
noncomputable abbrev layB:List Stmt:=orB ifR
noncomputable abbrev Y2:List Stmt:=fB (az layB 0)
variable{G:Gv}{tk m:Nat}{w wl tr hd1 hd2:List Nat}{p tl:PL}{a:Nat}{k:Int}{σ:St}
seal a8 cS SS eY bM dD bN eC cU cI ef eX cR gc dJ jK SK SF l5 SemQ
def Hd(p:PL)(hd1 hd2:List Nat)(tl:PL):Prop:=(p=[]/\tl=[]/\hd1=[]/\hd2=[])∨p=(hd1,hd2)::tl
theorem vg(q:List Nat×List Nat)(p:PL):fF (q::p)=fF p++[(tx q.1,tx q.2)]:=by
 unfold fF;rw[dX,bG];rfl
theorem yA(p:PL):(fF p).length=p.length:=by unfold fF;rw[aG,cJ]
theorem QI(B:aO G 3)(h:Hd p hd1 hd2 tl)(hl:p.length<=1000)(hx:σ.get 0=aa (.bT cC 1 ((fF p).map dZ)))(hd:σ.get 1=aa (.size k))(ht:σ.get 2=aa (.tab mA yz)):
  bM G (λvs=>call (.ref xp) vs) [.ref 0] σ (.tup [.str (tx hd1),.str (tx hd2)]) (σ.set 0 (.bT cC 1 ((fF tl).map dZ))):=by
 refine GY (r:=(tx hd1,tx hd2)) (q:=fF tl) B hx hd ht (by rw[yA];exact aY hl ay) ?_;rcases h with⟨rfl,rfl,rfl,rfl⟩|rfl
 ·exact .inl ⟨U,U,by rw[jn]⟩
 ·exact .inr (vg _ _)
noncomputable abbrev R2(w:List Nat)(k:Int)(tr wl:List Nat)(p:PL)(a:Nat)(hd1 hd2:List Nat)(more:List (Str×CV)):St:=R1 w k tr wl p a ([(So "ahead",.str (tx hd1)),(So "last",.str (tx hd2))]++more)
unseal st in
theorem Nz{b:Bool}{τ:St}(B:aO G 4)(hh:G.A.handled=none)(hf:P.Fl a)(hp:Hd p hd1 hd2 tl)(hl:p.length<=1000)(hb:(hd2==[P.inv a])=b)(h:eY G 4 (eR tk) (if b then me else layB) (R2 w k tr wl tl a hd1 hd2 []) .next τ):
  SS G 4 (eR tk) (az jU 2) (R1 w k tr wl p a []) .next τ:=by
 conv in az jU 2=>whnf
 have kg:=tN G.w.params;have na:¬(a=105∨a=73):=by rcases hf with rfl|rfl<;>decide
 exact .js (b:=false) (.cmp (.loc U U) .str (fe (l:=[105,73]) U ((xv a).trans (decide_eq_false na))))
  (.cons (σ1:=R2 w k tr wl tl a hd1 hd2 []) (.to (.ig (.wN (uL _) B.K (NZ _).1 (NZ _).2 (B.k5 kg.2.2.1) (fd:=vM) ak (.loc U U) U U (λtk t=>(shadow _ _ _ _).2.1) .nil (QI (k:=k) (B.le U) hp hl U U U))
   (.tuple hh (.name (.loc U) (.name (.loc U) .nil))) (hw:=λenv h=>(bQ h).trans ak)) U)
  (.cons (.js (b:=b) (.cmp (.loc U U) (.loc U U) (jo hb)) (.text ak h)) .nil U) U)
noncomputable abbrev R3(w:List Nat)(k:Int)(tr wl:List Nat)(p:PL)(a:Nat)(hd1 hd2:List Nat)(more:List (Str×CV)):St:=R2 w k tr wl p a hd1 hd2 ([(So "near",.str (tx [P.near a])),(So "far",.str (tx [P.inv (P.near a)]))]++more)
unseal st in
theorem aaU(hh:G.A.handled=none)(hf:P.Fl a):SS G m (eR tk) (az me 0) (R2 w k tr wl tl a hd1 hd2 []) .next (R3 w k tr wl tl a hd1 hd2 []):=by
 conv in az me 0=>whnf
 rcases hf with rfl|rfl
 ·exact .to (.ig (.js (b:=af) (.cmp (.loc U U) (.fW (y:=tx [102]) ak) (jo ay)) (.tuple (.cons (.fW (y:=tx [105]) ak) (.cons (.fW (y:=tx [73]) ak) .nil)) U)) (.tuple hh (.name (.loc U) (.name (.loc U) .nil))) (hw:=λenv h=>(bQ h).trans ak)) U
 ·exact .to (.ig (.js (b:=false) (.cmp (.loc U U) (.fW (y:=tx [102]) ak) (jo ay)) (.tuple (.cons (.fW (y:=tx [73]) ak) (.cons (.fW (y:=tx [105]) ak) .nil)) U)) (.tuple hh (.name (.loc U) (.name (.loc U) .nil))) (hw:=λenv h=>(bQ h).trans ak)) U
unseal st in
theorem aaT(hl:tr.length<=1000):SS G m (eR tk) (az me 1) (R3 w k tr wl tl a hd1 hd2 []) .next (R3 w k tr wl tl a hd1 hd2 [(So "middle",.str (tx [P.wM tr]))]):=by
 conv in az me 1=>whnf
 unfold P.wM;by_cases q:tr.take 1=[105]
 ·rw[if_pos q]
  exact .to (.assign (.js (b:=af) (.cmp (.slice (.loc U U) .no (.at .int) .no (Cm 1 U hl)) (.fW (y:=tx [105]) ak) (jo (beq_iff_eq.mpr q))) (.fW ak)) (.loc U)) U
 ·rw[if_neg q]
  exact .to (.assign (.js (b:=false) (.cmp (.slice (.loc U U) .no (.at .int) .no (Cm 1 U hl)) (.fW (y:=tx [105]) ak) (jo (beq_eq_false_iff_ne.mpr q))) (.fW ak)) (.loc U)) U
theorem EC(a:Nat)(tr wl:List Nat):kF wl.reverse++kF (if(tr != [])=af then([P.inv (P.near a)]++aw tr.length (P.wM tr))++[P.near a]else [])=kF (P.fresh a tr++wl).reverse:=by
 rw[List.reverse_append,kF,kF,kF,←bG]
 congr 2
 unfold P.fresh;by_cases q:tr=[]
 ·rw[if_pos q,q];rfl
 ·rw[if_neg q,if_pos (bne_iff_ne.mpr q)]
  simp
noncomputable abbrev R4(w:List Nat)(k:Int)(tr:List Nat)(tr2 wl:List Nat)(p:PL)(a:Nat)(hd1 hd2:List Nat):St:=rS w k tr2 wl p ([(So "sign",.str (tx [a])),(So "other",.str (tx [P.inv a])),(So "ahead",.str (tx hd1)),(So "last",.str (tx hd2)),(So "near",.str (tx [P.near a])),(So "far",.str (tx [P.inv (P.near a)])),(So "middle",.str (tx [P.wM tr]))])
unseal st in
theorem aaS(B:aO G 4)(hh:G.A.handled=none)(hl:tr.length+2<=1000)(hw:wl.length<=1000):SS G m (eR tk) (az me 2) (R4 w k tr tr wl tl a hd1 hd2) .next (R4 w k tr tr (P.fresh a tr++wl) tl a hd1 hd2):=by
 conv in az me 2=>whnf
 have h0:tr.length<=1000:=au (bg _ 2) hl;have h1:[P.inv (P.near a)].length+(aw tr.length (P.wM tr)).length<=2^20:=by rw[cg];exact au (by show 1+tr.length<=1002;lia) ay
 have h2:([P.inv (P.near a)]++aw tr.length (P.wM tr)).length+[P.near a].length<=2^20:=by rw[aB,cg];exact au (by show 1+tr.length+1<=1002;lia) ay
 have hx:(kF wl.reverse).length+(if(tr != [])=af then([P.inv (P.near a)]++aw tr.length (P.wM tr))++[P.near a]else []).length<=2^20:=by
  rw[aG,cJ];refine au (m:=1000+1002) (cF hw ?_) ay
  split
  ·rw[aB,aB,cg];show 1+tr.length+1<=1002;lia
  ·exact bJ _
 have hy:=rY (σ:=R4 w k tr tr wl tl a hd1 hd2) (L:=5) hh U hx;rw[EC]at hy;exact .to (.expr (.rW mM bE U (.loc U U) (gk U) (.cons (.bin (.bin (.bin (.loc U U) (.bin (.loc U U) (.mn (.glob (gC B)) (.cons (.loc U U) .nil) (wU h0)) (yH (au h0 ay))) (j9 h1)) (.loc U U) (j9 h2)) (.cmp (.loc U U) (.fW (y:=tx []) jn) (tw U)) Im) .nil) hy)) U
unseal st in
theorem aaR:SS G m (eR tk) (az me 3) (R4 w k tr tr wl tl a hd1 hd2) .next (R4 w k tr hd1 wl tl a hd1 hd2):=by
 conv in az me 3=>whnf
 exact .to (.assign (.loc U U) (.loc U)) U
unseal st in
theorem Qz(B:aO G 4)(hh:G.A.handled=none)(hf:P.Fl a)(hp:Hd p hd1 hd2 tl)(hl:p.length<=1000)(ht:tr.length+2<=1000)(hw:wl.length<=1000)(hb:hd2=[P.inv a]):
  SS G 4 (eR tk) (az jU 2) (R1 w k tr wl p a []) .next (R4 w k tr hd1 (P.fresh a tr++wl) tl a hd1 hd2):=by
 refine Nz (b:=af) B hh hf hp hl (beq_iff_eq.mpr hb) ?_;exact .text (show me=[az me 0,az me 1,az me 2,az me 3] by kernel_rfl) (.cons (aaU hh hf) (.cons (aaT (au (bg _ 2) ht)) (.cons (aaS B hh ht hw) (.cons aaR .nil U) U) U) U)
end
section
variable{G:Gv}{tk:Nat}{w wl tr hd1 hd2 x y:List Nat}{pl:PL}{a i:Nat}{k:Int}
seal a8 cS SS eY bM dD bN eC cU cI ef eX cR gc dJ jK SK SF l5 SemQ
theorem rG{r:Nat->Nat}{l:List Nat}:jt r (.list (kF l)) (.list (kF l)):=by
 refine congrArg AO.list ?_
 induction l with
 |nil=>rfl
 |cons a l ih=>exact congrArg (CV.str (tx [a])::·) ih
theorem qj{r:Nat->Nat}{C d:Nat}{xs:List (Str×Str)}(h:r d=d):jt r (.bT C d (xs.map dZ)) (.bT C d (xs.map dZ)):=by
 show AO.bT C d _=AO.bT C (r d) (cK r (xs.map dZ));rw[h,kH]
theorem vP(a b:List Nat):gF (.tuple [.str (tx a),.str (tx b)]) (.tuple [.str ⟨#[]⟩,.str ⟨#[]⟩])=((a==[])&&(b==[])):=by
 have h:∀l,(tx l==(⟨#[]⟩:Str))=(l==[]):=λl=>qM l [];simp[gF,PyData.eqvAll,h]
noncomputable abbrev Ub(x y:List Nat):CV:=.tup [.str (tx x),.str (tx y)]
noncomputable abbrev qS(w:List Nat)(k:Int)(tr tr0 wl:List Nat)(pl:PL)(a:Nat)(hd1 hd2:List Nat)(i:Nat)(more:List (Str×CV)):St:=
 ⟨[(8,.ix 7 i),(7,.list [Ub hd1 hd2,Ub tr0 [a]]),(6,.list []),(5,.list (kF wl.reverse)),(4,.list (kF w)),(3,.frame (rF w tr ([(So "sign",.str (tx [a])),(So "other",.str (tx [P.inv a])),(So "ahead",.str (tx hd1)),(So "last",.str (tx hd2))]++more))),(2,.tab mA yz),(1,.size k),(0,.bT cC 1 ((fF pl).map dZ))],9⟩
noncomputable def uK(x y:List Nat)(pl:PL):PL:=if x=[]/\y=[]then pl else(x,y)::pl
unseal st in
theorem GK(B:aO G 4)(hx:gE (tx x)=af)(hy:gE (tx y)=af)(hl:pl.length<=1000):
  ∃τ,eY G 9 (eR tk) Y2 (qS w k tr tr wl pl a hd1 hd2 i [(So "piece",Ub x y)]) .next τ/\gN 9 τ (qS w k tr tr wl (uK x y pl) a hd1 hd2 i []):=by
 conv in Y2=>whnf
 have kg:=tN G.w.params;unfold uK;by_cases q:x=[]/\y=[]
 ·rw[if_pos q]
  obtain⟨rfl,rfl⟩:=q;exact⟨_,.cons (.js (b:=false) (.cmp (.loc U U) (.tuple (.cons (.fW jn) (.cons (.fW jn) .nil)) U) (oV (.tup (.cons .str (.cons .str .nil))) (.tup (.cons .str (.cons .str .nil))) (L9 uB uB) (L9 uB uB) (B.hu (au (Jw _ _) ay)) (by rw[vP];rfl))) .nil) .nil U,
   gN.mk [] U U ⟨aD,aD,aD,⟨_,U,rG⟩,⟨_,U,rG⟩,⟨_,U,_,U,U,U,U,U,U,U,U,U,aE⟩,aD,aD,⟨_,U,qj U⟩,aE⟩⟩
 ·rw[if_neg q]
  have hf:(fF pl).length<2^20:=by rw[yA];exact aY hl ay
  have ne:(!gF (.tuple [.str (tx x),.str (tx y)]) (.tuple [.str ⟨#[]⟩,.str ⟨#[]⟩]))=af:=by
   rw[vP];cases x with
   |cons a x=>rfl
   |nil=>cases y with
    |cons a y=>rfl
    |nil=>exact absurd ⟨U,U⟩ q
  refine⟨_,.cons (.js (b:=af) (.cmp (.loc U U) (.tuple (.cons (.fW jn) (.cons (.fW jn) .nil)) U) (oV (.tup (.cons .str (.cons .str .nil))) (.tup (.cons .str (.cons .str .nil))) (L9 hx hy) (L9 uB uB) (B.hu (au (Jw _ _) ay)) ne))
   (.cons (.expr (.Ip (uL _) B.K (Sw _ _) (Ss _).2 (B.k5 kg.2.2.2.2.2.2.1) (fd:=xo) ak (.loc U U) U U (.loc U U) (show 2<=1000 by decide) (pushQ (B.le U) (x:=0) (d:=1) (k:=k) (ps:=fF pl) U U hf))) .nil U)) .nil U,
   gN.mk [] U U ⟨aD,aD,aD,⟨_,U,rG⟩,⟨_,U,rG⟩,⟨_,U,_,U,U,U,U,U,U,U,U,U,aE⟩,aD,aD,⟨_,U,?_⟩,aE⟩⟩
  rw[vg];exact qj U
end
section
variable{G:Gv}{tk:Nat}{w wl tr hd1 hd2 x y:List Nat}{p tl pl:PL}{a i:Nat}{k:Int}
seal a8 cS SS eY bM dD bN eC cU cI ef eX cR gc dJ jK SK SF l5 SemQ
theorem yJ{l:List Nat}(h:P.Wd l):gE (tx l)=af:=Ww λa ha=>by rcases h a ha with rfl|rfl|rfl|rfl<;>decide
noncomputable abbrev vB(tr:List Nat)(a:Nat)(hd1 hd2:List Nat)(tl:PL):PL:=uK tr [a] (uK hd1 hd2 tl)
noncomputable abbrev qL(tr:List Nat)(a:Nat)(hd1 hd2:List Nat)(tl:PL):Nat->PL
 |0=>tl
 |1=>uK hd1 hd2 tl
 |_=>vB tr a hd1 hd2 tl
theorem L7(x y:List Nat)(pl:PL):(uK x y pl).length<=pl.length+1:=by
 unfold uK
 split
 ·exact cm _
 ·exact aW _
unseal st in
theorem V5(B:aO G 4)(hh:G.A.handled=none)(hf:P.Fl a)(hp:Hd p hd1 hd2 tl)(hl:p.length+1<=1000)(hb:hd2≠[P.inv a])(h1:P.Wd hd1)(h2:P.Wd hd2)(ht:P.Wd tr):
  SS G 4 (eR tk) (az jU 2) (R1 w k tr wl p a []) .next ((qS w k [] tr wl (vB tr a hd1 hd2 tl) a hd1 hd2 2 []).del 8):=by
 refine Nz (b:=false) B hh hf hp (d2 hl) (beq_eq_false_iff_ne.mpr hb) ?_;have ha:P.Wd [a]:=λb hb=>by cases List.mem_singleton.mp hb;exact hf.elim .inl λq=>.inr (.inl q)
 have hls:tl.length+1<=1000:=by
  rcases hp with⟨rfl,rfl,_⟩|rfl
  ·decide
  ·exact d2 hl
 have T0:=GK (tk:=tk) (w:=w) (wl:=wl) (tr:=tr) (a:=a) (hd1:=hd1) (hd2:=hd2) (i:=1) (k:=k) B (yJ h1) (yJ h2) (d2 hls);have T1:=GK (tk:=tk) (w:=w) (wl:=wl) (tr:=tr) (a:=a) (hd1:=hd1) (hd2:=hd2) (i:=2) (k:=k) B (yJ ht) (yJ ha) (au (L7 hd1 hd2 tl) hls);have F:SS G 4 (eR tk) (az layB 0) (R2 w k tr wl tl a hd1 hd2 []) .next ((qS w k tr tr wl (vB tr a hd1 hd2 tl) a hd1 hd2 2 []).del 8):=by
  conv in az layB 0=>whnf
  refine .for (m':=9) (it:=8) 2 (λi=>qS w k tr tr wl (qL tr a hd1 hd2 tl i) a hd1 hd2 i []) U ay ay (.list (.cons (.tuple (.cons (.loc U U) (.cons (.loc U U) .nil)) U) (.cons (.tuple (.cons (.loc U U) (.cons (.loc U U) .nil)) U) .nil)) U) (dP U) (λi hi=>?_) (D.list hh U U U)
  match i,hi with
  |0,_ =>
   refine aR T0 λτ t1 t2=>?_;exact⟨τ,⟨_,_,_,X.names U U U,.name (.loc (m':=rF w tr [(So "sign",.str (tx [a])),(So "other",.str (tx [P.inv a])),(So "ahead",.str (tx hd1)),(So "last",.str (tx hd2))]) U),.text ak t1⟩,t2⟩
  |1,_ =>
   refine aR T1 λτ t1 t2=>?_;exact⟨τ,⟨_,_,_,X.names U U U,.name (.loc (m':=rF w tr [(So "sign",.str (tx [a])),(So "other",.str (tx [P.inv a])),(So "ahead",.str (tx hd1)),(So "last",.str (tx hd2))]) U),.text ak t1⟩,t2⟩
 have L:SS G 4 (eR tk) (az layB 1) ((qS w k tr tr wl (vB tr a hd1 hd2 tl) a hd1 hd2 2 []).del 8) .next ((qS w k [] tr wl (vB tr a hd1 hd2 tl) a hd1 hd2 2 []).del 8):=by
  conv in az layB 1=>whnf
  exact .to (.assign (.fW (y:=tx []) jn) (.loc U)) U
 exact .text (show layB=[az layB 0,az layB 1] by kernel_rfl) (.cons F (.cons L .nil U) U)
end
section
variable{G:Gv}{tk n m:Nat}{w wl tr hd1 hd2:List Nat}{p tl pl:PL}{a:Nat}{k:Int}{σ:St}
seal a8 cS SS eY bM dD bN eC cU cI ef eX cR gc dJ jK SK SF l5 SemQ
theorem VT{more:List (Str×CV)}:gN 4 (rS w k tr wl p more) (rI w k tr wl p []):=
 gN.mk [(4,4),(5,5)] U U ⟨⟨_,U,rG⟩,⟨_,U,rG⟩,⟨_,U,_,U,U,U,U,U,aE⟩,aD,aD,⟨_,U,qj U⟩,aE⟩
theorem shpQ:gN 4 ((qS w k [] tr wl pl a hd1 hd2 2 []).del 8) (rI w k [] wl pl []):=
 gN.mk [(4,4),(5,5)] U U ⟨⟨_,U,rG⟩,⟨_,U,rG⟩,⟨_,U,_,U,U,U,U,U,aE⟩,aD,aD,⟨_,U,qj U⟩,aE⟩
theorem zq(p:PL)(h:∀q∈p,P.Bl q.1/\∃c,P.Fl c/\q.2=[c]):p.length<=(P.flat p).length/\∀q∈p,q.1.length<=(P.flat p).length:=by
 induction p with
 |nil=>exact⟨bJ _,λzz h=>nomatch h⟩
 |cons q p ih =>
  have ih:=ih λr hr=>h r (.tail _ hr);obtain⟨_,c,_,e⟩:=h q (.head _);have e2:(P.flat (q::p)).length=(P.flat p).length+(q.1.length+1):=by rw[P.ly,aB,aB,e];rfl
  rw[e2];refine⟨cF ih.1 (f7 _ _),λr hr=>?_⟩;rcases List.mem_cons.mp hr with rfl|hr
  ·exact au (cm _) (f7 _ _)
  ·exact au (ih.2 r hr) (bg _ _)
theorem Of(p:PL):Hd p (p.headD ([],[])).1 (p.headD ([],[])).2 p.tail:=by
 cases p with
 |nil=>exact .inl ⟨U,U,U,U⟩
 |cons q p=>exact .inr U
theorem L8(tr:List Nat)(a:Nat)(q:List Nat×List Nat)(tl:PL):vB tr a q.1 q.2 tl=(tr,[a])::((if q=([],[])then []else [q])++tl):=by
 have h:uK q.1 q.2 tl=(if q=([],[])then []else [q])++tl:=by
  unfold uK;by_cases e:q=([],[])
  ·rw[if_pos e,e];rfl
  ·rw[if_neg e,if_neg λz=>e (Prod.ext z.1 z.2)];rfl
 rw[←h];show uK tr [a] _=_;exact if_neg λz=>bP _ _ z.2
theorem QB(B:aO G 4)(hh:G.A.handled=none){s:P.RS}(hW:P.Wf s)(hs:s.2.1≠[])(hl:(P.all s).length<=900):
  ∃τ,eY G 4 (eR tk) jU (rS w k s.1 s.2.1 s.2.2 []) .next τ/\gN 4 τ (rI w k (P.df s).1 (P.df s).2.1 (P.df s).2.2 []):=by
 obtain⟨tr,wl,p⟩:=s;cases wl with
 |nil=>exact absurd U hs
 |cons a wl =>
  have fl:=zq p hW.bT;have l0:(P.flat p).length+tr.length+(wl.length+1)<=900:=by
   have:(P.all (tr,a::wl,p)).length=(P.flat p).length+tr.length+(wl.length+1):=by
    show(P.flat p++tr++(a::wl)).length=_;rw[aB,aB];rfl
   rw[←this];exact hl
  have lt:tr.length+2<=1000:=by lia
  have lw:wl.length<=1000:=by lia
  have lp:p.length+1<=1000:=by have:=fl.1;lia
  have ha:P.Lt a:=hW.wait a (.head _);have T:=λ{τ} (h:SS G 4 (eR tk) (az jU 2) (R1 w k tr wl p a []) .next τ)=>(eY.text (show jU=[az jU 0,az jU 1,az jU 2] by kernel_rfl) (.cons (aaW lw) (.cons (aaV ha) (.cons h .nil U) U) U):eY G 4 (eR tk) jU (rS w k tr (a::wl) p []) .next τ);by_cases hi:a=105∨a=73
  ·rw[show P.df (tr,a::wl,p)=(P.blank tr a,wl,p)from if_pos hi]
   exact⟨_,T (reI hi (d2 lt) U),VT⟩
  ·have hf:P.Fl a:=by
    rcases ha with q|q|q|q
    ·exact .inl q
    ·exact .inr q
    ·exact absurd (.inl q) hi
    ·exact absurd (.inr q) hi
   by_cases hm:(p.headD ([],[])).2=[P.inv a]
   ·rw[show P.df (tr,a::wl,p)=((p.headD ([],[])).1,P.fresh a tr++wl,p.tail)from(if_neg hi).trans (if_pos hm)]
    exact⟨_,T (Qz B hh hf (Of p) (d2 lp) lt lw hm),VT⟩
   ·rw[show P.df (tr,a::wl,p)=([],wl,(tr,[a])::((if p.headD ([],[])=([],[])then []else [p.headD ([],[])])++p.tail))from(if_neg hi).trans (if_neg hm),←L8]
    have h12:P.Wd (p.headD ([],[])).1/\P.Wd (p.headD ([],[])).2:=by
     cases p with
     |nil=>exact⟨λzz h=>(nomatch h),λzz h=>(nomatch h)⟩
     |cons q p =>
      obtain⟨h1,c,h2,h3⟩:=hW.bT q (.head _);refine⟨h1.wd,λb hb=>?_⟩;have hb:b∈q.2:=hb;rw[h3]at hb;cases List.mem_singleton.mp hb;exact h2.elim .inl λq=>.inr (.inl q)
    exact⟨_,T (V5 B hh hf (Of p) lp hm h12.1 h12.2 hW.trail.wd),shpQ⟩
def RcN:Nat->P.RS->P.RS->Prop
 |0,s,e=>s=e
 |n+1,s,e=>s.2.1≠[]/\RcN n (P.df s) e
theorem aaX{s e:P.RS}(h:P.Rc s e):∃n,RcN n s e:=by
 induction h with
 |refl s=>exact⟨0,U⟩
 |step h _ ih=>obtain⟨n,hn⟩:=ih;exact⟨n+1,h,hn⟩
theorem Sj{l:List Nat}(h:P.Wd l):jG (l.map λa=>.str (tx [a]))=af:=by
 induction l with
 |nil=>rfl
 |cons a l ih =>
  rw[cn,jG,ih λb hb=>h b (.tail _ hb),Bool.and_true,PyData.canLay0];exact yJ λb hb=>List.mem_singleton.mp hb▸h a (.head _)
theorem aO.hu2{G n}{da db:PyData}(B:aO G n)(h:db.depth<=50):G.A.units+min da.depth db.depth<cLine:=by
 rw[Nat.min_comm];exact B.hu h
theorem C8(B:aO G 4){t:Bool}(hw:P.Wd wl)(h:(wl != [])=t):bN G (bS .NotEq) (.ref 5) (.ref 6) (rS w k tr wl p []) (.bool t) (rS w k tr wl p []):=by
 refine oV (da:=.list (wl.reverse.map λa=>.str (tx [a]))) (db:=.list []) (.list U (.map (λa=>.str) _)) (.list U .nil) ?_ U (B.hu2 ay) ?_
 ·rw[PyData.canLay0]
  exact Sj λa ha=>hw a (List.mem_reverse.mp ha)
 ·rw[←h,gF]
  cases wl with
  |nil=>rfl
  |cons a wl =>
   rw[dX,bG];cases wl.reverse.map (λa=>PyData.str (tx [a]))<;>rfl
unseal st in
theorem QA(B:aO G 4)(hh:G.A.handled=none){e:P.RS}(he:e.2.1=[])(n:Nat)(h:RcN n ([],w,[]) e)(hw:P.Wd w)(hl:w.length<=900):
  SS G 4 (eR tk) (az (fB (st 17)) 1) (rI w k [] w [] []) .next (rS w k e.1 [] e.2.2 []):=by
 have body:=λ(s:P.RS)(hW:P.Wf s) hs hl=>QB (tk:=tk) (w:=w) (k:=k) B hh (s:=s) hW hs hl
 conv in az (fB (st 17)) 1=>whnf
 refine .Au (λn σ=>∃s:P.RS,σ=rI w k s.1 s.2.1 s.2.2 []/\RcN n s e/\P.Wf s/\(P.all s).length<=900) n ⟨_,U,h,⟨.nil,hw,λzz h=>nomatch h⟩,by show([]++[]++w).length<=900;simpa using hl⟩ U λn σ hI=>?_;refine Fs hI λs es hn hW hl=>?_;subst es;cases n with
 |zero =>
  cases hn;rw[he];exact .inl (.cmp (.loc U U) (.list .nil U) (C8 B (λzz h=>nomatch h) U))
 |succ n =>
  refine aR (body s hW hn.1 hl) λτ h1 h2=>?_;have q:=P.Cg hW hn.1;exact .inr ⟨_,τ,_,n,.cmp (.loc U U) (.list .nil U) (C8 B hW.wait (bne_iff_ne.mpr hn.1)),.text ak h1,h2,bq n,P.df s,U,hn.2,q.1,au q.2.2 hl⟩
unseal st in
theorem V4:SS G m (eR tk) (az (fB (st 17)) 2) (rS w k tr wl p []) (.ret (.str (tx tr))) (rS w k tr wl p []):=by
 conv in az (fB (st 17)) 2=>whnf
 exact .ret (.loc U U)
theorem abe(tk:Nat):jf (nE 17 Ue tk 223) (fB (st 17)) []:=⟨U,U,λL=>ak,U,ak,ak,ak,ak⟩
theorem acj{tk s}(a b:aq):bW s (nE 17 Ue tk 223) ⟨[a,b],[]⟩ [(So "word",a),(So "pile",b)]:=cB (K:=[]) (λzz zz h=>nomatch h) λS=>ak
theorem VK(B:aO G 5){e:P.RS}(h:P.Rc ([],w,[]) e)(he:e.2.1=[])(hw:P.Wd w)(hl:w.length<=900):
  SK G (λvs ws=>call (.ref 224) vs ([].zip ws)) [.str (tx w),.ref 0] [] (pS k []) (.str (tx e.1)) (rS w k e.1 [] e.2.2 []):=by
 refine aR (B.Di) λtk D C=>?_;refine iH (aaX h) λn hn=>?_;exact SK.fj (names:=[]) (m:=4) (f:=.ret (.str (tx e.1))) (rb:=[(So "pile",.ref 0),(So "word",.str (tx w))]) B.cQ D B.cP C (abe tk) (Et λα s u v g q1 q2=>⟨_,acj u v,U,.aZ q2 (.aZ q1 cy)⟩) ak U ak λenv =>
  .text (show fB (st 17)=[az (fB (st 17)) 0,az (fB (st 17)) 1,az (fB (st 17)) 2] by kernel_rfl) (.cons (re0 (p:=[]) B.deep (B.deep (env:=env)).hh (au hl ay)) (.cons (QA B.deep (B.deep (env:=env)).hh he n hn hw hl) (.stop V4 U) U) U)
end
section
variable{place:Nat}{cs:Int×Int}{i j kind:Int}{l:List Nat}
noncomputable def pC:List Int:=[0,1,2,4,7,8,9,10,11,12]
noncomputable def nS:List Int:=[173,847,6150,6155,6156,6157,8203,8204,8205,8288,65279]++(bc 16).map λi=>(65024:Int)+(i:Nat)*1
noncomputable abbrev T7:Str:=So "FF"
noncomputable abbrev T6:Str:=So "FI"
noncomputable abbrev Dv:Str:=So "FFI"
noncomputable def rz(x:Str):Option Int:=if x=T7 then aa 64256 else if x=T6 then aa 64257 else if x=Dv then aa 64259 else none
noncomputable def rM(dress pace:Int)(place:Nat):Int:=(dress+(place:Int)*pace).fmod 16
noncomputable def qm(dress pace:Int)(place:Nat):Int:=dress.fdiv 16+(place:Int)*pace
noncomputable def oI(kind:Int)(c:Nat):Int:=if(c:Int)<97/\kind<12 then(if kind>9 then 8497-33*(if c==73 then(1:Int)else 0)else c+119743+52*pC.getD kind.toNat 0)else c
noncomputable def kI(kind:Int)(l:List Nat)(place rX:Nat)(cs:Int×Int):Int×Int:=if kind>12 then(match rz (tx ((l.drop place).take rX))with|some v=>(v,(rX:Int))|none=>cs)else cs
noncomputable def iM(dress pace:Int)(l:List Nat)(place:Nat):Int×Int:=
 kI (rM dress pace place) l place 3 (kI (rM dress pace place) l place 2 (oI (rM dress pace place) (l.getD place 0),1))
noncomputable def lC(dress pace:Int)(l:List Nat)(place:Nat):List Nat:=
 (if(qm dress pace place).fmod 3==0 then [(nS.getD (((qm dress pace place).fdiv 3).fmod 27).toNat 0).toNat]else [])++[(iM dress pace l place).1.toNat]
noncomputable def k9(dress pace:Int)(l:List Nat):Nat->Nat->List Nat->List Nat
 |0,_,acc=>acc
 |n+1,place,acc=>if place<l.length then k9 dress pace l n (place+(iM dress pace l place).2.toNat) (acc++lC dress pace l place)else acc
noncomputable def kT(dress pace:Int)(l:List Nat):List Nat:=k9 dress pace l l.length 0 []
theorem FK{x: Str}{v: Int}(h:rz x=aa v):0<=v/\v<=100000:=by
 unfold rz at h
 split at h
 ·cases h;decide
 ·split at h
  ·cases h;decide
  ·split at h
   ·cases h;decide
   ·cases h
theorem yZ(dress pace:Int)(place:Nat):0<=rM dress pace place/\rM dress pace place<16:=⟨gX _ ay,mP _ ay⟩
theorem JY(k:Nat):0<=pC.getD k 0/\pC.getD k 0<=12:=by
 match k with
 |0=>decide
 |1=>decide
 |2=>decide
 |3=>decide
 |4=>decide
 |5=>decide
 |6=>decide
 |7=>decide
 |8=>decide
 |9=>decide
 |n+10=>simp[pC]
theorem yS{rX: Nat}(h:0<=cs.1/\cs.1<=200000/\1<=cs.2/\cs.2<=3)(hm:1<=rX/\rX<=3):0<=(kI kind l place rX cs).1/\(kI kind l place rX cs).1<=200000/\1<=(kI kind l place rX cs).2/\(kI kind l place rX cs).2<=3:=by
 unfold kI
 split
 ·split
  ·rename_i v hv
   have:=FK hv;refine⟨?_,?_,?_,?_⟩<;>simp only<;>lia
  ·exact h
 ·exact h
theorem EN{c: Nat}(hc:32<=c/\c<=200):0<=oI kind c/\oI kind c<=200000:=by
 unfold oI;have:=JY kind.toNat
 split
 ·split
  ·split<;>decide
  ·lia
 ·lia
theorem qC{dress pace: Int}(hc:32<=l.getD place 0/\l.getD place 0<=200):0<=(iM dress pace l place).1/\(iM dress pace l place).1<=200000/\1<=(iM dress pace l place).2/\(iM dress pace l place).2<=3:=by
 have h0:=EN (kind:=rM dress pace place) hc;exact yS (yS ⟨h0.1,h0.2,b_ 1,by simp⟩ ay) ay
theorem v3:nS.length=27:=by decide
theorem Kz(k:Nat):0<=nS.getD k 0/\nS.getD k 0<=65279:=by
 by_cases h:k<27
 ·have:(nS.all λx=>decide (0<=x/\x<=65279))=af:=by decide
  have h2:=List.all_eq_true.mp this (nS[k]'(by rw[v3];exact h)) (ew _);rw[aU,aP (by rw[v3];exact h)];simpa using h2
 ·have:nS.getD k 0=0:=by
   rw[aU,d9 (by rw[v3];lia)];rfl
  rw[this];decide
theorem C3(h0:0<=i)(h1:i<=j)(h:(l.length:Int)<=j):(l.drop i.toNat).length<=(j-i).toNat:=by
 rw[gz,Nat.sub_le_iff_le_add,Nat.add_comm,uy h0 h1];exact(Int.le_toNat (bY h0 h1)).mpr h
theorem DK(h0:0<=i)(h1:i<=j)(h2:i<=l.length):fv (tx l) (aa i) (aa j)=tx ((l.drop i.toNat).take (j-i).toNat):=by
 by_cases h:j<=l.length
 ·exact s7 h0 h1 h
 ·have e:bK (aa i) (aa j) 1 (tx l).length=bK (aa i) (aa (l.length:Int)) 1 (tx l).length:=by
   rw[cw];have a:¬(j<0):=Int.not_lt.mpr (bY h0 h1);have b:¬((l.length:Int)<0):=Int.not_lt.mpr (aI _);have c:max 0 (min j (l.length:Int))=max 0 (min (l.length:Int) (l.length:Int)):=by rw[Int.min_self,Int.min_eq_right (d4 (Int.not_le.mp h))]
   simp only[bK,a,b,if_false,show(1:Int)>0 by decide,if_true];rw[c]
  have e2:fv (tx l) (aa i) (aa j)=fv (tx l) (aa i) (aa (l.length:Int)):=by
   unfold fv;rw[e]
  rw[e2,s7 h0 h2 (b_ _)];rw[dj (C3 h0 h1 (d4 (Int.not_le.mp h))),dj (C3 h0 h2 (b_ _))]
noncomputable def EM(kind:Int)(l:List Nat)(place:Nat)(cs:Int×Int):Nat->Int×Int
 |0=>cs
 |1=>kI kind l place 2 cs
 |_=>kI kind l place 3 (kI kind l place 2 cs)
theorem EL{i: Nat}(h:i<2):EM kind l place cs (i+1)=kI kind l place (i+2) (EM kind l place cs i):=by
 cases i with
 |zero=>rfl
 |succ i=>cases i with
  |zero=>rfl
  |succ i=>exact absurd (ki (ki h)) (Nat.not_lt_zero _)
theorem uY(dress pace:Int)(l:List Nat)(place:Nat):(lC dress pace l place).length<=2:=by
 unfold lC;rw[aB];cases((qm dress pace place).fmod 3==0)
 ·exact cm 1
 ·exact aW 2
noncomputable def pd:List (Str×Int):=[(T7,64256),(T6,64257),(Dv,64259)]
theorem Dt(x:Str):pd.lookup x=rz x:=by
 unfold pd rz;by_cases a:x=T7
 ·subst a;simp[jx]
 ·have e:∀y:Str,x≠y->(x==y)=false:=λy h=>beq_false_of_ne h
  rw[if_neg a,a7,e _ a];by_cases b:x=T6
  ·subst b;simp[jx]
  ·rw[if_neg b,a7,e _ b]
   by_cases c:x=Dv
   ·subst c;simp[jx]
   ·rw[if_neg c,a7,e _ c];rfl
noncomputable abbrev D5:Str:=Sx [95,108,97,119,95,116,121,112,101,100]
theorem Dj(P:ag)(f:Nat->Obj)(kt tk:Nat):(fq P f kt tk).get? 217=aa (Hs P kt tk):=by kernel_rfl
theorem ZL(P:ag)(f:Nat->Obj)(kt tk:Nat):(fq P f kt tk).get? 216=aa (NO P kt tk):=by kernel_rfl
theorem Zf(P:ag)(kt tk:Nat):(Hs P kt tk).data=.func (nE 16 D5 tk 216):=by kernel_rfl
theorem aO.Dj{G n}(B:aO G n):∃tk,eZ G 217 (nE 16 D5 tk 216)/\G.h₀.CodeRec (R 216) D5:=B.fnAt Mine.Internal.Dj ZL Zf λzz zz zz=>⟨_,_,U,U⟩
theorem aaB(P:ag)(f:Nat->Obj)(kt tk:Nat):∃o,(fq P f kt tk).get? sysModules=aa o:=Option.isSome_iff_exists.mp ak
theorem aO.sys{G n}(B:aO G n):(G.h₀.get? sysModules).isSome=af:=by
 obtain⟨f,kt,tk,es,ep,_,_,c⟩:=B.heap;obtain⟨o,ho⟩:=aaB G.w.params f kt tk;rw[c _ _ (by rfl) ho];rfl
end
section
variable{G:Gv}{tk place:Nat}{l acc:List Nat}{dress pace kind size code move:Int}{b:Bool}{i:Nat}{σ:St}{cs:Int×Int}
noncomputable abbrev eT(tk:Nat):Env:=entryE (nE 16 D5 tk 216) [] 0 217
noncomputable abbrev jT:List Stmt:=fB (az (fB (st 16)) 3)
noncomputable abbrev tF(l:List Nat)(dress pace:Int)(acc:List Nat)(place:Int):List (Str×CV):=[(So "pace",.int pace),(So "dress",.int dress),(So "word",.str (tx l)),(So "wide",.ref 1),(So "unseen",.ref 2),(So "text",.str (tx acc)),(So "place",.int place)]
noncomputable abbrev tG(l:List Nat)(dress pace:Int)(acc:List Nat)(place kind size code move:Int):List (Str×CV):=[(So "pace",.int pace),(So "dress",.int dress),(So "word",.str (tx l)),(So "wide",.ref 1),(So "unseen",.ref 2),(So "text",.str (tx acc)),(So "place",.int place),(So "kind",.int kind),(So "size",.int size),(So "code",.int code),(So "move",.int move)]
noncomputable abbrev tZ(fr:List (Str×CV)):St:=⟨[(0,.frame fr),(1,.zy pd),(2,.list (nS.map .int))],3⟩
theorem tz:xY (eT tk) tZ:=⟨λzz=>U,λzz zz=>U⟩
theorem D1{i: Int}:bN G (eB .Mult) (.int i) (.bool b) σ (.int (i*if b=af then(1:Int)else 0)) σ:=by
 rintro α s _ _ E g ⟨t,rfl⟩ rfl;exact PySem.IntBool.mul_int_bool (g.fh ⟨_,U⟩)
seal a8 cS SS eY bM dD bN eC cU cI ef eX cR gc dJ jK SK SF l5
unseal st in
theorem PM(B:aO G 4)(hh:G.A.handled=none)(rN:place<l.length)(hl:l.length<=1000):SS G 1 (eT tk) (az jT 0) (tZ (tF l dress pace acc place)) .next (tZ (tG l dress pace acc place (rM dress pace place) 1 (l.getD place 0:Nat) (qm dress pace place))):=by
 conv in az jT 0=>whnf
 have hms:IntMulOk (place:Int) pace:=lx (aM (aM rN hl) ay);have hx:(tx l).cps[(place:Int).toNat]?=aa (l.getD place 0):=by
  show l.toArray[place]?=_;simp[rN]
 exact .to (.ig (.tuple (.cons (.bin (.bin (tz.loc U) (.bin (tz.loc U) (tz.loc U) (pH hms)) jq) .int (nu ay)) (.cons .int
  (.cons (.mn (.glob (xF B)) (.cons (.sub (tz.loc U) (tz.loc U) (k_ (aI _) hx (by rw[cw];exact aY hl ay))) .nil) (QP U))
  (.cons (.bin (.bin (tz.loc U) .int (mc ay ay)) (.bin (tz.loc U) (tz.loc U) (pH hms)) jq) .nil)))) U)
  (.tuple hh (.name (.loc U) (.name (.loc U) (.name (.loc U) (.name (.loc U) .nil))))) (hw:=λenv h=>(bQ h).trans ak)) U
theorem M7(h0:0<=kind)(h1:kind<10):(pC.map CV.int)[kind.toNat]?=aa (.int (pC.getD kind.toNat 0)):=n9 h0 h1
unseal st in
theorem aav{c: Nat}(B:aO G 4)(h0:0<=kind)(rN:place<l.length)(hl:l.length<=1000)(hc:c=l.getD place 0):SS G 1 (eT tk) (az jT 1) (tZ (tG l dress pace acc place kind size c move)) .next (tZ (tG l dress pace acc place kind size (oI kind c) move)):=by
 conv in az jT 1=>whnf
 by_cases h1:(c:Int)<97
 ·by_cases h3:kind<12
  ·by_cases h2:kind>9
   ·have e:oI kind c=8497-33*(if c==73 then(1:Int)else 0):=(if_pos ⟨h1,h3⟩).trans (if_pos h2)
    rw[e];have hx:(tx l).cps[(place:Int).toNat]?=aa c:=by
     show l.toArray[place]?=_;rw[hc];simp[rN]
    have he:((⟨#[c]⟩:Str)==aF "I")=(c==73):=by
     rw[show aF "I"=tx [73] by kernel_rfl,show(⟨#[c]⟩:Str)=tx [c]from U,qM];show(c==73&&([]:List Nat)==[])=_;rw[show(([]:List Nat)==[])=af from U,Bool.and_true]
    exact .to (.js (b:=af) (.sa (.cmp (tz.loc U) .int (iK.to (decide_eq_true h1))) (.uj (.cmp (tz.loc U) .int (iK.to (decide_eq_true h3))))) (.cons (.assign (.js (b:=af) (.cmp (tz.loc U) .int (rE.to (decide_eq_true h2)))
     (.bin .int (.bin .int (.cmp (.sub (tz.loc U) (tz.loc U) (k_ (aI _) hx (by rw[cw];exact aY hl ay))) .str (vi.to he)) D1) pG)) (.loc U)) .nil U)) U
   ·have e:oI kind c=c+119743+52*pC.getD kind.toNat 0:=(if_pos ⟨h1,h3⟩).trans (if_neg h2)
    have h4:kind<10:=by lia
    rw[e];refine .shp (σ1:=⟨[(3,.list (pC.map .int)),(0,.frame (tG l dress pace acc place kind size (c+119743+52*pC.getD kind.toNat 0) move)),(1,.zy pd),(2,.list (nS.map .int))],4⟩) (.to (.js (b:=af) (.sa (.cmp (tz.loc U) .int (iK.to (decide_eq_true h1))) (.uj (.cmp (tz.loc U) .int (iK.to (decide_eq_true h3))))) (.cons (.assign
     (.js (b:=false) (.cmp (tz.loc U) .int (rE.to (decide_eq_false h2))) (.bin (.bin (tz.loc U) .int jq) (.bin .int (.sub (.list (.cons .int (.cons .int (.cons .int (.cons .int (.cons .int (.cons .int (.cons .int (.cons .int (.cons .int (.cons .int .nil)))))))))) U) (.loc U U)
      (cz (xs:=pC.map .int) U h0 (M7 h0 h4) ay)) (pH (lx ay))) jq)) (.loc U)) .nil U)) U) ?_
    exact gN.mk [(1,1),(2,2)] U U ⟨⟨_,U,_,U,U,U,U,U,U,U,U,U,U,U,U,aE⟩,aD,⟨_,U,aS⟩,aE⟩
  ·have e:oI kind c=c:=if_neg λq=>h3 q.2
   rw[e];exact .js (b:=false) (.sa (.cmp (tz.loc U) .int (iK.to (decide_eq_true h1))) (.uj (.cmp (tz.loc U) .int (iK.to (decide_eq_false h3))))) .nil
 ·have e:oI kind c=c:=if_neg λq=>h1 q.1
  rw[e];exact .js (b:=false) (.JX (.cmp (tz.loc U) .int (iK.to (decide_eq_false h1)))) .nil
noncomputable abbrev tM(l:List Nat)(dress pace:Int)(acc:List Nat)(place kind move:Int)(cs:Int×Int)(i:Nat)(fr:List (Str×CV)):St:=⟨[(4,.ix 3 i),(3,.list ([2,3].map .int)),(0,.frame (tG l dress pace acc place kind cs.2 cs.1 move++fr)),(1,.zy pd),(2,.list (nS.map .int))],5⟩
theorem Vx{fr: List (Str×CV)}:gN 5 (tM l dress pace acc place kind move cs i fr) (tM l dress pace acc place kind move cs i []):=
 gN.mk [] U U ⟨aD,⟨_,U,aS⟩,⟨_,U,_,U,U,U,U,U,U,U,U,U,U,U,U,aE⟩,aD,⟨_,U,aS⟩,aE⟩
theorem LW(rN:place<l.length):fv (tx l) (aa (place:Int)) (aa ((place:Int)+((i+2:Nat):Int)))=tx ((l.drop place).take (i+2)):=by
 rw[DK (aI _) (Int.le_add_of_nonneg_right (aI _)) (Int.ofNat_le.mpr (bX rN)),bU,Int.add_comm,Int.add_sub_cancel,bU]
unseal st in
theorem PH(B:aO G 4)(hh:G.A.handled=none)(rN:place<l.length)(hl:l.length<=1000):eY G 5 (eT tk) (fB (az jT 2)) (tM l dress pace acc place kind move cs (i+1) [(So "many",.int ((i+2:Nat):Int))]) .next (tM l dress pace acc place kind move (kI kind l place (i+2) cs) (i+1) [(So "many",.int ((i+2:Nat):Int))]):=by
 conv in fB _=>whnf
 have sl:cR G (.str (tx l)) (aa (place:Int)) (aa ((place:Int)+((i+2:Nat):Int))) none (tM l dress pace acc place kind move cs (i+1) [(So "many",.int ((i+2:Nat):Int))]) (.str (tx ((l.drop place).take (i+2)))) (tM l dress pace acc place kind move cs (i+1) [(So "many",.int ((i+2:Nat):Int))]):=
  LW rN▸mZ (by rw[cw];exact bD (au hl ay))
 by_cases hk:kind>12
 ·have hw:=Dt (tx ((l.drop place).take (i+2)))
  cases hv:rz (tx ((l.drop place).take (i+2)))with
  |none =>
   have e:kI kind l place (i+2) cs=cs:=(if_pos hk).trans (by rw[hv]);rw[e];exact .cons (.js (b:=false) (.sa (.cmp (.loc U U) .int (rE.to (decide_eq_true hk))) (.uj (.cmp (.slice (.loc U U) (.at (.loc U U)) (.at (.bin (.loc U U) (.loc U U) jq)) .no sl) (.loc U U) (tB U B.sys (by rw[hw,hv];rfl))))) .nil) .nil U
  |some v =>
   have e:kI kind l place (i+2) cs=(v,((i+2:Nat):Int)):=(if_pos hk).trans (by rw[hv]);rw[e];exact .cons (.js (b:=af) (.sa (.cmp (.loc U U) .int (rE.to (decide_eq_true hk))) (.uj (.cmp (.slice (.loc U U) (.at (.loc U U)) (.at (.bin (.loc U U) (.loc U U) jq)) .no sl) (.loc U U) (tB U B.sys (by rw[hw,hv];rfl)))))
    (.cons (.to (.swap (names:=[So "code",So "size"]) hh (.tuple (.cons (.sub (.loc U U) (.slice (.loc U U) (.at (.loc U U)) (.at (.bin (.loc U U) (.loc U U) jq)) .no sl) (Gd U (hw.trans hv))) (.cons (.loc U U) .nil)) U) U (.bind (.loc U) (.bind (.loc U) .nil)) (hw:=λenv h=>(bQ h).trans ak)) U) .nil U)) .nil U
 ·have e:kI kind l place (i+2) cs=cs:=if_neg hk
  rw[e];exact .cons (.js (b:=false) (.JX (.cmp (.loc U U) .int (rE.to (decide_eq_false hk)))) .nil) .nil U
theorem PO(h:i<2):(([2,3]:List Int).map CV.int)[i]?=aa (.int ((i+2:Nat):Int)):=by
 cases i with
 |zero=>rfl
 |succ i=>cases i with
  |zero=>rfl
  |succ i=>exact absurd h (Nat.not_lt.mpr (f7 2 i))
unseal st in
theorem PI(B:aO G 4)(hh:G.A.handled=none)(rN:place<l.length)(hl:l.length<=1000):SS G 1 (eT tk) (az jT 2) (tZ (tG l dress pace acc place kind size code move)) .next
  (tZ (tG l dress pace acc place kind (EM kind l place (code,size) 2).2 (EM kind l place (code,size) 2).1 move)):=by
 conv in az jT 2=>whnf
 refine .shp (SS.for (m':=5) (it:=4) 2 (λi=>tM l dress pace acc place kind move (EM kind l place (code,size) i) i []) U ay ay (.list (.cons .int (.cons .int .nil)) U) (dP U) (λi hi=>?_) (D.list hh U U U))
  (gN.mk [(1,1),(2,2)] U U ⟨⟨_,U,_,U,U,U,U,U,U,U,U,U,U,U,U,aE⟩,aD,⟨_,U,aS⟩,aE⟩)
 rw[EL hi];exact⟨_,⟨_,_,_,X.names U U (PO hi),.name (.loc U),PH (acc:=acc) (dress:=dress) (pace:=pace) (kind:=kind) (move:=move) (cs:=EM kind l place (code,size) i) (i:=i) B hh rN hl⟩,Vx⟩
theorem Mg{a b: List Nat}(h:a.length+b.length<=2^20):bN G (inplaceOp .Add) (.str (tx a)) (.str (tx b)) σ (.str (tx (a++b))) σ:=FY a b▸yI (Ca h)
theorem JD{i: Int}(h0:0<=i)(h1:i<=1114111):bM G (λvs=>call (.builtin "chr") vs) [.int i] σ (.str (tx [i.toNat])) σ:=ab9 h0 h1
theorem CA{α:Type}{x:α}:(if b then [x]else []).length<=1:=by cases b<;>simp
theorem FR{j: Int}(h0:0<=j)(h1:j<27):(nS.map CV.int)[j.toNat]?=aa (.int (nS.getD j.toNat 0)):=n9 h0 h1
noncomputable abbrev Nt(move code:Int):List Nat:=(if(move.fmod 3==0)=af then [(nS.getD ((move.fdiv 3).fmod 27).toNat 0).toNat]else [])++[code.toNat]
theorem DM:(Nt move code).length<=2:=by
 rw[aB];exact cE CA 1
unseal st in
theorem PK(B:aO G 4)(hc:0<=code/\code<=200000)(pL:acc.length<=10000):eY G 1 (eT tk) [az jT 3,az jT 4] (tZ (tG l dress pace acc place kind size code move)) .next (tZ (tG l dress pace (acc++Nt move code) (place+size) kind size code move)):=by
 conv in az jT 3=>whnf
 conv in az jT 4=>whnf
 have hj0:0<=(move.fdiv 3).fmod 27:=gX _ ay;have hj1:(move.fdiv 3).fmod 27<27:=mP _ ay;have hr:=Kz ((move.fdiv 3).fmod 27).toNat;exact .cons (.to (.aug (.loc U U) (.bin (.bin (.mn (.glob (Dc B)) (.cons (.sub (.loc U U) (.bin (.bin (.loc U U) .int (mc ay ay)) .int (nu ay)) (cz U hj0 (FR hj0 hj1) ay)) .nil) (JD hr.1 (bY hr.2 ay)))
   (.cmp (.bin (.loc U U) .int (nu ay)) .int vm) Im) (.mn (.glob (Dc B)) (.cons (.loc U U) .nil) (JD hc.1 (bY hc.2 ay))) (j9 (au (cE CA 1) ay)))
   (Mg (au (cF pL DM) ay)) (.loc U)) U)
  (.cons (.to (.aug (.loc U U) (.loc U U) sj (.loc U)) U) .nil U) U
end
section
variable{G:Gv}{tk n place:Nat}{l acc:List Nat}{dress pace kind size code move:Int}{a p:Nat}
seal a8 cS SS eY bM dD bN eC cU cI ef eX cR gc dJ jK SK SF l5
noncomputable abbrev P0(l:List Nat)(dress pace:Int):List (Str×CV):=[(So "pace",.int pace),(So "dress",.int dress),(So "word",.str (tx l))]
theorem As:([T7,T6,Dv]:List Str).Nodup:=by decide +kernel
unseal st in
theorem KH(B:aO G 4):SS G 1 (eT tk) (az (fB (st 16)) 0) ⟨[(0,.frame (P0 l dress pace))],1⟩ .next ⟨[(1,.zy pd),(0,.frame (P0 l dress pace++[(So "wide",.ref 1)]))],2⟩:=by
 conv in az (fB (st 16)) 0=>whnf
 exact .to (.assign (.dict [((T7,0,⟨112,12,112,16⟩),64256,0,⟨112,18,112,23⟩),((T6,0,⟨112,25,112,29⟩),64257,0,⟨112,31,112,36⟩),((Dv,0,⟨112,38,112,43⟩),64259,0,⟨112,45,112,50⟩)] U U As) (.loc U)) U
unseal st in
theorem KG(B:aO G 4)(hh:G.A.handled=none):SS G 1 (eT tk) (az (fB (st 16)) 1) ⟨[(1,.zy pd),(0,.frame (P0 l dress pace++[(So "wide",.ref 1)]))],2⟩ .next ⟨[(0,.frame (P0 l dress pace++[(So "wide",.ref 1),(So "unseen",.ref 2)])),(1,.zy pd),(2,.list (nS.map .int))],3⟩:=by
 conv in az (fB (st 16)) 1=>whnf
 refine .shp (σ1:=⟨[(5,.list (nS.map .int)),(4,.list (lH 65024 1 16)),(3,.n5 65024 65040 1),(2,.list [.int 173,.int 847,.int 6150,.int 6155,.int 6156,.int 6157,.int 8203,.int 8204,.int 8205,.int 8288,.int 65279]),(1,.zy pd),(0,.frame (P0 l dress pace++[(So "wide",.ref 1),(So "unseen",.ref 5)]))],6⟩)
  (.to (.assign (.bin (.list (.cons .int (.cons .int (.cons .int (.cons .int (.cons .int (.cons .int (.cons .int (.cons .int (.cons .int (.cons .int (.cons .int .nil))))))))))) U)
  (.jS (.glob (oQ B)) (.cons (.jS (.glob (jb B)) (.cons .int (.cons .int .nil)) QC) .nil) (uJ (n:=16) hh U ak ak ay))
  (add_lists U U ay)) (.loc U)) ak) (gN.mk [(1,1),(2,5)] U U ⟨⟨_,U,_,U,U,U,U,U,U,aE⟩,aD,⟨_,U,aS⟩,aE⟩)
unseal st in
theorem KD(B:aO G 4)(hh:G.A.handled=none):SS G 1 (eT tk) (az (fB (st 16)) 2) ⟨[(0,.frame (P0 l dress pace++[(So "wide",.ref 1),(So "unseen",.ref 2)])),(1,.zy pd),(2,.list (nS.map .int))],3⟩ .next (tZ (tF l dress pace [] ((0:Nat):Int))):=by
 conv in az (fB (st 16)) 2=>whnf
 exact .to (.ig (.tuple (.cons .str (.cons .int .nil)) U) (.tuple hh (.name (.loc U) (.name (.loc U) .nil))) (hw:=λenv h=>(bQ h).trans ak)) ak
theorem JK:jT=[az jT 0,az jT 1,az jT 2,az jT 3,az jT 4]:=by kernel_rfl
theorem Vv{q: Int}:gN 1 (tZ (tG l dress pace acc q kind size code move)) (tZ (tF l dress pace acc q)):=
 gN.mk [(1,1),(2,2)] U U ⟨⟨_,U,_,U,U,U,U,U,U,U,U,aE⟩,aD,⟨_,U,aS⟩,aE⟩
noncomputable def sQ(dress pace:Int)(l:List Nat):Nat->Nat->Nat
 |0,place=>place
 |n+1,place=>if place<l.length then sQ dress pace l n (place+(iM dress pace l place).2.toNat)else place
theorem ye(h:¬place<l.length):k9 dress pace l n place acc=acc/\sQ dress pace l n place=place:=by
 cases n with
 |zero=>exact⟨U,U⟩
 |succ n=>exact⟨if_neg h,if_neg h⟩
noncomputable def wq(dress pace:Int)(l:List Nat):Nat:=sQ dress pace l l.length 0
theorem PN(B:aO G 4)(hh:G.A.handled=none)(rN:place<l.length)(hl:l.length<=1000)(hc:32<=l.getD place 0/\l.getD place 0<=200)(pL:acc.length<=10000):
  eY G 1 (eT tk) jT (tZ (tF l dress pace acc place)) .next (tZ (tG l dress pace (acc++lC dress pace l place) (place+(iM dress pace l place).2) (rM dress pace place) (iM dress pace l place).2 (iM dress pace l place).1 (qm dress pace place))):=
 .text JK (.cons (PM B hh rN hl) (.cons (aav B (yZ _ _ _).1 rN hl U) (.cons (PI B hh rN hl) (PK B ⟨(qC hc).1,(qC hc).2.1⟩ pL) U) U) U)
theorem KA{k x: Nat}{s: Int}(h1:l.length<=p+(k+1))(h2:a<=2*p)(h3:1<=s)(h4:s<=3)(hp:p<l.length)(hx:x<=2):l.length<=p+s.toNat+k/\a+x<=2*(p+s.toNat)/\p+s.toNat<=l.length+2:=by
 refine iH (eQ (show 0<=s by lia)) λj kE=>?_;obtain rfl:=kE;rw[bU];exact⟨by lia,by lia,by lia⟩
theorem FV(h:p<=l.length+2)(hl:l.length<=1000)(ha:a<=2*p):a<=10000:=by lia
theorem xC(hc:∀c∈l,32<=c/\c<=200)(i8:place<l.length):32<=l.getD place 0/\l.getD place 0<=200:=by
 rw[aU,aP i8];exact hc _ (ew _)
theorem KC{e: Env}{wa: Expr}{body: List Stmt}{pos: Pos}{S:List Nat->Nat->St}(hb:EB 1 e=af)(hc:∀c∈l,32<=c/\c<=200)(hl:l.length<=1000)(hT:∀acc place,cS G e wa (S acc place) (decide ((place:Int)<l.length)) (S acc place))
  (hB:∀acc place,place<l.length->acc.length<=10000->∃τ,eY G 1 e body (S acc place) .next τ/\gN 1 τ (S (acc++lC dress pace l place) (place+(iM dress pace l place).2.toNat))):
  SS G 1 e (.While wa body [] pos) (S [] 0) .next (S (kT dress pace l) (wq dress pace l)):=by
 refine .Au (λn σ=>∃acc place,σ=S acc place/\k9 dress pace l n place acc=kT dress pace l/\sQ dress pace l n place=wq dress pace l/\l.length<=place+n/\acc.length<=2*place/\place<=l.length+2) l.length
  ⟨[],0,U,U,U,d3 (gW _).symm,aW 0,bJ _⟩ hb ?_
 intro n _ ya;refine Fq (ya) λacc place pW hgo hp hn pL hpb=>?_;obtain rfl:=pW;have hT:=hT acc place;by_cases i8:place<l.length
 ·cases n with
  |zero=>exact absurd i8 (Nat.not_lt.mpr hn)
  |succ n =>
  have hcr:=qC (dress:=dress) (pace:=pace) (l:=l) (place:=place) (xC hc i8);refine Fu (KA (x:=(lC dress pace l place).length) hn pL hcr.2.2.1 hcr.2.2.2 i8 (uY _ _ _ _)) λs1 s2 s3=>?_;unfold k9 at hgo;unfold sQ at hp;rw[if_pos i8]at hgo hp;rw[decide_eq_true (Int.ofNat_lt.mpr i8)]at hT;refine aR (hB acc place i8 (FV hpb hl pL)) λτ b1 b2=>?_;exact .inr ⟨_,τ,_,n,hT,b1,b2,bq n,acc++lC dress pace l place,place+(iM dress pace l place).2.toNat,U,hgo,hp,s1,by rw[aB];exact s2,s3⟩
 ·obtain⟨e1,e2⟩:=ye (dress:=dress) (pace:=pace) (acc:=acc) (n:=n) i8
  rw[←hgo,←hp,e1,e2];rw[decide_eq_false λh=>i8 (Int.ofNat_lt.mp h)]at hT;exact .inl hT
unseal st in
theorem PJ(B:aO G 4)(hh:G.A.handled=none)(hl:l.length<=1000)(hc:∀c∈l,32<=c/\c<=200):SS G 1 (eT tk) (az (fB (st 16)) 3) (tZ (tF l dress pace [] ((0:Nat):Int))) .next (tZ (tF l dress pace (kT dress pace l) (wq dress pace l))):=by
 have bt:=λ(acc:List Nat)(place:Nat)(i8:place<l.length)(ha:acc.length<=10000)=>PN (tk:=tk) (dress:=dress) (pace:=pace) B hh i8 hl (xC hc i8) ha
 conv in az (fB (st 16)) 3=>whnf
 refine KC (S:=λacc place=>tZ (tF l dress pace acc (place:Nat))) U hc hl (λacc place=>.cmp (.loc U U) (.mn (.glob (gC B)) (.cons (.loc U U) .nil) (wU hl)) iK) λacc place i8 ha=>⟨_,bt acc place i8 ha,?_⟩;have hcr:=qC (dress:=dress) (pace:=pace) (l:=l) (place:=place) (xC hc i8);have e:(place:Int)+(iM dress pace l place).2=((place+(iM dress pace l place).2.toNat:Nat):Int):=by
  rw[Int.natCast_add,lT (bY ay hcr.2.2.1)]
 exact e▸Vv
unseal st in
theorem Vw{m: Nat}:eY G m (eT tk) [az (fB (st 16)) 4] (tZ (tF l dress pace acc place)) (.ret (.str (tx acc))) (tZ (tF l dress pace acc place)):=by
 conv in az (fB (st 16)) 4=>whnf
 exact .stop (.ret (.loc U U)) U
theorem Wx(tk:Nat):jf (nE 16 D5 tk 216) (fB (st 16)) []:=⟨U,U,λL=>ak,U,ak,ak,ak,ak⟩
theorem ZC{tk s}(a b c:aq):bW s (nE 16 D5 tk 216) ⟨[a,b,c],[]⟩ [(So "word",a),(So "dress",b),(So "pace",c)]:=cB (K:=[]) (λzz zz h=>nomatch h) λS=>ak
theorem VL{σ: St}(B:aO G 5)(hh:G.A.handled=none)(hl:l.length<=1000)(hc:∀c∈l,32<=c/\c<=200):SK G (λvs ws=>call (.ref 217) vs ([].zip ws)) [.str (tx l),.int dress,.int pace] [] σ (.str (tx (kT dress pace l))) σ:=
 SK.free (τ1:=tZ (tF l dress pace (kT dress pace l) (wq dress pace l))) (λh k=>by
  have B':=B.ext k;refine aR (B'.Dj) λtk D C=>?_;exact SK.fj (names:=[]) (m:=1) (f:=.ret (.str (tx (kT dress pace l)))) (rb:=P0 l dress pace) B'.cQ D B'.cP C (Wx tk) (abW λα s u v w g q1 q2 q3=>⟨_,ZC u v w,U,.aZ q3 (.aZ q2 (.aZ q1 cy))⟩) ak U ak λenv =>
   .text (show fB (st 16)=[az (fB (st 16)) 0,az (fB (st 16)) 1,az (fB (st 16)) 2,az (fB (st 16)) 3,az (fB (st 16)) 4] by kernel_rfl) (.cons (KH B'.deep) (.cons (KG B'.deep hh) (.cons (KD B'.deep hh) (.cons (PJ B'.deep hh hl hc) Vw U) U) U) U)) (λzz=>U) λzz=>U
end
section
noncomputable abbrev Uh:Str:=Sx [95,108,97,119,95,100,114,97,119,110]
theorem Dk(P:ag)(f:Nat->Obj)(kt tk:Nat):(fq P f kt tk).get? 210=aa (Ht P kt tk):=by kernel_rfl
theorem ZM(P:ag)(f:Nat->Obj)(kt tk:Nat):(fq P f kt tk).get? 209=aa (NP P kt tk):=by kernel_rfl
theorem Zg(P:ag)(kt tk:Nat):(Ht P kt tk).data=.func (nE 15 Uh tk 209):=by kernel_rfl
theorem aO.Dk{G n}(B:aO G n):∃tk,eZ G 210 (nE 15 Uh tk 209)/\G.h₀.CodeRec (R 209) Uh:=B.fnAt Mine.Internal.Dk ZM Zg λzz zz zz=>⟨_,_,U,U⟩
noncomputable def M9(cs:List Int)(i:Nat)(x:Int):List Int:=cs.set (i % 5) (cs.getD (i % 5) 0+x.fmod 1000000)
noncomputable def gp(ys:List Int)(n:Nat):List Int:=(bc n).foldl (λcs i=>M9 cs i (ys.getD i 0)) [59,39,216,13,9]
theorem oK(ys:List Int)(n:Nat):gp ys (n+1)=M9 (gp ys n) n (ys.getD n 0):=by
 unfold gp;rw[List.range_succ,List.foldl_append];rfl
theorem lP(ys:List Int)(n:Nat):(gp ys n).length=5:=by
 induction n with
 |zero=>rfl
 |succ n ih=>rw[oK];unfold M9;rw[List.length_set];exact ih
theorem BM(ys:List Int)(n:Nat):∀x∈gp ys n,0<=x:=by
 induction n with
 |zero=>intro x h;simp[gp]at h;lia
 |succ n ih =>
  intro x h;rw[oK]at h;unfold M9 at h;rcases List.mem_or_eq_of_mem_set h with h|rfl
  ·exact ih x h
  ·have h1:0<=(gp ys n).getD (n % 5) 0:=by
    have hl:=lP ys n;have hk:n % 5<(gp ys n).length:=by lia
    rw[show(gp ys n).getD (n % 5) 0=(gp ys n)[n % 5] by simp[hk]];exact ih _ (ew hk)
   have h2:=gX (ys.getD n 0) (b:=1000000) ay;lia
noncomputable def iL(aX:List Int):List Int:=gp (aX.take 60) (aX.take 60).length
noncomputable def px:List Nat:=[102,70,105,73]
noncomputable def rt(n:Nat)(s:List Nat):List Nat:=[px.getD (n/6 % 4) 0]++s++[px.getD (n/24 % 4) 0]
noncomputable def lD(n:Nat):List Nat×List Nat:=P.mC.getD (n % 6) ([],[])
noncomputable def pB(n:Nat):List Nat:=rt n (lD n).1
noncomputable def pf(n:Nat):List Nat:=rt n (lD n).2
noncomputable def DU(w:List Nat)(k a:Nat):List Nat:=w.take k++[a]++w.drop k
noncomputable def Cy(n1 n2:Nat):List Nat:=DU (pB n1) (n2/2 % 6) ([102,105].getD (n2 % 2) 0)
noncomputable def v5(n1 n2:Nat):List Nat:=DU (pf n1) (n2/24 % 6) ([70,73].getD (n2/12 % 2) 0)
noncomputable def zl(n3:Nat):List Nat:=(bc 4).map λk=>px.getD (n3/4^k % 4) 0
noncomputable def FH(n1 n2 n3:Nat):List (List Nat):=[pB n1,Cy n1 n2,zl n3,pf n1,v5 n1 n2]
variable{G:Gv}{tk r n m:Nat}{aX ys:List Int}{j:Int}{i:Nat}{σ:St}{l:List Nat}
theorem uc(i:Nat):((gp ys i).map CV.int).length<2^62:=by rw[aG,lP];decide
theorem Io(i:Nat):0<=(i:Int).fmod 5/\((i:Int).fmod 5).toNat=i % 5/\(i:Int).fmod 5<5:=by
 rw[Int.fmod_eq_emod_of_nonneg _ ay];exact⟨aI (i % 5),U,Int.ofNat_lt.mpr (jv i (y:=5) ay)⟩
theorem JE(i:Nat):((gp ys i).map CV.int)[((i:Int).fmod 5).toNat]?=aa (.int ((gp ys i).getD (i % 5) 0)):=by
 have h:i % 5<(gp ys i).length:=by rw[lP];exact jv _ ay
 rw[(Io i).2.1];simp[h]
theorem EP(e:σ.get 3=aa (.list ((gp ys i).map .int))):pP G (.ref 3) (.int ((i:Int).fmod 5)) (.int ((gp ys i).getD (i % 5) 0+(ys.getD i 0).fmod 1000000)) σ (σ.set 3 (.list ((gp ys (i+1)).map .int))):=by
 have h:=yu (G:=G) (c:=.int ((gp ys i).getD (i % 5) 0+(ys.getD i 0).fmod 1000000)) e (Io i).1 (by rw[aG,lP];exact(Io i).2.2) (uc i);rw[(Io i).2.1,←List.map_set]at h;rw[oK];exact h
theorem JR{JS: List Int}(hi:i<JS.length):(JS.map CV.int)[i]?=aa (.int (JS.getD i 0)):=by simp[hi]
noncomputable abbrev eD(tk:Nat):Env:=entryE (nE 15 Uh tk 209) [(So "three",1),(So "one",0)] 0 210
noncomputable abbrev fD(r:Nat):List (Str×CV):=[(So "script",.val (.ref r)),(So "cells",.ref 3)]
noncomputable abbrev dS(r:Nat)(ys:List Int)(i:Nat):St:=⟨[(6,.uP 5 i),(5,.ix 4 i),(4,.list (ys.map .int)),(3,.list ((gp ys i).map .int)),(2,.cell none),(1,.cell none),(0,.frame (fD r))],7⟩
theorem wg(hr:∃vs n,G.h₀.get? r=aa (fg vs n)/\IntsAre vs aX)(hl:aX.length<=1000):cR G (.val (.ref r)) none (aa 60) none σ (.ref σ.n) (σ.push (.list ((aX.take 60).map .int))):=by
 obtain⟨vs,n,e,h⟩:=hr;exact uV aX (k:=60) ay▸AS e h ay (bD (au hl ay))
theorem Y3(n k:Nat):(n:Int).fmod k=((n % k:Nat):Int):=by rw[Int.fmod_eq_emod_of_nonneg _ (aI k)];rfl
theorem Y6(n k:Nat):(n:Int).fdiv k=((n/k:Nat):Int):=by rw[Int.fdiv_eq_ediv_of_nonneg _ (aI k)];rfl
theorem kx(k:Nat)(hj:j=k)(hk:k≠0):bN G (eB .Mod) (.int n) (.int j) σ (.int ((n % k:Nat):Int)) σ:=
 hj▸Y3 n k▸nu (λh=>hk (Int.ofNat_eq_zero.mp h))
theorem md(k:Nat)(hj:j=k)(hk:k≠0)(hf:k<1073741824):bN G (eB .FloorDiv) (.int n) (.int j) σ (.int ((n/k:Nat):Int)) σ:=
 hj▸Y6 n k▸mc (λh=>hk (Int.ofNat_eq_zero.mp h)) (by rw[Int.natAbs_natCast];exact hf)
theorem sW{s: Str}(hs:s=tx l)(hi:i<l.length):s.cps[((i:Nat):Int).toNat]?=aa (l.getD i 0):=by
 subst hs;rw[bU];simp[hi]
theorem Cp(j:Nat)(h:l.length<=1000):cR G (.str (tx l)) (aa (j:Int)) none none σ (.str (tx (l.drop j))) σ:=yr l▸mZ (by rw[cw];exact bD (au h ay))
seal a8 cS SS eY bM dD bN eC cU cI ef eX cR gc dJ jK SK SF l5 pP
unseal st in
theorem Zn:SS G 3 (eD tk) (az (fB (st 15)) 0) ⟨[(2,.cell none),(1,.cell none),(0,.frame [(So "script",.val (.ref r))])],3⟩ .next ⟨[(3,.list ([59,39,216,13,9].map .int)),(2,.cell none),(1,.cell none),(0,.frame (fD r))],4⟩:=by
 conv in az (fB (st 15)) 0=>whnf
 exact .to (.assign (.list (.cons .int (.cons .int (.cons .int (.cons .int (.cons .int .nil))))) U) (.loc U)) U
unseal st in
theorem Zj(B:aO G 4)(hh:G.A.handled=none)(hr:∃vs n,G.h₀.get? r=aa (fg vs n)/\IntsAre vs aX)(hl:aX.length<=1000):
  SS G 3 (eD tk) (az (fB (st 15)) 1) ⟨[(3,.list ([59,39,216,13,9].map .int)),(2,.cell none),(1,.cell none),(0,.frame (fD r))],4⟩ .next (((dS r (aX.take 60) (aX.take 60).length).del 6).del 5):=by
 conv in az (fB (st 15)) 1=>whnf
 refine SS.for (m':=7) (it:=6) (aX.take 60).length (dS r (aX.take 60)) U ay ay (.jS (.glob (JM B)) (.cons (.slice (.loc U U) .no (.at .int) .no (wg hr hl)) .nil) (EJ U)) (DO U) (λi hi=>?_)
  (D.Jo hh U U U (aG _) ay)
 exact⟨_,⟨_,_,_,X.Jo U U U (JR hi) ay,.tuple hh (.name (.loc U) (.name (.loc U) .nil)),
  .cons (.TQ (.loc U U) (.bin (.loc U U) .int (nu ay)) (qx U (Io i).1 (JE i) (uc i)) (.bin (.loc U U) .int (nu ay)) sj (EP U)) .nil U⟩,
  gN.mk [] U U ⟨aD,aD,⟨_,U,aS⟩,⟨_,U,aS⟩,aD,aD,⟨_,U,_,U,U,U,aE⟩,aE⟩⟩
noncomputable abbrev vF(r n2:Nat)(d p:Int)(more:List (Str×CV)):List (Str×CV):=fD r++[(So "two",.int n2),(So "dress",.int d),(So "pace",.int p)]++more
noncomputable abbrev vO(r:Nat)(ys:List Int)(n1 n2 n3:Nat)(d p:Int)(more:List (Str×CV)):List (Nat×AO):=[(4,.list (ys.map .int)),(3,.list [.int n1,.int n2,.int n3,.int d,.int p]),(2,.cell (aa (.int n3))),(1,.cell (aa (.int n1))),(0,.frame (vF r n2 d p more))]
variable{n1 n2 n3:Nat}{d p:Int}
unseal st in
theorem MJ(hh:G.A.handled=none):SS G 3 (eD tk) (az (fB (st 15)) 2) ⟨[(4,.list (ys.map .int)),(3,.list [.int n1,.int n2,.int n3,.int d,.int p]),(2,.cell none),(1,.cell none),(0,.frame (fD r))],7⟩ .next ⟨vO r ys n1 n2 n3 d p [],7⟩:=by
 conv in az (fB (st 15)) 2=>whnf
 exact .to (.ig (.loc U U) (.list hh U (.name (.cell U U) (.name (.loc U) (.name (.cell U U) (.name (.loc U) (.name (.loc U) .nil)))))) (hw:=λenv h=>(bQ h).trans ak)) U
noncomputable abbrev AU:List CV:=P.mC.map λq=>Ub q.1 q.2
theorem Qh(n:Nat):AU[((n % 6:Nat):Int).toNat]?=aa (Ub (lD n).1 (lD n).2):=by
 have h:n % 6<P.mC.length:=jv n ay;rw[bU];unfold lD;simp[h]
noncomputable abbrev ZY(n1:Nat)(more:List (Str×CV)):List (Str×CV):=[(So "sides",Ub (lD n1).1 (lD n1).2)]++more
unseal st in
theorem Tr:SS G 3 (eD tk) (az (fB (st 15)) 3) ⟨vO r ys n1 n2 n3 d p [],7⟩ .next ⟨(7,.list AU)::vO r ys n1 n2 n3 d p (ZY n1 []),8⟩:=by
 conv in az (fB (st 15)) 3=>whnf
 exact .to (.assign (.sub (.list (cs:=AU) (.cons (.tuple (.cons (.fW ak) (.cons (.fW ak) .nil)) U) (.cons (.tuple (.cons (.fW ak) (.cons (.fW ak) .nil)) U) (.cons (.tuple (.cons (.fW ak) (.cons (.fW ak) .nil)) U) (.cons (.tuple (.cons (.fW ak) (.cons (.fW ak) .nil)) U)
  (.cons (.tuple (.cons (.fW ak) (.cons (.fW ak) .nil)) U) (.cons (.tuple (.cons (.fW ak) (.cons (.fW ak) .nil)) U) .nil)))))) U) (.bin (.cell U U) .int (kx 6 U ay)) (cz (xs:=AU) U (aI _) (Qh n1) ay)) (.loc U)) U
noncomputable def pE(n i:Nat):List Nat:=if i=0 then(lD n).1 else(lD n).2
noncomputable abbrev tI(r:Nat)(ys:List Int)(n1 n2 n3:Nat)(d p:Int)(i:Nat):St:=⟨(8,.y7 [.str (tx (lD n1).1),.str (tx (lD n1).2)] i)::(7,.list AU)::vO r ys n1 n2 n3 d p (ZY n1 []),9⟩
noncomputable abbrev VE(n:Nat):Nat->List CV:=dI λi=>.str (tx (rt n (pE n i)))
theorem K6(h:i<2):([.str (tx (lD n1).1),.str (tx (lD n1).2)]:List CV)[i]?=aa (.str (tx (pE n1 i))):=by
 cases i with
 |zero=>rfl
 |succ i=>cases i with
  |zero=>rfl
  |succ i=>exact absurd h (Nat.not_lt.mpr (f7 2 i))
theorem n0(n i:Nat):(pE n i).length=3:=by
 have h:∀k,k<6->(P.mC.getD k ([],[])).1.length=3/\(P.mC.getD k ([],[])).2.length=3:=by decide
 have:=h (n % 6) (jv n ay);unfold pE
 split
 ·exact this.1
 ·exact this.2
theorem nX(n i:Nat):(rt n (pE n i)).length=5:=by
 unfold rt;rw[aB,aB,n0];rfl
theorem zO(n:Nat):(pB n).length=5/\(pf n).length=5:=⟨nX n 0,nX n 1⟩
theorem oh:(aF "fFiI").length<2^60:=aY (show(aF "fFiI").length<=4 from d3 ak) ay
theorem mj(n:Nat):n % 4<px.length:=jv n ay
noncomputable abbrev tF2(n1:Nat)(more:List (Str×CV)):List (Str×CV):=ZY n1 ([(So "base",.str (tx (pB n1))),(So "twin",.str (tx (pf n1)))]++more)
noncomputable abbrev T8(r:Nat)(ys:List Int)(n1 n2 n3:Nat)(d p:Int)(more:List (Str×CV)):List (Nat×AO):=(9,.list [.str (tx (pB n1)),.str (tx (pf n1))])::(7,.list AU)::vO r ys n1 n2 n3 d p (tF2 n1 more)
unseal st in
theorem Zi(hh:G.A.handled=none):SS G 3 (eD tk) (az (fB (st 15)) 4) ⟨(7,.list AU)::vO r ys n1 n2 n3 d p (ZY n1 []),8⟩ .next ⟨T8 r ys n1 n2 n3 d p [],11⟩:=by
 conv in az (fB (st 15)) 4=>whnf
 have fI:So "fFiI"=tx px:=by kernel_rfl
 refine .to (.ig (.comp (mm:=[]) (it:=8) (σ2:=tI r ys n1 n2 n3 d p 0) (σ3:=(PP (tI r ys n1 n2 n3 d p 2) (VE n1 2) []).del 8) 11 (cl:=[(So "one",1)]) ak ak (.loc U U) IU (show 10<11 by decide) ?h3 U)
  (.list hh U (.name (.loc U) (.name (.loc U) .nil))) (hw:=λenv h=>(bQ h).trans ak)) U
 refine cI.simple (N:=9) (n:=2) (tI r ys n1 n2 n3 d p) (λi=>.str (tx (pE n1 i))) (λi=>[(So "side",.str (tx (pE n1 i)))]) (VE n1) (λzz=>U) U (show 8<11 by decide) U U U (pZ _ _ _ _ _) (GA U) (λi hi=>⟨X.tup U (K6 hi),.name (.loc (m':=[]) U),?_⟩) (D.tup hh U U);have hl:=n0 n1 i;refine .pz (.bin (.bin (.sub .str (.bin (.bin (.cell U U) .int (md 6 U ay ay)) .int (kx 4 U ay)) (k_ (aI _) (sW fI (mj _)) oh)) (.loc U U) (j9 (a:=[px.getD (n1/6 % 4) 0]) ?_))
  (.sub .str (.bin (.bin (.cell U U) .int (md 24 U ay ay)) .int (kx 4 U ay)) (k_ (aI _) (sW fI (mj _)) oh)) (j9 (b:=[px.getD (n1/24 % 4) 0]) ?_)) U (kG (au (bX hi) ay)) gK
 ·rw[hl];exact(show 1+3<=2^20 by decide)
 ·rw[aB,hl];exact(show 1+3+1<=2^20 by decide)
noncomputable abbrev Z0(n1 n2:Nat)(more:List (Str×CV)):List (Str×CV):=[(So "under",.str (tx (v5 n1 n2))),(So "over",.str (tx (Cy n1 n2)))]++more
unseal st in
theorem ab8(hh:G.A.handled=none):SS G 3 (eD tk) (az (fB (st 15)) 5) ⟨T8 r ys n1 n2 n3 d p [],11⟩ .next ⟨T8 r ys n1 n2 n3 d p (Z0 n1 n2 []),11⟩:=by
 conv in az (fB (st 15)) 5=>whnf
 have h2:n2 % 2<[102,105].length:=jv _ ay;have h3:n2/12 % 2<[70,73].length:=jv _ ay;have b1:=(zO n1).1;have b2:=(zO n1).2;have l1:(pB n1).length<=1000:=by rw[b1];decide
 have l2:(pf n1).length<=1000:=by rw[b2];decide
 have AG:∀(l:List Nat)(k a:Nat),l.length=5->(l.take k).length+[a].length<=2^20/\(l.take k++[a]).length+(l.drop k).length<=2^20:=λl k a h=>by
  have h1:(l.take k).length<=5:=h▸List.length_take_le' ..;have h2:(l.drop k).length<=5:=by rw[gz,h];exact Nat.sub_le ..
  rw[aB];exact⟨au (cE h1 1) ay,au (cF (cE h1 1) h2) ay⟩
 have q1:=AG _ (n2/2 % 6) ([102,105].getD (n2 % 2) 0) b1;have q2:=AG _ (n2/24 % 6) ([70,73].getD (n2/12 % 2) 0) b2;exact .to (.swap (names:=[So "over",So "under"]) hh (.tuple (.cons
  (.bin (.bin (.slice (.loc U U) .no (.at (.bin (.bin (.loc U U) .int (md 2 U ay ay)) .int (kx 6 U ay))) .no (Cm _ U l1))
   (.sub .str (.bin (.loc U U) .int (kx 2 U ay)) (k_ (aI _) (sW (l:=[102,105]) ak h2) (by decide +kernel))) (j9 (b:=[[102,105].getD (n2 % 2) 0]) q1.1))
   (.slice (.loc U U) (.at (.bin (.bin (.loc U U) .int (md 2 U ay ay)) .int (kx 6 U ay))) .no .no (Cp _ l1)) (j9 q1.2)) (.cons
  (.bin (.bin (.slice (.loc U U) .no (.at (.bin (.bin (.loc U U) .int (md 24 U ay ay)) .int (kx 6 U ay))) .no (Cm _ U l2))
   (.sub .str (.bin (.bin (.loc U U) .int (md 12 U ay ay)) .int (kx 2 U ay)) (k_ (aI _) (sW (l:=[70,73]) ak h3) (by decide +kernel))) (j9 (b:=[[70,73].getD (n2/12 % 2) 0]) q2.1))
   (.slice (.loc U U) (.at (.bin (.bin (.loc U U) .int (md 24 U ay ay)) .int (kx 6 U ay))) .no .no (Cp _ l2)) (j9 q2.2)) .nil)) U) U
  (.bind (.loc U) (.bind (.loc U) .nil)) (hw:=λenv h=>(bQ h).trans ak)) U
theorem Lo(h:i<=100):bN G (eB .Pow) (.int 4) (.int (0+(i:Int))) σ (.int ((4^i:Nat):Int)) σ:=by
 have e:(4:Int)^(0+(i:Int)).toNat=((4^i:Nat):Int):=by rw[kq,bU];norm_cast
 exact e▸QR (by lia) (by lia) ay
noncomputable abbrev gI(r:Nat)(ys:List Int)(n1 n2 n3:Nat)(d p:Int)(i:Nat):St:=⟨(12,wY 0 4 i)::(11,.n5 0 4 1)::T8 r ys n1 n2 n3 d p (Z0 n1 n2 []),13⟩
noncomputable abbrev S5(n3:Nat):Nat->List CV:=dI λi=>.str (tx [px.getD (n3/4^i % 4) 0])
noncomputable abbrev gO(r:Nat)(ys:List Int)(n1 n2 n3:Nat)(d p:Int):List (Nat×AO):=(13,.list (S5 n3 4))::(11,.n5 0 4 1)::T8 r ys n1 n2 n3 d p (Z0 n1 n2 [(So "free",.str (tx (zl n3)))])
unseal st in
theorem Zq(B:aO G 4)(hh:G.A.handled=none):SS G 3 (eD tk) (az (fB (st 15)) 6) ⟨T8 r ys n1 n2 n3 d p (Z0 n1 n2 []),11⟩ .next ⟨gO r ys n1 n2 n3 d p,15⟩:=by
 conv in az (fB (st 15)) 6=>whnf
 have fI:So "fFiI"=tx px:=by kernel_rfl
 refine .to (.assign (.n_ fu cA U .str l_ (.cons (.comp (mm:=[]) (it:=12) (σ2:=gI r ys n1 n2 n3 d p 0) (σ3:=(PP (gI r ys n1 n2 n3 d p 4) (S5 n3 4) []).del 12) 15 (cl:=[(So "three",2)]) ak ak
  (.jS (.glob (jb B)) (.cons .int .nil) qT) (i6 (n:=4) U ak ak) (show 14<15 by decide) ?h3 U) .nil) (tP U ay)) (.loc U)) U
 refine cI.simple (N:=13) (n:=4) (gI r ys n1 n2 n3 d p) (λi=>.int (0+i)) (λi=>[(So "k",.int (0+i))]) (S5 n3) (λzz=>U) U (show 12<15 by decide) U U U (pZ _ _ _ _ _) (rB hh U (bJ _)) (λi hi=>⟨X.kU U hi,.name (.loc (m':=[]) U),?_⟩) (D.kU hh U);have hp:4^i<=4^4:=Nat.pow_le_pow_right ay (bX hi);have h0:4^i≠0:=Nat.ne_of_gt (Nat.pow_pos ay);exact .pz (.sub .str (.bin (.bin (.cell U U) (.bin .int (.loc U U) (Lo (au (bX hi) ay))) (md (4^i) U h0 (aY hp ay))) .int (kx 4 U ay)) (k_ (aI _) (sW fI (mj _)) oh))
  U (kG (au (bX hi) ay)) gK
noncomputable abbrev Ar(n1 n2 n3:Nat):List CV:=(FH n1 n2 n3).map λw=>.str (tx w)
unseal st in
theorem ab7:SS G m (eD tk) (az (fB (st 15)) 7) ⟨gO r ys n1 n2 n3 d p,15⟩ (.ret (.tup [.ref 15,.int d,.int p])) ⟨(15,.list (Ar n1 n2 n3))::gO r ys n1 n2 n3 d p,16⟩:=by
 conv in az (fB (st 15)) 7=>whnf
 exact .ret (.tuple (.cons (.list (cs:=Ar n1 n2 n3) (.cons (.loc U U) (.cons (.loc U U) (.cons (.loc U U) (.cons (.loc U U) (.cons (.loc U U) .nil))))) U) (.cons (.loc U U) (.cons (.loc U U) .nil))) U)
theorem abg(tk:Nat):jf (nE 15 Uh tk 209) (fB (st 15)) [(So "three",1),(So "one",0)]:=⟨U,U,λL=>ak,U,ak,ak,ak,ak⟩
theorem acm{tk s}(a:aq):bW s (nE 15 Uh tk 209) ⟨[a],[]⟩ [(So "script",a)]:=cB (K:=[]) (λzz zz h=>nomatch h) λS=>ak
theorem ab2{l: List Int}(h:l.length=5):l=[l.getD 0 0,l.getD 1 0,l.getD 2 0,l.getD 3 0,l.getD 4 0]:=by
 match l,h with
 |[_,_,_,_,_],_=>rfl
noncomputable def m8(aX:List Int)(k:Nat):Nat:=((iL aX).getD k 0).toNat
theorem MO(aX:List Int)(k:Nat):0<=(iL aX).getD k 0:=by
 by_cases h:k<(iL aX).length
 ·rw[aU,aP h]
  exact BM _ _ _ (ew h)
 ·rw[aU,d9 (dm h)]
  exact b_ 0
theorem MG(aX:List Int):iL aX=[(m8 aX 0:Int),(m8 aX 1:Int),(m8 aX 2:Int),(iL aX).getD 3 0,(iL aX).getD 4 0]:=by
 have e:=ab2 (lP (aX.take 60) (aX.take 60).length);have c:=λk=>lT (MO aX k);unfold m8;rw[c,c,c];exact e
theorem VM(B:aO G 5)(hr:∃vs n,G.h₀.get? r=aa (fg vs n)/\IntsAre vs aX)(hl:aX.length<=1000):
  SK G (λvs ws=>call (.ref 210) vs ([].zip ws)) [.val (.ref r)] [] ⟨[],0⟩ (.tup [.ref 15,.int ((iL aX).getD 3 0),.int ((iL aX).getD 4 0)])
   ⟨(15,.list (Ar (m8 aX 0) (m8 aX 1) (m8 aX 2)))::gO r (aX.take 60) (m8 aX 0) (m8 aX 1) (m8 aX 2) ((iL aX).getD 3 0) ((iL aX).getD 4 0),16⟩:=by
 refine aR (B.Dk) λtk D C=>?_;refine SK.fj (names:=[]) (m:=3) (f:=.ret (.tup [.ref 15,.int ((iL aX).getD 3 0),.int ((iL aX).getD 4 0)])) (rb:=[(So "script",.val (.ref r))]) B.cQ D B.cP C (abg tk) (zg λα s v g q=>⟨_,acm v,U,.aZ q cy⟩) ak U ak λenv =>
  .text (show fB (st 15)=[az (fB (st 15)) 0,az (fB (st 15)) 1,az (fB (st 15)) 2,az (fB (st 15)) 3,az (fB (st 15)) 4,az (fB (st 15)) 5,az (fB (st 15)) 6,az (fB (st 15)) 7] by kernel_rfl) (.cons Zn (.cons (Zj B.deep (B.deep (env:=env)).hh hr hl) ?_ U) U)
 show eY _ 3 (eD tk) _ ⟨[(4,.list ((aX.take 60).map .int)),(3,.list ((iL aX).map .int)),(2,.cell none),(1,.cell none),(0,.frame (fD r))],7⟩ _ _;have e2:=congrArg (List.map CV.int) (MG aX);rw[e2];exact .cons (MJ (B.deep (env:=env)).hh) (.cons Tr (.cons (Zi (B.deep (env:=env)).hh) (.cons (ab8 (B.deep (env:=env)).hh) (.cons (Zq B.deep (B.deep (env:=env)).hh) (.stop ab7 U) U) U) U) U) U
end
section
set_option maxHeartbeats 4000000
noncomputable abbrev EF:Nat:=111
noncomputable def KT(P:ag):Frag:=(110,vt P)::(111,yP P)::lq P
theorem TZ(P:ag)(f:Nat->Obj)(kt tk:Nat):(KT P).In (fq P f kt tk):=Frag.in_of (as:=[110,111,2,61,73,74,80,81,96,97,103,104,133,134,136,137]) U ak
theorem aO.ZQ{G n}(B:aO G n):(KT G.w.params).In G.h₀:=B.S6 [110,111,2,61,73,74,80,81,96,97,103,104,133,134,136,137] TZ (λP=>U) ak
theorem klS(P:ag):Kl (KT P) cC:=⟨ak,ak,ak⟩
theorem NY(P:ag):d8 (KT P) (.ref cC) (aF "__str__")=aa (aa (.ref EF))/\jm (KT P) (.ref EF)=aa (.type "function"):=⟨ak,ak⟩
theorem Mc(P:ag):d8 (KT P) (.ref cC) (aF "__iter__")=aa (aa (.builtin "list.__iter__")):=by kernel_rfl
noncomputable abbrev abl:Str:=Sx [95,95,115,116,114,95,95]
noncomputable abbrev V7:Str:=Sx [95,65,99,99,117,109,117,108,97,116,111,114,46,95,95,115,116,114,95,95]
noncomputable abbrev CW:cO:=Uw 5 abl V7 [] N (R 110) N
noncomputable def GU:Nat->Nat->Str:=λzz zz=>V7++aF ".<locals>."++aF "<genexpr>"
noncomputable abbrev qb:Nat:=106
theorem IJ(P:ag):(KT P).lookup 111=aa (yP P)/\(KT P).lookup 110=aa (vt P):=⟨U,U⟩
variable{G:Gv}{n m:Nat}{k:Int}{l:PL}
theorem ab4(P:ag)(f:Nat->Obj)(kt tk:Nat):(fq P f kt tk).nsMap 3 (So "EMPTYSTRING")=aa (.str dy 252):=by kernel_rfl
theorem aO.NU(B:aO G n)(P:Nat)(hP:4≠P):∃mg,G.h₀.Ns dk mg/\G.h₀.BuiltinsAt mg P/\mg (So "EMPTYSTRING")=aa (.str dy 252):=by
 obtain⟨f,kt,tk,es,ep,_,_,c⟩:=B.heap;exact⟨(fq G.w.params f kt tk).nsMap 3,Ns.of (gJ (vE _ _ _ _)) λo=>c _ o (by rfl),⟨4,boot_o_4 G.w.params,ZA _ _ _ _,by decide,by decide,hP,c _ _ (by rfl) (at4 _ _ _ _),U,U,U⟩,ab4 _ _ _ _⟩
noncomputable abbrev sS(k:Int)(l:PL):St:=sC cC qb GU k (G5 l)
noncomputable abbrev sS3(k:Int)(l:PL):St:=⟨(3,.frame [(So "self",.ref 0)])::(sS k l).objs,4⟩
unseal st cst in
theorem aah(B:aO G 1)(hn:l.length<=1000)(hf:(nN l).length<=1000000):eY G m (entryE CW [] 3 EF) (fB (cst 5)) (sS3 k l) (.ret (.str (tx (nN l)))) (sS3 k l):=by
 obtain⟨mg,sv,mH,y'⟩:=B.NU qb ay;have abZ:=B.ZQ _ _ (IJ G.w.params).2
 conv in fB (cst 5)=>whnf
 exact .stop (.ret (Ej (c:=110) (P:=qb) (q:=GU) (d:=1) (k:=2) (mg:=mg) (i:=k) B.hh B.cQ B.cP (klS _) B.ZQ (Mc _) ak U U U U ak U U
  (oX abZ U U U U U U U U U) U U sv y' mH U ak ay U U U ay U U ay ay U U hn hf)) U
theorem Wy:jf CW (fB (cst 5)) []:=⟨U,U,λL=>ak,U,U,ak,ak,ak⟩
theorem ZD{s}(a:aq):bW s CW ⟨[a],[]⟩ [(So "self",a)]:=cB (K:=[]) (λzz zz h=>nomatch h) λS=>ak
theorem VQ(B:aO G 2)(hn:l.length<=1000)(hf:(nN l).length<=1000000):SK G (λvs ws=>call (.ref EF) vs ([].zip ws)) [.ref 0] [] (sS k l) (.str (tx (nN l))) (sS3 k l):=
 SK.fj (names:=[]) (m:=4) (f:=.ret (.str (tx (nN l)))) (rb:=[(So "self",.ref 0)]) B.cQ (fd:=CW) ⟨_,B.ZQ _ _ (IJ _).1,ak⟩ B.cP (dB (B.ZQ _ _ (IJ _).2) U U) Wy
  (zg λα s u g q=>⟨_,ZD u,U,.aZ q cy⟩) ak U ak λenv=>aah B.deep hn hf
end
section
variable{G:Gv}{m x d t:Nat}{k:Int}{w:List Nat}{p l:PL}{σ:St}
theorem DR(B:aO G 5){e:P.RS}(hx:σ.get x=aa (.bT cC d []))(hd:σ.get d=aa (.size k))(ht:σ.get t=aa (.tab mA yz))(h:P.Rc ([],w,[]) e)(he:e.2.1=[])(hw:P.Wd w)(hl:w.length<=900):
  bM G (λvs=>call (.ref 224) vs) [.str (tx w),.ref x] σ (.str (tx e.1)) (σ.set x (.bT cC d ((fF e.2.2).map dZ))):=
 SK.sU (g:=λvs=>call (.ref 224) vs) (SK.QO (xs:=[]) (cs0:=[.str (tx w),.ref 0]) hx hd ht (λh' k'=>VK (B.ext k') h he hw hl) U U U U λzz=>U)
theorem Gh(B:aO G 5)(hx:σ.get x=aa (.bT cC d ((fF p).map dZ)))(hd:σ.get d=aa (.size k))(ht:σ.get t=aa (.tab qb GU))(hn:p.length<=1000)(hf:(P.flat p).length<=1000000):
  bM G (λvs=>call (.type "str") vs) [.ref x] σ (.str (tx (P.flat p))) σ:=by
 have h:SK (om (om G)) (λvs ws=>call (.ref EF) vs ([].zip ws)) [.ref x] [] σ (.str (tx (P.flat p))) (σ.set x (.bT cC d ((fF p).map dZ))):=
  SK.G2 (cs0:=[]) hx hd ht (λh' k'=>VQ (l:=p.reverse) ((aO.le (m:=2) B.in1.in1 U).ext k') (by rw[cJ];exact hn) hf) U U U (λzz=>U) λzz=>U
 rw[St.set_same hx]at h;exact KX B.ZQ (aM (aY (cq (show 2<=10*5 by decide) _) B.un) (show 9000<=9900 by decide)) (NY _).1 (NY _).2 hx hd (SK.sU (g:=λvs=>call (.ref EF) vs) h)
end
section
noncomputable abbrev Ug:Str:=Sx [95,108,97,119,95,106,117,100,103,101,100]
theorem Dh(P:ag)(f:Nat->Obj)(kt tk:Nat):(fq P f kt tk).get? 236=aa (Hp P kt tk):=by kernel_rfl
theorem ZI(P:ag)(f:Nat->Obj)(kt tk:Nat):(fq P f kt tk).get? 235=aa (NL P kt tk):=by kernel_rfl
theorem Zc(P:ag)(kt tk:Nat):(Hp P kt tk).data=.func (nE 19 Ug tk 235):=by kernel_rfl
theorem aO.Dh{G n}(B:aO G n):∃tk,eZ G 236 (nE 19 Ug tk 235)/\G.h₀.CodeRec (R 235) Ug:=B.fnAt Mine.Internal.Dh ZI Zc λzz zz zz=>⟨_,_,U,U⟩
noncomputable abbrev eJ(tk:Nat):Env:=entryE (nE 19 Ug tk 235) [] 3 236
noncomputable abbrev gy:List Stmt:=fB (az (fB (az (fB (st 19)) 1)) 0)
variable{G:Gv}{tk n m i j:Nat}{f:Int}{V:Nat->P.T4}{J:Nat->Nat->Int}{W:Nat->List Nat}{more:List (Str×CV)}{pre:List (Nat×AO)}{k:Nat}{l:List (Nat×AO)}
noncomputable def e_(J:Nat->Nat->Int)(i:Nat):List CV:=[.int (J i 0),.int (J i 1),.int (J i 2),.int (J i 3),.int (J i 4)]
noncomputable abbrev jF(f:Int)(more:List (Str×CV)):List (Str×CV):=[(So "first",.int f),(So "words",.ref 0),(So "judge",.ref 5),(So "turns",.ref 4)]++more
noncomputable abbrev jO(f:Int)(V:Nat->P.T4)(J:Nat->Nat->Int)(W:Nat->List Nat)(more:List (Str×CV)):List (Nat×AO):=
 [(15,.list (e_ J 4)),(14,.list (e_ J 3)),(13,.list (e_ J 2)),(12,.list (e_ J 1)),(11,.list (e_ J 0)),(10,.list (hZ (V 4))),(9,.list (hZ (V 3))),(8,.list (hZ (V 2))),(7,.list (hZ (V 1))),(6,.list (hZ (V 0))),
  (5,.list [.ref 11,.ref 12,.ref 13,.ref 14,.ref 15]),(4,.list [.ref 6,.ref 7,.ref 8,.ref 9,.ref 10]),(3,.frame (jF f more)),(2,.tab qb GU),(1,.tab mA yz),(0,.list [.str (tx (W 0)),.str (tx (W 1)),.str (tx (W 2)),.str (tx (W 3)),.str (tx (W 4))])]
noncomputable abbrev jM(i j:Nat)(more:List (Str×CV)):List (Str×CV):=[(So "two",.int (0+(j:Int))),(So "one",.int (0+(i:Int)))]++more
noncomputable abbrev jB(f:Int)(V:Nat->P.T4)(J:Nat->Nat->Int)(W:Nat->List Nat)(i j:Nat)(more:List (Str×CV)):List (Nat×AO):=(19,wY 0 j (i+1))::(18,.n5 0 j 1)::(17,wY 0 5 (j+1))::(16,.n5 0 5 1)::jO f V J W (jM i j more)
theorem zk(h:(pre.all λp=>cf 15 p.1)=af)(hk:k<=15):dh (pre++l) k=dh l k:=by
 induction pre with
 |nil=>rfl
 |cons p pre ih =>
  obtain⟨q,ao⟩:=p;rw[gZ,aV]at h;have ne:br k q=false:=by
   cases z:br k q with
   |false=>rfl
   |true=>rw[a9 z]at hk;exact absurd (Nat.blt_eq.mp h.1) (Nat.not_lt.mpr hk)
  show(match br k q with|true=>aa ao|false=>dh (pre++l) k)=_;rw[ne];exact ih h.2
theorem FQ{o: AO}(h:(pre.all λp=>cf 15 p.1)=af)(hk:k<=15):lU (pre++l) k o=pre++lU l k o:=by
 induction pre with
 |nil=>rfl
 |cons p pre ih =>
  obtain⟨q,ao⟩:=p;rw[gZ,aV]at h;have ne:br k q=false:=by
   cases z:br k q with
   |false=>rfl
   |true=>rw[a9 z]at hk;exact absurd (Nat.blt_eq.mp h.1) (Nat.not_lt.mpr hk)
  show(match br k q with|true=>(q,o)::pre++l|false=>(q,ao)::lU (pre++l) k o)=_;rw[ne];exact congrArg ((q,ao)::·) (ih h.2)
theorem IS(pre:List (Nat×AO))(h:(pre.all λp=>cf 15 p.1)=af)(hi:i<5):(⟨pre++jO f V J W more,n⟩:St).get (6+i)=aa (.list (hZ (V i))):=by
 refine(zk h (au (cq (Nat.le_of_lt_succ hi) 6) ay)).trans ?_
 match i,hi with
 |0,_=>rfl
 |1,_=>rfl
 |2,_=>rfl
 |3,_=>rfl
 |4,_=>rfl
theorem XG(pre:List (Nat×AO))(h:(pre.all λp=>cf 15 p.1)=af)(hi:i<5):(⟨pre++jO f V J W more,n⟩:St).get (11+i)=aa (.list (e_ J i)):=by
 refine(zk h (cq (Nat.le_of_lt_succ hi) 11)).trans ?_
 match i,hi with
 |0,_=>rfl
 |1,_=>rfl
 |2,_=>rfl
 |3,_=>rfl
 |4,_=>rfl
noncomputable def o5(J:Nat->Nat->Int)(i j:Nat)(x:Int):Nat->Nat->Int:=λa b=>if a=i/\b=j then x else J a b
theorem idx(i:Nat):0<=0+(i:Int)/\(0+(i:Int)).toNat=i:=by rw[kq];exact⟨aI i,bU i⟩
theorem ui(hi:i<5):([.ref 6,.ref 7,.ref 8,.ref 9,.ref 10]:List CV)[(0+(i:Int)).toNat]?=aa (.ref (6+i)):=by
 rw[(idx i).2]
 match i,hi with
 |0,_=>rfl
 |1,_=>rfl
 |2,_=>rfl
 |3,_=>rfl
 |4,_=>rfl
theorem zP(hi:i<5):([.ref 11,.ref 12,.ref 13,.ref 14,.ref 15]:List CV)[(0+(i:Int)).toNat]?=aa (.ref (11+i)):=by
 rw[(idx i).2]
 match i,hi with
 |0,_=>rfl
 |1,_=>rfl
 |2,_=>rfl
 |3,_=>rfl
 |4,_=>rfl
theorem uh(hi:i<5):([.str (tx (W 0)),.str (tx (W 1)),.str (tx (W 2)),.str (tx (W 3)),.str (tx (W 4))]:List CV)[(0+(i:Int)).toNat]?=aa (.str (tx (W i))):=by
 rw[(idx i).2]
 match i,hi with
 |0,_=>rfl
 |1,_=>rfl
 |2,_=>rfl
 |3,_=>rfl
 |4,_=>rfl
seal a8 cS SS eY bM dD bN eC cU cI ef eX cR gc dJ jK SK SF l5 SemQ pP
noncomputable abbrev tu4(a b c d:Str)(v:P.T4):List (Str×CV):=[(a,.int v.1),(b,.int v.2.1),(c,.int v.2.2.1),(d,.int v.2.2.2)]
noncomputable abbrev xV(u v:P.T4)(more:List (Str×CV)):List (Str×CV):=[(So "pile",.ref 21)]++tu4 (So "low") (So "x") (So "y") (So "total") u++tu4 (So "high") (So "p") (So "q") (So "sums") v++more
noncomputable abbrev jQ(f:Int)(ps:List (Str×Str))(l:List (Nat×AO)):List (Nat×AO):=(21,.bT cC 20 (ps.map dZ))::(20,.size f)::l
theorem YQ(B:aO G n):Glob G (So "_Accumulator") (.ref cC):=B.glob λzz zz zz zz=>ak
theorem dJ.uH{e: Env}{x: Str}{c: CV}{σ σ1: St}{mm: List (Str×CV)}(hm:σ.get e.locals=aa (.frame mm))(q:σ.set e.locals (.frame (upd mm x c))=σ1)(hl:autoParam (bB e x .local=af) uw):dJ G e x c σ σ1:=q▸dJ.loc hm hl
noncomputable abbrev Me(f:Int)(ps:List (Str×Str))(i j:Nat):List (Nat×AO):=[(21,.bT cC 20 (ps.map dZ)),(20,.size f),(19,wY 0 j (i+1)),(18,.n5 0 j 1),(17,wY 0 5 (j+1)),(16,.n5 0 5 1)]
theorem GR{ps: List (Str×Str)}{a: Nat}(ha:a<5):(⟨jQ f ps (jB f V J W i j more),n⟩:St).get (6+a)=aa (.list (hZ (V a))):=IS (Me f ps i j) U ha
unseal st in
theorem ju0(B:aO G 8)(hh:G.A.handled=none)(hi:i<5)(hj:j<5):SS G m (eJ tk) (az gy 0) ⟨jB f V J W i j [],20⟩ .next ⟨jQ f [] (jB f V J W i j (xV (V i) (V j) [])),22⟩:=by
 conv in az gy 0=>whnf
 have c1:bM G (λvs=>call (.ref cC) vs) [.int f] ⟨jB f V J W i j [],20⟩ (.ref 21) ⟨jQ f [] (jB f V J W i j []),22⟩:=
  SK.sU (g:=λvs=>call (.ref cC) vs) (SK.rC (τ0:=⟨[],0⟩) (news:=[(21,.bT cC 20 []),(20,.size f)]) (n':=22) (c:=.ref 21) (ks:=[]) (ks0:=[]) [] [(20,0),(21,1)] U U U U U aE aE ⟨aD,aD,aE⟩ (λh k=>VP ((B.le (m:=3) U).ext k)) U U U)
 refine .to (.ig (c:=.tup [.ref 21,.ref (6+i),.ref (6+j)]) (σ1:=⟨jQ f [] (jB f V J W i j []),22⟩) ?a (.tuple (σ1:=⟨jQ f [] (jB f V J W i j (xV (V i) (V j) [])),22⟩) hh ?b) (hw:=λenv h=>(bQ h).trans ak)) U
 case a=>exact .tuple (.cons (.callC B.K (Su _) (.glob (YQ B)) (.cons (.loc U U) .nil) c1) (.cons (.sub (.loc U U) (.loc U U) (cz U (idx i).1 (ui hi) (show 5<2^62 by decide))) (.cons (.sub (.loc U U) (.loc U U) (cz U (idx j).1 (ui hj) (show 5<2^62 by decide))) .nil))) U
 case b =>
  have g1:=λmore=>GR (n:=22) (f:=f) (V:=V) (J:=J) (W:=W) (i:=i) (j:=j) (more:=more) (ps:=[]) hi;have g2:=λmore=>GR (n:=22) (f:=f) (V:=V) (J:=J) (W:=W) (i:=i) (j:=j) (more:=more) (ps:=[]) hj;refine .name (σ1:=⟨jQ f [] (jB f V J W i j [(So "pile",.ref 21)]),22⟩) (.uH U U) (.ZW (σ1:=⟨jQ f [] (jB f V J W i j ([(So "pile",.ref 21)]++tu4 (So "low") (So "x") (So "y") (So "total") (V i))),22⟩) (.list (cs:=hZ (V i)) hh (g1 _) ?_) (.ZW (σ1:=⟨jQ f [] (jB f V J W i j (xV (V i) (V j) [])),22⟩) (.list (cs:=hZ (V j)) hh (g2 _) ?_) .nil))
  ·exact .name (.loc U) (.name (.loc U) (.name (.loc U) (.name (.uH U U) .nil)))
  ·exact .name (.loc U) (.name (.loc U) (.name (.loc U) (.name (.uH U U) .nil)))
end
section
variable{G:Gv}{tk n i j:Nat}{f:Int}{V:Nat->P.T4}{J:Nat->Nat->Int}{W:Nat->List Nat}{more more2:List (Str×CV)}{pre:List (Nat×AO)}{ps:List (Str×Str)}
seal a8 cS SS eY bM dD bN eC cU cI ef eX cR gc dJ jK SK SF l5 SemQ pP
theorem Ew{l: List (Nat×AO)}{k: Nat}{ao: AO}(h:(pre.all λp=>cf 21 p.1)=af)(hk:k<=21)(e:dh l k=aa ao):dh (pre++l) k=aa ao:=by
 rw[←e];clear e
 induction pre with
 |nil=>rfl
 |cons p pre ih =>
  obtain⟨q,ao⟩:=p;rw[gZ,aV]at h;have ne:br k q=false:=by
   cases z:br k q with
   |false=>rfl
   |true=>rw[a9 z]at hk;exact absurd (Nat.blt_eq.mp h.1) (Nat.not_lt.mpr hk)
  show(match br k q with|true=>aa ao|false=>dh (pre++l) k)=_;rw[ne];exact ih h.2
noncomputable abbrev rJ(n:Nat):Nat->Nat:=Ct 20 n [(20,20),(21,21)]
theorem IT(pre:List (Nat×AO))(h:(pre.all λp=>cf 21 p.1)=af)(hf:BV (rJ n) (jF f (jM i j more)) (jF f (jM i j more2))):gN 20 ⟨pre++jQ f ps (jB f V J W i j more),n⟩ ⟨jQ f ps (jB f V J W i j more2),22⟩:=by
 have p:∀{k ao},dM k 21=af->dh (jQ f ps (jB f V J W i j more)) k=aa ao->(⟨pre++jQ f ps (jB f V J W i j more),n⟩:St).get k=aa ao:=λhk e=>Ew h (bw hk) e;exact gN.mk [(20,20),(21,21)] U U ⟨⟨_,p U U,qj U⟩,⟨_,p U U,U⟩,⟨_,p U U,U⟩,⟨_,p U U,U⟩,⟨_,p U U,U⟩,⟨_,p U U,U⟩,
  ⟨_,p U U,U⟩,⟨_,p U U,U⟩,⟨_,p U U,U⟩,⟨_,p U U,U⟩,⟨_,p U U,U⟩,⟨_,p U U,U⟩,⟨_,p U U,U⟩,⟨_,p U U,U⟩,⟨_,p U U,U⟩,⟨_,p U U,U⟩,
  ⟨_,p U U,U⟩,⟨_,p U U,U⟩,⟨_,p U U,_,U,hf⟩,⟨_,p U U,U⟩,⟨_,p U U,U⟩,⟨_,p U U,U⟩,aE⟩
theorem YT(B:aO G n):Glob G (So "_law_rest") (.ref 224):=B.glob λzz zz zz zz=>ak
theorem vK(B:aO G n):Glob G (So "_law_turn") (.ref 231):=B.glob λzz zz zz zz=>ak
theorem range_getD{γ:Type}(g:Nat->γ)(l:List Nat):(bc l.length).map (λk=>g (l.getD k 0))=l.map g:=by
 apply List.ext_getElem
 ·simp
 ·intro k h1 h2
  rw[iD,iD,jl];rw[aG]at h2;rw[aU,aP h2];rfl
noncomputable abbrev uI(f:Int)(V:Nat->P.T4)(J:Nat->Nat->Int)(W:Nat->List Nat)(i j:Nat)(more:List (Str×CV))(k:Nat):St:=⟨(22,.rf (tx (W i).reverse) k)::jQ f [] (jB f V J W i j more),23⟩
noncomputable abbrev v8(w:List Nat):Nat->List CV:=dI λk=>.str (tx [P.inv (w.reverse.getD k 0)])
unseal st in
theorem ju1(B:aO G 8)(hh:G.A.handled=none)(hi:i<5)(hj:j<5)(hW:∀k,k<5->P.Wd (W k)/\(W k).length<=10){tr: List Nat}{p:PL}(hp:P.BR (W i) (W j) tr p):
  SS G 20 (eJ tk) (az gy 1) ⟨jQ f [] (jB f V J W i j (xV (V i) (V j) [])),22⟩ .next ⟨jQ f (fF p) (jB f V J W i j (xV (V i) (V j) [(So "trail",.str (tx tr))])),22⟩:=by
 conv in az gy 1=>whnf
 have li:=(hW i hi).2;have lj:=(hW j hj).2;have hl:(P.pY (W i)++W j).length<=20:=by rw[aB,P.sO];exact cF li lj
 have hwd:P.Wd (P.pY (W i)++W j):=P.mx (P.B9 (hW i hi).1) (hW j hj).1;have ej:(bc (W i).reverse.length).map (λk=>P.inv ((W i).reverse.getD k 0))=P.pY (W i):=range_getD _ _;have join:bM G (λvs=>call (.builtin "str.join") vs) [.str dy,.ref 23] ⟨(23,.list (v8 (W i) (W i).reverse.length))::jQ f [] (jB f V J W i j (xV (V i) (V j) [])),25⟩ (.str (tx (P.pY (W i)))) ⟨(23,.list (v8 (W i) (W i).reverse.length))::jQ f [] (jB f V J W i j (xV (V i) (V j) [])),25⟩:=
  ej▸tP U (by rw[cJ];exact au li ay)
 refine aR B.Di λtk2 DA zz=>?_;have call:bM G (λvs=>call (.ref 224) vs) [.str (tx (P.pY (W i)++W j)),.ref 21] ⟨(23,.list (v8 (W i) (W i).reverse.length))::jQ f [] (jB f V J W i j (xV (V i) (V j) [])),25⟩ (.str (tx tr)) ⟨(23,.list (v8 (W i) (W i).reverse.length))::jQ f (fF p) (jB f V J W i j (xV (V i) (V j) [])),25⟩:=
  DR (x:=21) (d:=20) (t:=1) (k:=f) (B.le U) U U U hp.reach U hwd (au hl ay)
 refine .shp (σ1:=⟨[(23,.list (v8 (W i) (W i).reverse.length))]++jQ f (fF p) (jB f V J W i j (xV (V i) (V j) [(So "trail",.str (tx tr))])),25⟩) ?a (IT (more:=xV (V i) (V j) [(So "trail",.str (tx tr))]) (more2:=xV (V i) (V j) [(So "trail",.str (tx tr))]) [(23,.list (v8 (W i) (W i).reverse.length))] U ⟨U,U,U,U,U,U,U,U,U,U,U,U,U,U,U,U,aE⟩)
 case a =>
  refine .assign (.i_ DA (.glob (YT B)) (.cons (.bin (.n_ fu cA U .str l_ (.cons (.comp (mm:=[]) (it:=22) (σ2:=uI f V J W i j (xV (V i) (V j) []) 0) (σ3:=(PP (uI f V J W i j (xV (V i) (V j) []) (W i).reverse.length) (v8 (W i) (W i).reverse.length) []).del 22) 25 (cl:=[]) ak ak
   (.slice (.sub (.loc U U) (.loc U U) (cz U (idx i).1 (uh hi) (show 5<2^62 by decide))) .no .no (.at (.un .int iu)) (s_ (bD (au li ay)))) qq (show 24<25 by decide) ?h3 U) .nil) join)
   (.sub (.loc U U) (.loc U U) (cz U (idx j).1 (uh hj) (show 5<2^62 by decide))) (j9 (by rw[P.sO];exact au (cF li lj) ay))) (.cons (.loc U U) .nil)) call) (.uH U U)
  refine cI.simple (N:=23) (n:=(W i).reverse.length) (uI f V J W i j (xV (V i) (V j) [])) (λk=>.str (tx [(W i).reverse.getD k 0])) (λk=>[(So "sign",.str (tx [(W i).reverse.getD k 0]))]) (v8 (W i)) (λzz=>U) U (show 22<25 by decide) U U U (pZ _ _ _ _ _) (tb U) (λk hk=>⟨?_,.name (.loc (m':=[]) U),?_⟩) (D.str hh U (by simp))
  ·rw[show(W i).reverse.getD k 0=(W i).reverse[k] by rw[aU,aP hk];rfl]
   exact X.sign U hk
  ·have i8:P.Lt ((W i).reverse.getD k 0):=by
    rw[aU,aP hk];exact(hW i hi).1 _ (List.mem_reverse.mp (ew hk))
   refine aR (vG (G:=G) (σ:=PP (uI f V J W i j (xV (V i) (V j) []) (k+1)) (v8 (W i) k) [(So "sign",.str (tx [(W i).reverse.getD k 0]))]) i8) λq h1 h2=>?_;exact .pz (.sub .str (.rW PySem.F.slot_str_index cA U .str l_ (.cons (.loc U U) .nil) h1) (k_ (i:=(q:Int)) (aI _) h2 zo)) U (kG (au (bX hk) (by rw[cJ];exact au li ay))) gK
end
section
variable{G:Gv}{tk n m i j:Nat}{f:Int}{V:Nat->P.T4}{J:Nat->Nat->Int}{W:Nat->List Nat}{more more2:List (Str×CV)}{tr R:List Nat}{p:PL}{σ:St}
seal a8 cS SS eY bM dD bN eC cU cI ef eX cR gc dJ jK SK SF l5 SemQ pP
noncomputable abbrev N4(u v:P.T4)(tr R:List Nat)(more:List (Str×CV)):List (Str×CV):=xV u v ([(So "trail",.str (tx tr)),(So "rest",.str (tx R))]++more)
noncomputable abbrev jR(f:Int)(V:Nat->P.T4)(J:Nat->Nat->Int)(W:Nat->List Nat)(i j:Nat)(p:PL)(tr R:List Nat)(more:List (Str×CV)):List (Nat×AO):=jQ f (fF p) (jB f V J W i j (N4 (V i) (V j) tr R more))
unseal st in
theorem ju2(B:aO G 8)(hn:p.length<=100)(hf:(P.flat p++tr).length<=100):SS G m (eJ tk) (az gy 2) ⟨jQ f (fF p) (jB f V J W i j (xV (V i) (V j) [(So "trail",.str (tx tr))])),22⟩ .next ⟨jR f V J W i j p tr (P.flat p++tr) [],22⟩:=by
 conv in az gy 2=>whnf
 have h2:(P.flat p).length<=1000000:=by rw[aB]at hf;exact au (bg _ _) (au hf ay)
 exact .assign (.bin (.jS (.glob (C_ B)) (.cons (.loc U U) .nil) (Gh (x:=21) (d:=20) (t:=2) (k:=f) (p:=p) (B.le U) U U U (au hn ay) h2)) (.loc U U) (j9 (by rw[aB]at hf;exact au hf ay))) (.uH U U)
noncomputable abbrev Ad(a:Nat):Bool:=a==102 || a==70
theorem Jy(a:Nat):decide (a∈[102,70])=Ad a:=by
 rw[Bool.eq_iff_iff,decide_eq_true_iff,Bool.or_eq_true,beq_iff_eq,beq_iff_eq];simp
noncomputable abbrev IF(f:Int)(V:Nat->P.T4)(J:Nat->Nat->Int)(W:Nat->List Nat)(i j:Nat)(p:PL)(tr R:List Nat)(k:Nat):St:=⟨(22,.rf (tx R) k)::jR f V J W i j p tr R [],23⟩
noncomputable abbrev pq(R:List Nat):Nat->List CV:=outF (λk=>Ad (R.getD k 0)) λk=>.str (tx [R.getD k 0])
theorem Ed(R:List Nat):pq R R.length=kF (R.filter Ad):=by
 have e:(bc R.length).map (λk=>R.getD k 0)=R:=(range_getD id R).trans (List.map_id R);show((bc R.length).filter λk=>Ad (R.getD k 0)).map (λk=>CV.str (tx [R.getD k 0]))=(R.filter Ad).map λx=>CV.str (tx [x])
 conv=>rhs;rw[←e]
 rw[List.filter_map,f9];rfl
noncomputable def fO(R:List Nat):List Nat:=(P.pv R).take 1
theorem L6(R:List Nat):(kF (R.filter Ad)++kF R++[.str (tx [])])[(0:Int).toNat]?=aa (.str (tx (fO R))):=by
 rw[kF,kF,←bG];show((P.pv R).map (λx=>CV.str (tx [x]))++[.str (tx [])])[0]?=_;unfold fO;cases P.pv R with
 |nil=>rfl
 |cons a l=>rfl
unseal st in
theorem ju3(B:aO G 8)(hh:G.A.handled=none)(hR:R.length<=100):SS G 20 (eJ tk) (az gy 3) ⟨jR f V J W i j p tr R [],22⟩ .next ⟨jR f V J W i j p tr R [(So "lead",.str (tx (fO R)))],22⟩:=by
 conv in az gy 3=>whnf
 have hf:∀l:List Nat,l.length<=100->(kF l).length<=100:=λl h=>by rw[aG];exact h
 have l1:=hf _ (au (kR Ad R) hR);have l2:=hf _ hR;have a1:bN G (eB .Add) (.ref 23) (.ref 25) ⟨(25,.list (kF R))::(23,.list (pq R R.length))::jR f V J W i j p tr R [],26⟩ (.ref 26) ⟨(26,.list (kF (R.filter Ad)++kF R))::(25,.list (kF R))::(23,.list (pq R R.length))::jR f V J W i j p tr R [],27⟩:=by
  have h:=add_lists (G:=G) (σ:=⟨(25,.list (kF R))::(23,.list (pq R R.length))::jR f V J W i j p tr R [],26⟩) (j:=23) (k:=25) (xs:=kF (R.filter Ad)) (ys:=kF R) (congrArg (λl=>aa (AO.list l)) (Ed R)) U (bD (au (cF l1 l2) ay));exact h
 refine .shp (σ1:=⟨[(28,.list (kF (R.filter Ad)++kF R++[.str (tx [])])),(27,.list [.str (tx [])]),(26,.list (kF (R.filter Ad)++kF R)),(25,.list (kF R)),(23,.list (pq R R.length))]++jR f V J W i j p tr R [(So "lead",.str (tx (fO R)))],29⟩) ?a
  (IT (more:=N4 (V i) (V j) tr R [(So "lead",.str (tx (fO R)))]) (more2:=N4 (V i) (V j) tr R [(So "lead",.str (tx (fO R)))]) [(28,.list (kF (R.filter Ad)++kF R++[.str (tx [])])),(27,.list [.str (tx [])]),(26,.list (kF (R.filter Ad)++kF R)),(25,.list (kF R)),(23,.list (pq R R.length))] U ⟨U,U,U,U,U,U,U,U,U,U,U,U,U,U,U,U,U,U,aE⟩)
 case a =>
  refine .assign (.sub (.bin (.bin (.comp (mm:=[]) (it:=22) (σ2:=IF f V J W i j p tr R 0) (σ3:=(PP (IF f V J W i j p tr R R.length) (pq R R.length) []).del 22) 25 (cl:=[]) ak ak (.loc U U) qq (show 24<25 by decide) ?h3 U)
   (.jS (.glob (oQ B)) (.cons (.loc U U) .nil) (rL hh (bD (au hR ay)))) a1) (.list (.cons (.fW jn) .nil) U)
   (add_lists U U (by rw[aB];exact bD (au (cE (cF l1 l2) 1) ay)))) .int (cz U ay (L6 R) (by rw[aB,aB];exact aY (cE (cF l1 l2) 1) (show 201<2^62 by decide)))) (.uH U U)
  refine cI.simple (N:=23) (n:=R.length) (IF f V J W i j p tr R) (λk=>.str (tx [R.getD k 0])) (λk=>[(So "sign",.str (tx [R.getD k 0]))]) (pq R) (λzz=>U) U (show 22<25 by decide) U U U (yg _ _ _ _ _ _) (tb U) (λk hk=>⟨?_,.name (.loc (m':=[]) U),?_⟩) (D.str hh U (by simp))
  ·rw[show R.getD k 0=R[k] by rw[aU,aP hk];rfl]
   exact X.sign U hk
  ·cases hb:Ad (R.getD k 0)with
   |true=>exact .F9 (.cmp (.loc U U) .str (fe (l:=[102,70]) U ((Jy _).trans hb))) (.pz (.loc U U) U (tv (au (bX hk) (au hR ay))) (tq (b:=λk=>Ad (R.getD k 0)) hb))
   |false =>
    have e:=wu (b:=λk=>Ad (R.getD k 0)) (F:=λk=>.str (tx [R.getD k 0])) (i:=k) hb;rw[show pq R (k+1)=pq R k from e.symm];exact .yj (.cmp (.loc U U) .str (fe (l:=[102,70]) U ((Jy _).trans hb)))
end
section
variable{G:Gv}{tk n i j:Nat}{f:Int}{V:Nat->P.T4}{J:Nat->Nat->Int}{W:Nat->List Nat}{more more2:List (Str×CV)}{pre:List (Nat×AO)}{ps:List (Str×Str)}{tr R:List Nat}{p:PL}
seal a8 cS SS eY bM dD bN eC cU cI ef eX cR gc dJ jK SK SF l5 SemQ pP
noncomputable abbrev xI(a b:Nat)(L:List Nat):Bool:=[tx [a],tx [b]].any (·==tx L)
theorem zT(a b c:Nat):xI a b [c]=(c==a || c==b):=by
 show((tx [a]==tx [c]) || ((tx [b]==tx [c]) || false))=_;rw[qM,qM,Bool.or_false];have h:∀x y:Nat,(([x]:List Nat)==[y])=(y==x):=λx y=>by
  rw[Bool.eq_iff_iff,beq_iff_eq,beq_iff_eq];exact⟨λe=>(jY e).1.symm,λe=>by rw[e]⟩
 rw[h,h]
theorem Bd(hw:P.Wd R):(xI 102 105 (fO R)=af/\P.gH R=1)∨(xI 102 105 (fO R)=false/\xI 70 73 (fO R)=af/\P.gH R=-1)∨(xI 102 105 (fO R)=false/\xI 70 73 (fO R)=false/\P.gH R=0):=by
 have hl:∀a∈P.pv R,P.Lt a:=λa ha=>(List.mem_append.mp ha).elim (λh=>hw a (List.mem_filter.mp h).1) (hw a);unfold fO P.gH;cases e:P.pv R with
 |nil=>exact .inr (.inr ⟨ak,ak,U⟩)
 |cons a l =>
  have ha:=hl a (e ▸ .head _);show(xI 102 105 [a]=af/\(if a=102∨a=105 then(1:Int)else -1)=1)∨_;rw[show(a::l).take 1=[a]from U,zT,zT];rcases ha with rfl|rfl|rfl|rfl
  ·exact .inl ⟨U,U⟩
  ·exact .inr (.inl ⟨U,U,U⟩)
  ·exact .inl ⟨U,U⟩
  ·exact .inr (.inl ⟨U,U,U⟩)
noncomputable abbrev jN2(u v:P.T4)(tr R:List Nat)(more:List (Str×CV)):List (Str×CV):=N4 u v tr R ([(So "lead",.str (tx (fO R))),(So "mark",.int (P.gH R))]++more)
noncomputable abbrev sR(a b:Nat):AO:=.list ([tx [a],tx [b]].map .str)
unseal st in
theorem ju4(hw:P.Wd R):SS G 20 (eJ tk) (az gy 4) ⟨jR f V J W i j p tr R [(So "lead",.str (tx (fO R)))],22⟩ .next ⟨jR f V J W i j p tr R [(So "lead",.str (tx (fO R))),(So "mark",.int (P.gH R))],22⟩:=by
 conv in az gy 4=>whnf
 have sh:=λ(pre:List (Nat×AO)) (n:Nat) h=>IT (n:=n) (f:=f) (V:=V) (J:=J) (W:=W) (i:=i) (j:=j) (ps:=fF p) (more:=jN2 (V i) (V j) tr R []) (more2:=jN2 (V i) (V j) tr R []) pre h ⟨U,U,U,U,U,U,U,U,U,U,U,U,U,U,U,U,U,U,U,aE⟩;have in1:∀b,xI 102 105 (fO R)=b->bN G (bS .In) (.str (tx (fO R))) (.ref 22) ⟨(22,sR 102 105)::jR f V J W i j p tr R [(So "lead",.str (tx (fO R)))],23⟩ (.bool b) ⟨(22,sR 102 105)::jR f V J W i j p tr R [(So "lead",.str (tx (fO R)))],23⟩:=λb h=>h▸rD U;have in2:∀b,xI 70 73 (fO R)=b->bN G (bS .In) (.str (tx (fO R))) (.ref 23) ⟨(23,sR 70 73)::(22,sR 102 105)::jR f V J W i j p tr R [(So "lead",.str (tx (fO R)))],24⟩ (.bool b) ⟨(23,sR 70 73)::(22,sR 102 105)::jR f V J W i j p tr R [(So "lead",.str (tx (fO R)))],24⟩:=λb h=>h▸rD U;rcases Bd hw with⟨h1,hm⟩|⟨h1,h2,hm⟩|⟨h1,h2,hm⟩
 ·refine .shp (σ1:=⟨[(22,sR 102 105)]++jR f V J W i j p tr R [(So "lead",.str (tx (fO R))),(So "mark",.int (P.gH R))],23⟩) ?_ (sh _ _ U)
  rw[hm];exact .assign (.js (b:=af) (.cmp (.loc U U) (.list (cs:=[tx [102],tx [105]].map .str) (.cons (.fW ak) (.cons (.fW ak) .nil)) U) (in1 _ h1)) .int) (.uH U U)
 ·refine .shp (σ1:=⟨[(23,sR 70 73),(22,sR 102 105)]++jR f V J W i j p tr R [(So "lead",.str (tx (fO R))),(So "mark",.int (P.gH R))],24⟩) ?_ (sh _ _ U)
  rw[hm];exact .assign (.js (b:=false) (.cmp (.loc U U) (.list (cs:=[tx [102],tx [105]].map .str) (.cons (.fW ak) (.cons (.fW ak) .nil)) U) (in1 _ h1)) (.js (b:=af) (.cmp (.loc U U) (.list (cs:=[tx [70],tx [73]].map .str) (.cons (.fW ak) (.cons (.fW ak) .nil)) U) (in2 _ h2)) (.un .int iu))) (.uH U U)
 ·refine .shp (σ1:=⟨[(23,sR 70 73),(22,sR 102 105)]++jR f V J W i j p tr R [(So "lead",.str (tx (fO R))),(So "mark",.int (P.gH R))],24⟩) ?_ (sh _ _ U)
  rw[hm];exact .assign (.js (b:=false) (.cmp (.loc U U) (.list (cs:=[tx [102],tx [105]].map .str) (.cons (.fW ak) (.cons (.fW ak) .nil)) U) (in1 _ h1)) (.js (b:=false) (.cmp (.loc U U) (.list (cs:=[tx [70],tx [73]].map .str) (.cons (.fW ak) (.cons (.fW ak) .nil)) U) (in2 _ h2)) .int)) (.uH U U)
noncomputable def nC(u v:P.T4):List Int:=[u.1-v.1,v.2.1*u.2.2.1-u.2.1*v.2.2.1,v.2.2.2-u.2.2.2]
noncomputable abbrev S4(f:Int)(V:Nat->P.T4)(J:Nat->Nat->Int)(W:Nat->List Nat)(i j:Nat)(p:PL)(tr R:List Nat)(k:Nat):St:=⟨(23,.ix 22 k)::(22,.list ((nC (V i) (V j)).map .int))::jR f V J W i j p tr R [(So "lead",.str (tx (fO R))),(So "mark",.int (P.gH R))],24⟩
noncomputable abbrev xl(u v:P.T4):Nat->List CV:=outF (λk=>(nC u v).getD k 0 != 0) λk=>.int ((nC u v).getD k 0)
theorem S3(u v:P.T4):(xl u v 3++[.int 0])[(0:Int).toNat]?=aa (.int (P.nU u v)):=by
 have e:xl u v 3=((nC u v).filter (· != 0)).map .int:=by
  show((bc 3).filter λk=>(nC u v).getD k 0 != 0).map (λk=>CV.int ((nC u v).getD k 0))=_;have e3:(bc 3).map (λk=>(nC u v).getD k 0)=nC u v:=U
  conv=>rhs;rw[←e3]
  rw[List.filter_map,f9];rfl
 rw[e];unfold nC P.nU P.dt;by_cases h1:u.1-v.1=0
 ·rw[if_neg (λh=>h h1)]
  by_cases h2:v.2.1*u.2.2.1-u.2.1*v.2.2.1=0
  ·rw[if_neg (λh=>h h2),iE,iE,iE,h1,h2]
   by_cases h3:v.2.2.2-u.2.2.2=0
   ·rw[h3];rfl
   ·rw[show(v.2.2.2-u.2.2.2 != 0)=af from bne_iff_ne.mpr h3];rfl
  ·rw[if_pos h2,iE,iE,h1,show(v.2.1*u.2.2.1-u.2.1*v.2.2.1 != 0)=af from bne_iff_ne.mpr h2];rfl
 ·rw[if_pos h1,iE,show(u.1-v.1 != 0)=af from bne_iff_ne.mpr h1];rfl
noncomputable abbrev N5(R:List Nat)(u v:P.T4):List (Str×CV):=[(So "lead",.str (tx (fO R))),(So "mark",.int (P.gH R)),(So "gap",.int (P.nU u v))]
theorem Ex{u v:P.T4}(h:i<3):((nC u v).map CV.int)[i]?=aa (.int ((nC u v).getD i 0)):=by
 match i,h with
 |0,_=>rfl
 |1,_=>rfl
 |2,_=>rfl
unseal st in
theorem ju5(hh:G.A.handled=none)(hV:∀k,k<5->(V k).2.1.natAbs<2^40)(hi:i<5)(hj:j<5):SS G 20 (eJ tk) (az gy 5) ⟨jR f V J W i j p tr R [(So "lead",.str (tx (fO R))),(So "mark",.int (P.gH R))],22⟩ .next ⟨jR f V J W i j p tr R (N5 R (V i) (V j)),22⟩:=by
 conv in az gy 5=>whnf
 have gl:(xl (V i) (V j) 3).length<=3:=by
  show(((bc 3).filter _).map _).length<=3;rw[aG];exact kR _ (bc 3)
 refine .shp (σ1:=⟨[(27,.list (xl (V i) (V j) 3++[.int 0])),(26,.list [.int 0]),(24,.list (xl (V i) (V j) 3)),(22,.list ((nC (V i) (V j)).map .int))]++jR f V J W i j p tr R (N5 R (V i) (V j)),28⟩) ?a
  (IT (more:=N4 (V i) (V j) tr R (N5 R (V i) (V j))) (more2:=N4 (V i) (V j) tr R (N5 R (V i) (V j))) _ U ⟨U,U,U,U,U,U,U,U,U,U,U,U,U,U,U,U,U,U,U,U,aE⟩)
 case a =>
  refine .assign (.sub (.bin (.comp (mm:=[]) (it:=23) (σ2:=S4 f V J W i j p tr R 0) (σ3:=(PP (S4 f V J W i j p tr R 3) (xl (V i) (V j) 3) []).del 23) 26 (cl:=[]) ak ak
   (.list (cs:=(nC (V i) (V j)).map .int) (.cons (.bin (.loc U U) (.loc U U) pG) (.cons (.bin (.bin (.loc U U) (.loc U U) (pH (lx (hV j hj)))) (.bin (.loc U U) (.loc U U) (pH (lx (hV i hi)))) pG) (.cons (.bin (.loc U U) (.loc U U) pG) .nil))) U) (dP U) (show 25<26 by decide) ?h3 U) (.list (.cons .int .nil) U)
   (add_lists U U (bD (au (cE gl 1) ay)))) .int (cz U ay (S3 _ _) (by rw[aB];exact aY (cE gl 1) (show 4<2^62 by decide)))) (.uH U U)
  refine cI.simple (N:=24) (n:=3) (S4 f V J W i j p tr R) (λk=>.int ((nC (V i) (V j)).getD k 0)) (λk=>[(So "way",.int ((nC (V i) (V j)).getD k 0))]) (xl (V i) (V j)) (λzz=>U) U (show 23<26 by decide) U U U (yg _ _ _ _ _ _) (fE U) (λk hk=>⟨X.names U U (Ex hk),.name (.loc (m':=[]) U),?_⟩) (D.list hh U U U);cases hb:((nC (V i) (V j)).getD k 0 != 0)with
  |true=>exact .F9 (.cmp (.loc U U) .int (Cz.to hb)) (.pz (.loc U U) U (tv (au (bX hk) ay)) (tq (b:=λk=>(nC (V i) (V j)).getD k 0 != 0) hb))
  |false =>
   have e:=wu (b:=λk=>(nC (V i) (V j)).getD k 0 != 0) (F:=λk=>.int ((nC (V i) (V j)).getD k 0)) (i:=k) hb;rw[show xl (V i) (V j) (k+1)=xl (V i) (V j) k from e.symm];exact .yj (.cmp (.loc U U) .int (Cz.to hb))
end
section
variable{G:Gv}{tk n m i j:Nat}{f:Int}{V:Nat->P.T4}{J:Nat->Nat->Int}{W:Nat->List Nat}{more more2:List (Str×CV)}{ps:List (Str×Str)}{tr R:List Nat}{p:PL}{σ:St}
theorem rd(p:PL):(kJ (fF p)).sum=((P.flat p).length:Int):=by
 have h:∀l:PL,(kJ (l.map λq=>(tx q.1,tx q.2))).sum=(((l.map λq=>q.1++q.2).flatten.length:Nat):Int):=by
  intro l
  induction l with
  |nil=>rfl
  |cons q l ih =>
   have e:kJ ((q::l).map λq=>(tx q.1,tx q.2))=((tx q.1).length+(tx q.2).length:Int)::kJ (l.map λq=>(tx q.1,tx q.2)):=U;rw[e,List.sum_cons,ih,cn,f_,aB,aB,cw,cw];lia
 exact h p.reverse
theorem G0(p:PL)(h:(P.flat p).length<=1000):∀q∈fF p,q.1.length<2^60/\q.2.length<2^60:=by
 intro q hq;obtain⟨r,hr,rfl⟩:=List.mem_map.mp hq;have:=CU (l:=p.reverse) hr;rw[cw,cw];have h1:(nN p.reverse).length<=1000:=h
 constructor<;>exact aY (au (by first|exact bg _ _|exact f7 _ _) (au this h1)) ay
seal a8 cS SS eY bM dD bN eC cU cI ef eX cR gc dJ jK SK SF l5 SemQ pP
noncomputable abbrev xU(f:Int)(V:Nat->P.T4)(J:Nat->Nat->Int)(W:Nat->List Nat)(i j:Nat)(p:PL)(tr R:List Nat):List (Nat×AO):=jR f V J W i j p tr R (N5 R (V i) (V j))
theorem IG(v:P.T4):Lay (n+1) (.list ([v.1,v.2.1,v.2.2.1,v.2.2.2].map .int)):=.ints
unseal st in
theorem ju6(B:aO G 8)(hh:G.A.handled=none)(hi:i<5)(hj:j<5)(hf:0<=f/\f<1000)(hW:∀k,k<5->P.Wd (W k)/\(W k).length<=10)(hVi:V i=P.dN (W i))(hVj:V j=P.dN (W j))(hp:P.BR (W i) (W j) tr p):
  SS G 20 (eJ tk) (az gy 6) ⟨xU f V J W i j p tr (P.flat p++tr),22⟩ .next ⟨xU f V J W i j p tr (P.flat p++tr),22⟩:=by
 conv in az gy 6=>whnf
 have hl:(P.flat p++tr).length<=20:=au hp.len (cF (hW i hi).2 (hW j hj).2);have Us:(P.flat p).length<=20:=by rw[aB]at hl;exact au (bg _ _) hl
 have htl:tr.length<=20:=by rw[aB]at hl;exact au (f7 _ _) hl
 have hul:(W i++(P.flat p++tr)).length<=30:=by rw[aB];exact cF (hW i hi).2 hl
 refine aR B.zS λtk2 DA zz=>?_;have c2:bM G (λvs=>call (.ref 231) vs) [.str (tx (W i++(P.flat p++tr)))] ⟨xU f V J W i j p tr (P.flat p++tr),22⟩ (.ref 22) ⟨[(22,.list (hZ (V j)))]++xU f V J W i j p tr (P.flat p++tr),23⟩:=by
  rw[hVj,←hp.turn];exact SK.sU (g:=λvs=>call (.ref 231) vs) (SK.rC (τ0:=⟨[],0⟩) (news:=[(22,.list (hZ (P.dN (W i++(P.flat p++tr)))))]) (n':=23) (c:=.ref 22) (ks:=[]) (ks0:=[]) [] [(22,2)] U U U U U aE aE ⟨aD,aE⟩ (λh k=>Nr ((B.le (m:=5) U).ext k) (bD (au hul ay))) U U U)
 have g22:(⟨[(22,.list (hZ (V j)))]++xU f V J W i j p tr (P.flat p++tr),23⟩:St).get (6+j)=aa (.list (hZ (V j))):=IS ((22,.list (hZ (V j)))::Me f (fF p) i j) U hj;have ne:bN G (bS .NotEq) (.ref 22) (.ref (6+j)) ⟨[(22,.list (hZ (V j)))]++xU f V J W i j p tr (P.flat p++tr),23⟩ (.bool false) ⟨[(22,.list (hZ (V j)))]++xU f V J W i j p tr (P.flat p++tr),23⟩:=
  iX (n:=1) (IG (V j)) (.ints (l:=[(V j).1,(V j).2.1,(V j).2.2.1,(V j).2.2.2]) U) (.ints (l:=[(V j).1,(V j).2.1,(V j).2.2.1,(V j).2.2.2]) g22) (aM (aY (cq (show 1<=10*8 by decide) _) B.un) (show 9000<=9900 by decide))
 have ln:=ID (G:=G) (σ:=⟨[(22,.list (hZ (V j)))]++xU f V J W i j p tr (P.flat p++tr),23⟩) (ps:=fF p) (x:=21) (d:=20) (t:=1) (k:=f) (B.le U) U U U (by rw[aV,decide_eq_true_iff,decide_eq_true_iff];lia) (G0 p (au Us ay)) (by rw[rd];lia) (by rw[rd];lia);rw[rd]at ln;refine .shp (σ1:=⟨[(22,.list (hZ (V j)))]++xU f V J W i j p tr (P.flat p++tr),23⟩) ?main (IT (more:=N4 (V i) (V j) tr (P.flat p++tr) (N5 (P.flat p++tr) (V i) (V j))) (more2:=N4 (V i) (V j) tr (P.flat p++tr) (N5 (P.flat p++tr) (V i) (V j))) _ U ⟨U,U,U,U,U,U,U,U,U,U,U,U,U,U,U,U,U,U,U,U,aE⟩)
 case main =>
  refine .js (b:=false) (.G8 (σ1:=⟨xU f V J W i j p tr (P.flat p++tr),22⟩) (.cmp (b:=.int (P.sg (P.nU (V i) (V j)))) (σ1:=⟨xU f V J W i j p tr (P.flat p++tr),22⟩) (σ2:=⟨xU f V J W i j p tr (P.flat p++tr),22⟩) (.loc U U) ?sg (Cz.to ?e1))
   (.G8 (.cmp (.i_ DA (.glob (vK B)) (.cons (.bin (.sub (.loc U U) (.loc U U) (cz U (idx i).1 (uh hi) (show 5<2^62 by decide))) (.loc U U) (j9 (by rw[←aB];exact au hul ay))) .nil) c2) (.sub (.loc U U) (.loc U U) (cz U (idx j).1 (ui hj) (show 5<2^62 by decide))) ne)
   (.G8 (σ1:=⟨[(22,.list (hZ (V j)))]++xU f V J W i j p tr (P.flat p++tr),23⟩) ?c3 (.QQ (.cmp (.mn (.glob (gC B)) (.cons (.loc U U) .nil) ln) (.bin (.bin (.loc U U) (.mn (.glob (gC B)) (.cons (.loc U U) .nil) (wU (au hl ay))) jq) (.mn (.glob (gC B)) (.cons (.loc U U) .nil) (wU (au htl ay))) pG) (Cz.to ?e4)))))) .nil
  case sg =>
   unfold P.sg;by_cases h1:P.nU (V i) (V j)>0
   ·rw[if_pos h1]
    exact .js (b:=af) (.cmp (.loc U U) .int (rE.to (decide_eq_true h1))) .int
   ·rw[if_neg h1]
    by_cases h2:P.nU (V i) (V j)<0
    ·rw[if_pos h2]
     exact .js (b:=false) (.cmp (.loc U U) .int (rE.to (decide_eq_false h1))) (.js (b:=af) (.cmp (.loc U U) .int (iK.to (decide_eq_true h2))) (.un .int iu))
    ·rw[if_neg h2]
     exact .js (b:=false) (.cmp (.loc U U) .int (rE.to (decide_eq_false h1))) (.js (b:=false) (.cmp (.loc U U) .int (iK.to (decide_eq_false h2))) .int)
  case e1=>rw[hp.mark,hVi,hVj];exact bne_self_eq_false _
  case c3 =>
   by_cases h1:102∈P.flat p++tr
   ·exact .sa (.cmp (.fW (y:=tx [102]) ak) (.loc U U) (fe U (decide_eq_true h1))) (.uj (.cmp (.fW (y:=tx [70]) ak) (.loc U U) (fe U (decide_eq_false λh2=>hp.free ⟨h1,h2⟩))))
   ·exact .JX (.cmp (.fW (y:=tx [102]) ak) (.loc U U) (fe U (decide_eq_false h1)))
  case e4 =>
   rw[aB,Int.natCast_add,←Int.add_assoc,Int.add_sub_cancel];exact bne_self_eq_false _
end
section
variable{G:Gv}{tk n m i j a b:Nat}{f x:Int}{V:Nat->P.T4}{J:Nat->Nat->Int}{W:Nat->List Nat}{more:List (Str×CV)}{pre:List (Nat×AO)}{ps:List (Str×Str)}{tr R:List Nat}{p:PL}{σ:St}
theorem La(hb:b<5):(e_ J a).set b (.int x)=e_ (o5 J a b x) a:=by
 have e:∀k,o5 J a b x a k=if k=b then x else J a k:=λk=>by unfold o5;simp
 unfold e_;rw[e,e,e,e,e]
 match b,hb with
 |0,_=>rfl
 |1,_=>rfl
 |2,_=>rfl
 |3,_=>rfl
 |4,_=>rfl
theorem Qr{c: Nat}(h:c≠a):e_ (o5 J a b x) c=e_ J c:=by
 have e:∀k,o5 J a b x c k=J c k:=λk=>if_neg λq=>h q.1;unfold e_;rw[e,e,e,e,e]
theorem XF(pre:List (Nat×AO))(h:(pre.all λp=>cf 15 p.1)=af)(ha:a<5)(hb:b<5):(⟨pre++jO f V J W more,n⟩:St).set (11+a) (.list ((e_ J a).set b (.int x)))=⟨pre++jO f V (o5 J a b x) W more,n⟩:=by
 have u:=FQ (l:=jO f V J W more) (o:=.list ((e_ J a).set b (.int x))) h (cq (Nat.le_of_lt_succ ha) 11);show(⟨lU (pre++jO f V J W more) (11+a) _,n⟩:St)=_;rw[u,La hb]
 congr 2
 have r:∀c,c≠a->e_ (o5 J a b x) c=e_ J c:=λc h=>Qr h
 match a,ha with
 |0,_=>show _=jO f V _ W more;unfold jO;rw[r 1 ay,r 2 ay,r 3 ay,r 4 ay];rfl
 |1,_=>show _=jO f V _ W more;unfold jO;rw[r 0 ay,r 2 ay,r 3 ay,r 4 ay];rfl
 |2,_=>show _=jO f V _ W more;unfold jO;rw[r 1 ay,r 0 ay,r 3 ay,r 4 ay];rfl
 |3,_=>show _=jO f V _ W more;unfold jO;rw[r 1 ay,r 2 ay,r 0 ay,r 4 ay];rfl
 |4,_=>show _=jO f V _ W more;unfold jO;rw[r 1 ay,r 2 ay,r 3 ay,r 0 ay];rfl
seal a8 cS SS eY bM dD bN eC cU cI ef eX cR gc dJ jK SK SF l5 SemQ pP
theorem NB(ha:a<5)(hb:b<5):pP G (.ref (11+a)) (.int (0+(b:Int))) (.int x) ⟨jQ f ps (jB f V J W i j more),n⟩ ⟨jQ f ps (jB f V (o5 J a b x) W i j more),n⟩:=by
 have h:=yu (G:=G) (σ:=⟨jQ f ps (jB f V J W i j more),n⟩) (c:=.int x) (XG (J:=J) (Me f ps i j) U ha) (idx b).1 (by rw[(by rfl:(e_ J a).length=5),kq];exact Int.ofNat_lt.mpr hb) (show 5<2^62 by decide);rw[(idx b).2]at h;exact(XF (Me f ps i j) U ha hb)▸h
unseal st in
theorem ju7(hh:G.A.handled=none)(hi:i<5)(hj:j<5):SS G m (eJ tk) (az gy 7) ⟨xU f V J W i j p tr R,22⟩ .next ⟨xU f V (o5 (o5 J i j (P.gH R)) j i (-(P.gH R))) W i j p tr R,22⟩:=by
 conv in az gy 7=>whnf
 refine .ig (c:=.tup [.int (P.gH R),.int (-(P.gH R))]) (σ1:=⟨xU f V J W i j p tr R,22⟩) (.tuple (.cons (.loc U U) (.cons (.un (.loc U U) iu) .nil)) U)
  (.tuple (σ1:=⟨xU f V (o5 (o5 J i j (P.gH R)) j i (-(P.gH R))) W i j p tr R,22⟩) hh ?t) (hw:=λenv h=>(bQ h).trans ak)
 case t =>
  exact .ZW (σ1:=⟨xU f V (o5 J i j (P.gH R)) W i j p tr R,22⟩) (.sub (.sub (.loc U U) (.loc U U) (cz U (idx i).1 (zP hi) (show 5<2^62 by decide))) (.loc U U) (NB hi hj))
   (.ZW (.sub (.sub (.loc U U) (.loc U U) (cz U (idx j).1 (zP hj) (show 5<2^62 by decide))) (.loc U U) (NB hj hi)) .nil)
end
section
variable{G:Gv}{tk n m i j k a b:Nat}{f:Int}{V:Nat->P.T4}{J:Nat->Nat->Int}{W:Nat->List Nat}
def qz(j k a b:Nat):Prop:=(a<b/\(b<j∨(b=j/\a<k)))∨(b<a/\(a<j∨(a=j/\b<k)))
instance:Decidable (qz j k a b):=by unfold qz;infer_instance
noncomputable def fN(V:Nat->P.T4)(j k:Nat):Nat->Nat->Int:=λa b=>if qz j k a b then P.J (V a) (V b)else 0
theorem vJ:(a<b/\(b<j∨(b=j/\a<j))) ↔ (a<b/\(b<j+1∨(b=j+1/\a<0))):=
 ⟨λh=>⟨h.1,.inl (h.2.elim (λq=>d0 q) λq=>q.1▸bq _)⟩,λh=>⟨h.1,h.2.elim (λq=>(Nat.lt_succ_iff_lt_or_eq.mp q).imp id λe=>⟨e,e▸h.1⟩) λq=>absurd q.2 (Nat.not_lt_zero _)⟩⟩
theorem vI(n:¬(a=k/\b=j)):(a<b/\(b<j∨(b=j/\a<k))) ↔ (a<b/\(b<j∨(b=j/\a<k+1))):=
 ⟨λh=>⟨h.1,h.2.imp id λq=>⟨q.1,d0 q.2⟩⟩,λh=>⟨h.1,h.2.imp id λq=>⟨q.1,(Nat.lt_succ_iff_lt_or_eq.mp q.2).resolve_right λe=>n ⟨e,q.1⟩⟩⟩⟩
theorem CJ{j' k': Nat}(h:qz j k a b ↔ qz j' k' a b):fN V j k a b=fN V j' k' a b:=by
 unfold fN;by_cases q:qz j k a b
 ·rw[if_pos q,if_pos (h.mp q)]
 ·rw[if_neg q,if_neg λz=>q (h.mpr z)]
theorem Iu:fN V j j=fN V (j+1) 0:=funext λzz=>funext λzz=>CJ (or_congr vJ vJ)
theorem It(h:k<j):o5 (o5 (fN V j k) k j (P.J (V k) (V j))) j k (-(P.J (V k) (V j)))=fN V j (k+1):=by
 funext a b
 unfold o5;by_cases h1:a=j/\b=k
 ·rw[if_pos h1,h1.1,h1.2]
  unfold fN;rw[if_pos (.inr ⟨h,.inr ⟨U,bq k⟩⟩),P.xQ,Int.neg_neg]
 ·rw[if_neg h1]
  by_cases h2:a=k/\b=j
  ·rw[if_pos h2,h2.1,h2.2]
   unfold fN;rw[if_pos (.inl ⟨h,.inr ⟨U,bq k⟩⟩)]
  ·rw[if_neg h2]
   exact CJ (or_congr (vI h2) (vI λz=>h1 ⟨z.2,z.1⟩))
seal a8 cS SS eY bM dD bN eC cU cI ef eX cR gc dJ jK SK SF l5 SemQ pP
noncomputable abbrev nB(f:Int)(V:Nat->P.T4)(J:Nat->Nat->Int)(W:Nat->List Nat)(j k:Nat):St:=⟨(19,wY 0 j k)::(18,.n5 0 j 1)::(17,wY 0 5 (j+1))::(16,.n5 0 5 1)::jO f V J W [(So "two",.int (0+(j:Int)))],20⟩
noncomputable abbrev oB(f:Int)(V:Nat->P.T4)(J:Nat->Nat->Int)(W:Nat->List Nat)(j:Nat)(more:List (Str×CV)):St:=⟨(17,wY 0 5 j)::(16,.n5 0 5 1)::jO f V J W more,18⟩
structure OE(f:Int)(V:Nat->P.T4)(W:Nat->List Nat):Prop where
 f:0<=f/\f<1000
 w:∀k,k<5->P.Wd (W k)/\(W k).length<=10
 v:∀k,k<5->V k=P.dN (W k)
 b:∀k,k<5->(V k).2.1.natAbs<2^40
theorem G4(B:aO G 8)(hh:G.A.handled=none)(H:OE f V W)(hi:i<j)(hj:j<5):∃τ,eY G 20 (eJ tk) gy ⟨jB f V (fN V j i) W i j [],20⟩ .next τ/\gN 20 τ (nB f V (fN V j (i+1)) W j (i+1)):=by
 have Mo:=ka hi hj;refine US (P.Lj (H.w i Mo).1 (H.w j hj).1) λtr p hp=>?_;have hl:(P.flat p++tr).length<=20:=au hp.len (cF (H.w i Mo).2 (H.w j hj).2);have rN:p.length<=20:=by
  refine au (zq p hp.wf.bT).1 ?_;rw[aB]at hl;exact au (bg _ _) hl
 have hm:P.gH (P.flat p++tr)=P.J (V i) (V j):=by rw[hp.mark,H.v i Mo,H.v j hj];rfl
 have L:=ju7 (G:=G) (m:=20) (tk:=tk) (f:=f) (V:=V) (J:=fN V j i) (W:=W) (i:=i) (j:=j) (p:=p) (tr:=tr) (R:=P.flat p++tr) hh Mo hj;rw[hm,It hi]at L;refine⟨⟨jR f V (fN V j (i+1)) W i j p tr (P.flat p++tr) (N5 (P.flat p++tr) (V i) (V j)),22⟩,.text (show gy=[az gy 0,az gy 1,az gy 2,az gy 3,az gy 4,az gy 5,az gy 6,az gy 7] by kernel_rfl)
  (.cons (ju0 B hh Mo hj) (.cons (ju1 B hh Mo hj H.w hp) (.cons (ju2 B (au rN ay) (au hl ay)) (.cons (ju3 B hh (au hl ay)) (.cons (ju4 hp.wd) (.cons (ju5 hh H.b Mo hj) (.cons (ju6 B hh Mo hj H.f H.w (H.v i Mo) (H.v j hj) hp) (.cons L .nil U) U) U) U) U) U) U) U),?_⟩
 exact gN.mk [] U U ⟨aD,aD,aD,aD,aD,aD,aD,aD,aD,aD,aD,aD,aD,aD,aD,aD,⟨_,U,_,U,U,U,U,U,U,aE⟩,aD,aD,aD,aE⟩
noncomputable abbrev inJ:Stmt:=az (fB (az (fB (st 19)) 1)) 0
theorem V1(hj:j<5):dF 0 j 1=af/\cX 0 j 1=(j:Int):=by
 match j,hj with
 |0,_=>exact⟨ak,ak⟩
 |1,_=>exact⟨ak,ak⟩
 |2,_=>exact⟨ak,ak⟩
 |3,_=>exact⟨ak,ak⟩
 |4,_=>exact⟨ak,ak⟩
unseal st in
theorem inner(B:aO G 8)(hh:G.A.handled=none)(H:OE f V W)(hj:j<5):SS G 18 (eJ tk) inJ (oB f V (fN V j 0) W (j+1) [(So "two",.int (0+(j:Int)))]) .next ((nB f V (fN V j j) W j j).del 19):=by
 have body:=λi (hi:i<j)=>G4 (tk:=tk) (i:=i) B hh H hi hj
 conv in inJ=>whnf
 have r:bM G (λvs=>call (.type "range") vs) [.int (0+(j:Int))] (oB f V (fN V j 0) W (j+1) [(So "two",.int (0+(j:Int)))]) (.ref 18) ⟨(18,.n5 0 j 1)::(oB f V (fN V j 0) W (j+1) [(So "two",.int (0+(j:Int)))]).objs,19⟩:=by
  have h:=qT (G:=G) (σ:=oB f V (fN V j 0) W (j+1) [(So "two",.int (0+(j:Int)))]) (n:=0+(j:Int));rw[show AO.n5 0 (0+(j:Int)) 1=AO.n5 0 j 1 by rw[kq]]at h;exact h
 refine .for (m':=20) (it:=19) j (λk=>nB f V (fN V j k) W j k) U ay ay (.jS (.glob (jb B)) (.cons (.loc U U) .nil) r) (i6 (n:=j) U (V1 hj).1 (V1 hj).2) (λi hi=>?_) (D.kU hh U);refine aR (body i hi) λτ h1 h2=>?_;exact⟨τ,⟨_,_,_,X.kU U hi,.name (.loc U),.text ak h1⟩,h2⟩
unseal st in
theorem outer(B:aO G 8)(hh:G.A.handled=none)(H:OE f V W):SS G 4 (eJ tk) (az (fB (st 19)) 1) ⟨jO f V (fN V 0 0) W [],16⟩ .next ((oB f V (fN V 5 0) W 5 []).del 17):=by
 have body:=λj (hj:j<5)=>inner (tk:=tk) (j:=j) B hh H hj
 conv in az (fB (st 19)) 1=>whnf
 refine .for (m':=18) (it:=17) 5 (λk=>oB f V (fN V k 0) W k []) U ay ay (.jS (.glob (jb B)) (.cons .int .nil) qT) (i6 (n:=5) U ak ak) (λj hj=>?_) (D.kU hh U);have h:=body j hj;rw[Iu]at h;exact⟨_,⟨_,_,_,X.kU U hj,.name (.loc U),.text ak (.cons h .nil U)⟩,
  gN.mk [] U U ⟨aD,aD,aD,aD,aD,aD,aD,aD,aD,aD,aD,aD,aD,aD,⟨_,U,_,U,U,U,U,U,aE⟩,aD,aD,aD,aE⟩⟩
end
section
variable{G:Gv}{tk n m i k:Nat}{f:Int}{V:Nat->P.T4}{W:Nat->List Nat}
noncomputable abbrev Av(W:Nat->List Nat):AO:=.list [.str (tx (W 0)),.str (tx (W 1)),.str (tx (W 2)),.str (tx (W 3)),.str (tx (W 4))]
noncomputable abbrev hO(f:Int)(W:Nat->List Nat)(more:List (Str×CV)):List (Nat×AO):=[(3,.frame ([(So "first",.int f),(So "words",.ref 0)]++more)),(2,.tab qb GU),(1,.tab mA yz),(0,Av W)]
noncomputable def LM(V:Nat->P.T4):Nat->List (Nat×AO)
 |0=>[]
 |k+1=>(7+k,.list (hZ (V k)))::LM V k
noncomputable def LL:Nat->List (Nat×AO)
 |0=>[]
 |k+1=>(16+2*k,.list [.int 0,.int 0,.int 0,.int 0,.int 0])::(15+2*k,.list [.int 0])::LL k
noncomputable def CT(W:Nat->List Nat):Nat->List (Str×CV)
 |0=>[]
 |k+1=>[(So "word",.str (tx (W k)))]
noncomputable def Qx(k:Nat):List CV:=(bc k).map λi=>.ref (7+i)
noncomputable def Qw(k:Nat):List CV:=(bc k).map λi=>.ref (16+2*i)
noncomputable abbrev sT(f:Int)(V:Nat->P.T4)(W:Nat->List Nat)(k:Nat):St:=⟨LM V k++((6,.frame (CT W k))::(5,.list (Qx k))::(4,.ix 0 k)::hO f W []),7+k⟩
noncomputable abbrev aT(f:Int)(V:Nat->P.T4)(W:Nat->List Nat):List (Nat×AO):=LM V 5++((5,.list (Qx 5))::hO f W [])
noncomputable abbrev sZ(f:Int)(V:Nat->P.T4)(W:Nat->List Nat)(k:Nat):St:=⟨LL k++((14,.frame (CT W k))::(13,.list (Qw k))::(12,.ix 0 k)::aT f V W),15+2*k⟩
theorem Ir:fN V 0 0=λzz zz=>0:=by
 funext a b
 exact if_neg (by unfold qz;lia)
seal a8 cS SS eY bM dD bN eC cU cI ef eX cR gc dJ jK SK SF l5 SemQ pP
unseal st in
theorem XH(B:aO G 8)(hh:G.A.handled=none)(H:OE f V W):SS G 4 (eJ tk) (az (fB (st 19)) 0) ⟨hO f W [],4⟩ .next ⟨jO f V (fN V 0 0) W [],16⟩:=by
 conv in az (fB (st 19)) 0=>whnf
 refine aR B.zS λtk2 DA zz=>?_;have turn:∀σ:St,∀k,k<5->bM G (λvs=>call (.ref 231) vs) [.str (tx (W k))] σ (.ref σ.n) (σ.push (.list (hZ (V k)))):=λσ k hk=>by
  rw[H.v k hk];exact SK.sU (g:=λvs=>call (.ref 231) vs) (SK.tH (k0:=2) (λh q=>Nr ((B.le (m:=5) U).ext q) (bD (au (H.w k hk).2 ay))) U (λzz=>U) λzz=>U)
 refine .shp (σ1:=⟨LL 5++((13,.list (Qw 5))::LM V 5++((5,.list (Qx 5))::hO f W [(So "judge",.ref 13),(So "turns",.ref 5)])),25⟩) ?main ?shp
 case main =>
  refine .swap (names:=[So "turns",So "judge"]) (cs:=[.ref 5,.ref 13]) (σ1:=⟨LL 5++((13,.list (Qw 5))::aT f V W),25⟩) hh (.tuple (.cons (σ1:=⟨aT f V W,12⟩) (.comp (mm:=CT W 5) (it:=4) (σ2:=⟨(4,.ix 0 0)::hO f W [],5⟩) (σ3:=(sT f V W 5).del 4) 7 (cl:=[]) ak ak (.loc U U) (dP U) (show 6<7 by decide) ?c1 U)
   (.cons (.comp (mm:=CT W 5) (it:=12) (σ2:=⟨(12,.ix 0 0)::aT f V W,13⟩) (σ3:=(sZ f V W 5).del 12) 15 (cl:=[]) ak ak (.loc U U) (dP U) (show 14<15 by decide) ?c2 U) .nil)) U) U (.bind (.loc U) (.bind (.loc U) .nil)) (hw:=λenv h=>(bQ h).trans ak)
  case c1 =>
   refine cI.start U U (fE U) (cI.loop (m':=7) 5 (sT f V W) U ay ay (show 5<7 by decide) (pZ _ _ _ _ _) (λi hi=>?_) (D.list hh U U U))
   match i,hi with
   |0,hi=>exact⟨_,⟨_,_,_,X.names U U U,.name (.loc (m':=CT W 0) U),.ml (.i_ DA (.glob (vK B)) (.cons (.loc U U) .nil) (turn _ 0 hi)) U (by decide +kernel) U⟩,.refl⟩
   |1,hi=>exact⟨_,⟨_,_,_,X.names U U U,.name (.loc (m':=CT W 1) U),.ml (.i_ DA (.glob (vK B)) (.cons (.loc U U) .nil) (turn _ 1 hi)) U (by decide +kernel) U⟩,.refl⟩
   |2,hi=>exact⟨_,⟨_,_,_,X.names U U U,.name (.loc (m':=CT W 2) U),.ml (.i_ DA (.glob (vK B)) (.cons (.loc U U) .nil) (turn _ 2 hi)) U (by decide +kernel) U⟩,.refl⟩
   |3,hi=>exact⟨_,⟨_,_,_,X.names U U U,.name (.loc (m':=CT W 3) U),.ml (.i_ DA (.glob (vK B)) (.cons (.loc U U) .nil) (turn _ 3 hi)) U (by decide +kernel) U⟩,.refl⟩
   |4,hi=>exact⟨_,⟨_,_,_,X.names U U U,.name (.loc (m':=CT W 4) U),.ml (.i_ DA (.glob (vK B)) (.cons (.loc U U) .nil) (turn _ 4 hi)) U (by decide +kernel) U⟩,.refl⟩
  case c2 =>
   refine cI.start U U (fE U) (cI.loop (m':=15) 5 (sZ f V W) U ay ay (show 13<15 by decide) (pZ _ _ _ _ _) (λi hi=>?_) (D.list hh U U U))
   match i,hi with
   |0,_=>exact⟨_,⟨_,_,_,X.names U U U,.name (.loc (m':=CT W 0) U),.ml (.bin (.list (.cons .int .nil) U) .int (fG (k:=5) U U ay ay ay U)) U (by decide +kernel) U⟩,.refl⟩
   |1,_=>exact⟨_,⟨_,_,_,X.names U U U,.name (.loc (m':=CT W 1) U),.ml (.bin (.list (.cons .int .nil) U) .int (fG (k:=5) U U ay ay ay U)) U (by decide +kernel) U⟩,.refl⟩
   |2,_=>exact⟨_,⟨_,_,_,X.names U U U,.name (.loc (m':=CT W 2) U),.ml (.bin (.list (.cons .int .nil) U) .int (fG (k:=5) U U ay ay ay U)) U (by decide +kernel) U⟩,.refl⟩
   |3,_=>exact⟨_,⟨_,_,_,X.names U U U,.name (.loc (m':=CT W 3) U),.ml (.bin (.list (.cons .int .nil) U) .int (fG (k:=5) U U ay ay ay U)) U (by decide +kernel) U⟩,.refl⟩
   |4,_=>exact⟨_,⟨_,_,_,X.names U U U,.name (.loc (m':=CT W 4) U),.ml (.bin (.list (.cons .int .nil) U) .int (fG (k:=5) U U ay ay ay U)) U (by decide +kernel) U⟩,.refl⟩
 case shp =>
  rw[Ir];exact gN.mk [(4,5),(5,13),(6,7),(7,8),(8,9),(9,10),(10,11),(11,16),(12,18),(13,20),(14,22),(15,24)] U U ⟨aD,aD,aD,aD,aD,aD,aD,aD,aD,aD,aD,aD,
   ⟨_,U,_,U,U,U,U,U,aE⟩,aD,aD,aD,aE⟩
unseal st in
theorem abu:SS G m (eJ tk) (az (fB (st 19)) 2) ((oB f V (fN V 5 0) W 5 []).del 17) (.ret (.ref 5)) ((oB f V (fN V 5 0) W 5 []).del 17):=by
 conv in az (fB (st 19)) 2=>whnf
 exact .ret (.loc U U)
theorem abf(tk:Nat):jf (nE 19 Ug tk 235) (fB (st 19)) []:=⟨U,U,λL=>ak,U,ak,ak,ak,ak⟩
theorem ack{tk s}(a b:aq):bW s (nE 19 Ug tk 235) ⟨[a,b],[]⟩ [(So "words",a),(So "first",b)]:=cB (K:=[]) (λzz zz h=>nomatch h) λS=>ak
theorem VJ(B:aO G 9)(H:OE f V W):SK G (λvs ws=>call (.ref 236) vs ([].zip ws)) [.ref 0,.int f] [] ⟨[(2,.tab qb GU),(1,.tab mA yz),(0,Av W)],3⟩ (.ref 5) ((oB f V (fN V 5 0) W 5 []).del 17):=by
 refine aR (B.Dh) λtk D C=>?_;exact SK.fj (names:=[]) (m:=4) (f:=.ret (.ref 5)) (rb:=[(So "first",.int f),(So "words",.ref 0)]) B.cQ D B.cP C (abf tk) (Et λα s u v g q1 q2=>⟨_,ack u v,U,.aZ q2 (.aZ q1 cy)⟩) ak U ak λenv =>
  .text (show fB (st 19)=[az (fB (st 19)) 0,az (fB (st 19)) 1,az (fB (st 19)) 2] by kernel_rfl) (.cons (XH B.deep (B.deep (env:=env)).hh H) (.cons (outer B.deep (B.deep (env:=env)).hh H) (.stop abu U) U) U)
end
section
variable{G:Gv}{xs:List Int}{x lo r:Int}{hi:Option Int}{key:CV}{v:Int->Int}{kn:Nat}{objs:List (Nat×AO)}{Zm:Int->List (Str×CV)->St}
noncomputable abbrev Zo(objs:List (Nat×AO))(kn:Nat)(fr:List (Str×CV)):St:=⟨(kn,.frame fr)::objs,kn+1⟩
def qG(G:Gv)(e:Env)(kn:Nat)(objs:List (Nat×AO))(Zm:Int->List (Str×CV)->St)(xs:List Int)(key:CV)(v:Int->Int):Prop:=
 ∀p1 p2 p3 p4 p5,(∀a b,lV (.Name (So "mid") p2) false a b=operate [a,b] (getItem a b))->Nb G e (kn+1) (Zo objs kn) Zm (xs.map .int) key v (.Call (.Name (So "key") p4) [.Subscript (.Name (So "a") p1) (.Name (So "mid") p2) p3] [] p5)
unseal st in
theorem Vm(S:qG G (Ke kn) kn objs Zm xs key v)(hk:gd key=af)(h0:0<=lo)(j6:lo<=hi.getD xs.length)(hn:hi.getD xs.length<=xs.length)(hr:jD (λk=>decide (x<v k)) (hi.getD xs.length-lo).toNat lo (hi.getD xs.length)=r):
  eY G (kn+1) (Ke kn) (fB (st 3)) (Zo objs kn (bF (.ref 0) (.int x) (.int lo) (ng hi) key)) (.ret (.int r)) (Zo objs kn (bF (.ref 0) (.int x) (.int r) (.int r) key)):=by
 conv in fB (st 3)=>whnf
 exact(S _ _ _ _ _ (by intro _ _;with_unfolding_all rfl)).right (bb:=false) (aG _) h0 j6 hn (λzz=>lJ hk) hr U U
unseal st in
theorem Vj(S:qG G (Kd kn) kn objs Zm xs key v)(hk:gd key=af)(h0:0<=lo)(j6:lo<=hi.getD xs.length)(hn:hi.getD xs.length<=xs.length)(hr:jD (λk=>!decide (v k<x)) (hi.getD xs.length-lo).toNat lo (hi.getD xs.length)=r):
  eY G (kn+1) (Kd kn) (fB (st 5)) (Zo objs kn (bF (.ref 0) (.int x) (.int lo) (ng hi) key)) (.ret (.int r)) (Zo objs kn (bF (.ref 0) (.int x) (.int r) (.int r) key)):=by
 conv in fB (st 5)=>whnf
 exact(S _ _ _ _ _ (by intro _ _;with_unfolding_all rfl)).left (bb:=false) (aG _) h0 j6 hn (λzz=>lJ hk) hr U
theorem Ck(B:aO G 1)(S:∀env,qG (deep G env) (Ke kn) kn objs Zm xs key v)(hk:gd key=af)(h0:0<=lo)(j6:lo<=hi.getD xs.length)(hn:hi.getD xs.length<=xs.length)(hr:jD (λk=>decide (x<v k)) (hi.getD xs.length-lo).toNat lo (hi.getD xs.length)=r):
  SK G (λvs ws=>call (.ref 39) vs ([So "key"].zip ws)) [.ref 0,.int x,.int lo,ng hi] [key] ⟨objs,kn⟩ (.int r) (Zo objs kn (bF (.ref 0) (.int x) (.int r) (.int r) key)):=
 SK.fj (names:=[So "key"]) (m:=kn+1) (f:=.ret (.int r)) (rb:=[(So "key",key),(So "hi",ng hi),(So "lo",.int lo),(So "x",.int x),(So "a",.ref 0)]) B.cQ (B.defAt qF qB) B.cP (B.d5 rj) Lr (Es λα s va vx vl vh vk g ra rx rl rh rk=>⟨_,Df (i5 B.KS g) va vx vl vh vk,U,.aZ rk (.aZ rh (.aZ rl (.aZ rx (.aZ ra cy))))⟩) ak (Nat.ble_eq.mpr (cm _)) ak λenv=>Vm (S env) hk h0 j6 hn hr
theorem Qf(B:aO G 1)(S:∀env,qG (deep G env) (Ke kn) kn objs Zm xs key v)(hk:gd key=af)(hr:jD (λk=>decide (x<v k)) ((xs.length:Int)-0).toNat 0 xs.length=r):
  SK G (λvs ws=>call (.ref 39) vs ([So "key"].zip ws)) [.ref 0,.int x] [key] ⟨objs,kn⟩ (.int r) (Zo objs kn (bF (.ref 0) (.int x) (.int r) (.int r) key)):=
 SK.fj (names:=[So "key"]) (m:=kn+1) (f:=.ret (.int r)) (rb:=[(So "key",key),(So "hi",.none),(So "lo",.int 0),(So "x",.int x),(So "a",.ref 0)]) B.cQ (B.defAt qF qB) B.cP (B.d5 rj) Lr (Ms λα s va vx vk g ra rx rk=>⟨_,TL (i5 B.KS g) va vx vk,U,.aZ rk (.aZ fo (.aZ ni (.aZ rx (.aZ ra cy))))⟩) ak (Nat.ble_eq.mpr (cm _)) ak λenv=>Vm (S env) hk (hi:=bz) (b_ 0) (aI _) (b_ _) hr
theorem Cj(B:aO G 1)(S:∀env,qG (deep G env) (Kd kn) kn objs Zm xs key v)(hk:gd key=af)(h0:0<=lo)(j6:lo<=hi.getD xs.length)(hn:hi.getD xs.length<=xs.length)(hr:jD (λk=>!decide (v k<x)) (hi.getD xs.length-lo).toNat lo (hi.getD xs.length)=r):
  SK G (λvs ws=>call (.ref 57) vs ([So "key"].zip ws)) [.ref 0,.int x,.int lo,ng hi] [key] ⟨objs,kn⟩ (.int r) (Zo objs kn (bF (.ref 0) (.int x) (.int r) (.int r) key)):=
 SK.fj (names:=[So "key"]) (m:=kn+1) (f:=.ret (.int r)) (rb:=[(So "key",key),(So "hi",ng hi),(So "lo",.int lo),(So "x",.int x),(So "a",.ref 0)]) B.cQ (B.defAt qE qA) B.cP (B.d5 ri) Lq (Es λα s va vx vl vh vk g ra rx rl rh rk=>⟨_,Dd (i5 B.KS g) va vx vl vh vk,U,.aZ rk (.aZ rh (.aZ rl (.aZ rx (.aZ ra cy))))⟩) ak (Nat.ble_eq.mpr (cm _)) ak λenv=>Vj (S env) hk h0 j6 hn hr
theorem Qd(B:aO G 1)(S:∀env,qG (deep G env) (Kd kn) kn objs Zm xs key v)(hk:gd key=af)(hr:jD (λk=>!decide (v k<x)) ((xs.length:Int)-0).toNat 0 xs.length=r):
  SK G (λvs ws=>call (.ref 57) vs ([So "key"].zip ws)) [.ref 0,.int x] [key] ⟨objs,kn⟩ (.int r) (Zo objs kn (bF (.ref 0) (.int x) (.int r) (.int r) key)):=
 SK.fj (names:=[So "key"]) (m:=kn+1) (f:=.ret (.int r)) (rb:=[(So "key",key),(So "hi",.none),(So "lo",.int 0),(So "x",.int x),(So "a",.ref 0)]) B.cQ (B.defAt qE qA) B.cP (B.d5 ri) Lq (Ms λα s va vx vk g ra rx rk=>⟨_,TH (i5 B.KS g) va vx vk,U,.aZ rk (.aZ fo (.aZ ni (.aZ rx (.aZ ra cy))))⟩) ak (Nat.ble_eq.mpr (cm _)) ak λenv=>Vj (S env) hk (hi:=bz) (b_ 0) (aI _) (b_ _) hr
end
section
variable{G:Gv}{e:Env}{xs:List Int}{x y lo r:Int}{hi:Option Int}{key:CV}{v:Int->Int}{kn bf:Nat}{objs:List (Nat×AO)}{Zm:Int->List (Str×CV)->St}{Z6:List (Str×CV)->St}{bn:Str}{fd:cO}{E:List Stmt}{σ:St}
structure xR(G:Gv)(e:Env)(kn:Nat)(objs:List (Nat×AO))(Z6:List (Str×CV)->St)(xs:List Int)(key:CV)(x y:Int):Prop where
 z:xY e (Zo objs kn)
 z':xY e Z6
 hb:EB (kn+1) e=af
 get:∀fr,(Z6 fr).get 0=aa (.list (xs.map .int))
 call:∀lo hi p1 p2 p3,a8 G e (.Call (.Name (So "key") p1) [.Name (So "x") p2] [] p3) (Zo objs kn (bF (.ref 0) (.int x) lo hi key)) (.int y) (Z6 (bF (.ref 0) (.int x) lo hi key))
 pass:∀(f:List aq->List aq->Sem aq) fr r8 (lo r:Int) hi,(∀h₀,(∀b o,G.h₀.get? b=aa o->h₀.get? b=aa o)->SK (ext G h₀) f [.ref 0,.int y,.int lo,ng hi] [key] ⟨objs,kn⟩ (.int r) (Zo objs kn r8))->SK G f [.ref 0,.int y,.int lo,ng hi] [key] (Z6 fr) (.int r) (Z6 fr)
theorem N7{T:Stmt}{p1 p2 p3 p4 p5 p6 p7 p8 p9 E5 E4 J' NI NH NG NF:Pos}{k1:Nat}{r8:List (Str×CV)}(I:xR G e kn objs Z6 xs key x y)(b:BI e bn)(hk:gd key=af)(D:eZ G bf fd)(hg:Glob G bn (.ref bf))
  (spec:∀h₀,(∀b o,G.h₀.get? b=aa o->h₀.get? b=aa o)->SK (ext G h₀) (λvs ws=>call (.ref bf) vs ([So "key"].zip ws)) [.ref 0,.int y,.int lo,ng hi] [key] ⟨objs,kn⟩ (.int r) (Zo objs kn r8))
  (hT:eY G (kn+1) e [T] (Z6 (bF (.ref 0) (.int x) (.int r) (ng hi) key)) .next σ):
  eY G (kn+1) e [.If (.Compare (.Name (So "key") p1) [.Is] [.Constant .none k1 p2] p3) E [.Assign [.Name (So "lo") p4] (.Call (.Name bn p5) [.Name (So "a") p6,.Call (.Name (So "key") p7) [.Name (So "x") p8] [] p9,.Name (So "lo") E5,.Name (So "hi") E4] [⟨aa (So "key"),.Name (So "key") J',NI⟩] NH) NG] NF,T]
   (Zo objs kn (bF (.ref 0) (.int x) (.int lo) (ng hi) key)) .next σ:=
 .cons (.js (b:=false) (.cmp (I.z.loc U b.key) .none (lJ hk)) (.cons (I.z'.put (.oM (names:=[So "key"]) D (.glob hg b.fn b.g b.b b.d)
  (.cons (I.z.loc U b.a) (.cons (I.call _ _ _ _ _) (.cons (I.z'.loc U b.lo) (.cons (I.z'.loc U b.hi) .nil)))) (.cons (I.z'.loc U b.key) .nil) (I.pass _ _ _ _ _ _ spec)) b.lo U) .nil I.hb)) hT I.hb
noncomputable abbrev uM(Z6:List (Str×CV)->St)(xs:List Int)(r x:Int)(hi:Option Int)(key:CV):St:=(Z6 (bF (.ref 0) (.int x) (.int r) (ng hi) key)).set 0 (.list ((insI xs r x).map .int))
unseal st in
theorem Vn(B:aO G 1)(I:xR G (Tj kn) kn objs Z6 xs key x y)(S':∀h₀,(∀b o,G.h₀.get? b=aa o->h₀.get? b=aa o)->∀env,qG (deep (ext G h₀) env) (Ke kn) kn objs Zm xs key v)(hk:gd key=af)(dw:xs.length<2^20)(h0:0<=lo)(j6:lo<=hi.getD xs.length)(hn:hi.getD xs.length<=xs.length)(hr:jD (λk=>decide (y<v k)) (hi.getD xs.length-lo).toNat lo (hi.getD xs.length)=r):
  eY G (kn+1) (Tj kn) (fB (st 2)) (Zo objs kn (bF (.ref 0) (.int x) (.int lo) (ng hi) key)) .next (uM Z6 xs r x hi key):=by
 conv in fB (st 2)=>whnf
 have hb:=hr▸nG (λk=>decide (y<v k)) (hi.getD xs.length-lo).toNat lo (hi.getD xs.length) j6;exact N7 I (zL kn) hk (B.defAt qF qB) (zj B) (λh k=>Ck (B.ext k) (S' h k) hk h0 j6 hn hr)
  (.cons (.expr (.rW fY bE U (I.z'.loc U (zL kn).a) (gk (I.get _)) (.cons (I.z'.loc U (zL kn).lo) (.cons (I.z'.loc U (zL kn).x) .nil)) (mh (I.get _) (bY h0 hb.1) (bY hb.2 hn) dw))) .nil I.hb)
unseal st in
theorem Vk(B:aO G 1)(I:xR G (Ti kn) kn objs Z6 xs key x y)(S':∀h₀,(∀b o,G.h₀.get? b=aa o->h₀.get? b=aa o)->∀env,qG (deep (ext G h₀) env) (Kd kn) kn objs Zm xs key v)(hk:gd key=af)(dw:xs.length<2^20)(h0:0<=lo)(j6:lo<=hi.getD xs.length)(hn:hi.getD xs.length<=xs.length)(hr:jD (λk=>!decide (v k<y)) (hi.getD xs.length-lo).toNat lo (hi.getD xs.length)=r):
  eY G (kn+1) (Ti kn) (fB (st 4)) (Zo objs kn (bF (.ref 0) (.int x) (.int lo) (ng hi) key)) .next (uM Z6 xs r x hi key):=by
 conv in fB (st 4)=>whnf
 have hb:=hr▸nG (λk=>!decide (v k<y)) (hi.getD xs.length-lo).toNat lo (hi.getD xs.length) j6;exact N7 I (zK kn) hk (B.defAt qE qA) (zi B) (λh k=>Cj (B.ext k) (S' h k) hk h0 j6 hn hr)
  (.cons (.expr (.rW fY bE U (I.z'.loc U (zK kn).a) (gk (I.get _)) (.cons (I.z'.loc U (zK kn).lo) (.cons (I.z'.loc U (zK kn).x) .nil)) (mh (I.get _) (bY h0 hb.1) (bY hb.2 hn) dw))) .nil I.hb)
theorem M4{P s}(X:(KS P).In s.heap)(a x l h k:aq):bW s BF ⟨[a,x,l,h],[(So "key",k)]⟩ [(So "a",a),(So "x",x),(So "lo",l),(So "hi",h),(So "key",k)]:=cB X λS=>ak
theorem M0{P s}(X:(KS P).In s.heap)(a x l h k:aq):bW s BD ⟨[a,x,l,h],[(So "key",k)]⟩ [(So "a",a),(So "x",x),(So "lo",l),(So "hi",h),(So "key",k)]:=cB X λS=>ak
theorem Qg(B:aO G 2)(I:∀env,xR (deep G env) (Tj kn) kn objs Z6 xs key x y)(S':∀env h₀,(∀b o,G.h₀.get? b=aa o->h₀.get? b=aa o)->∀kX,qG (deep (ext (deep G env) h₀) kX) (Ke kn) kn objs Zm xs key v)(hk:gd key=af)(dw:xs.length<2^20)(hr:jD (λk=>decide (y<v k)) ((xs.length:Int)-0).toNat 0 xs.length=r):
  SK G (λvs ws=>call (.ref 30) vs ([So "key"].zip ws)) [.ref 0,.int x] [key] ⟨objs,kn⟩ .none (uM Z6 xs r x bz key):=
 SK.fj (names:=[So "key"]) (m:=kn+1) (f:=.next) (rb:=[(So "key",key),(So "hi",.none),(So "lo",.int 0),(So "x",.int x),(So "a",.ref 0)]) B.cQ (B.defAt zR zB) B.cP (B.d5 xB) QW (Ms λα s va vx vk g ra rx rk=>⟨_,TN (i5 B.KS g) va vx vk,U,.aZ rk (.aZ fo (.aZ ni (.aZ rx (.aZ ra cy))))⟩) ak (Nat.ble_eq.mpr (cm _)) ak λenv=>Vn B.deep (I env) (S' env) hk dw (hi:=bz) (b_ 0) (aI _) (b_ _) hr
theorem Qe(B:aO G 2)(I:∀env,xR (deep G env) (Ti kn) kn objs Z6 xs key x y)(S':∀env h₀,(∀b o,G.h₀.get? b=aa o->h₀.get? b=aa o)->∀kX,qG (deep (ext (deep G env) h₀) kX) (Kd kn) kn objs Zm xs key v)(hk:gd key=af)(dw:xs.length<2^20)(hr:jD (λk=>!decide (v k<y)) ((xs.length:Int)-0).toNat 0 xs.length=r):
  SK G (λvs ws=>call (.ref 48) vs ([So "key"].zip ws)) [.ref 0,.int x] [key] ⟨objs,kn⟩ .none (uM Z6 xs r x bz key):=
 SK.fj (names:=[So "key"]) (m:=kn+1) (f:=.next) (rb:=[(So "key",key),(So "hi",.none),(So "lo",.int 0),(So "x",.int x),(So "a",.ref 0)]) B.cQ (B.defAt zQ zA) B.cP (B.d5 xA) QV (Ms λα s va vx vk g ra rx rk=>⟨_,TK (i5 B.KS g) va vx vk,U,.aZ rk (.aZ fo (.aZ ni (.aZ rx (.aZ ra cy))))⟩) ak (Nat.ble_eq.mpr (cm _)) ak λenv=>Vk B.deep (I env) (S' env) hk dw (hi:=bz) (b_ 0) (aI _) (b_ _) hr
theorem K1(B:aO G 2)(I:∀env,xR (deep G env) (Tj kn) kn objs Z6 xs key x y)(S':∀env h₀,(∀b o,G.h₀.get? b=aa o->h₀.get? b=aa o)->∀kX,qG (deep (ext (deep G env) h₀) kX) (Ke kn) kn objs Zm xs key v)(hk:gd key=af)(dw:xs.length<2^20)(h0:0<=lo)(j6:lo<=hi.getD xs.length)(hn:hi.getD xs.length<=xs.length)(hr:jD (λk=>decide (y<v k)) (hi.getD xs.length-lo).toNat lo (hi.getD xs.length)=r):
  SK G (λvs ws=>call (.ref 30) vs ([So "key"].zip ws)) [.ref 0,.int x,.int lo,ng hi] [key] ⟨objs,kn⟩ .none (uM Z6 xs r x hi key):=
 SK.fj (names:=[So "key"]) (m:=kn+1) (f:=.next) (rb:=[(So "key",key),(So "hi",ng hi),(So "lo",.int lo),(So "x",.int x),(So "a",.ref 0)]) B.cQ (B.defAt zR zB) B.cP (B.d5 xB) QW (Es λα s va vx vl vh vk g ra rx rl rh rk=>⟨_,M4 (i5 B.KS g) va vx vl vh vk,U,.aZ rk (.aZ rh (.aZ rl (.aZ rx (.aZ ra cy))))⟩) ak (Nat.ble_eq.mpr (cm _)) ak λenv=>Vn B.deep (I env) (S' env) hk dw h0 j6 hn hr
theorem K0(B:aO G 2)(I:∀env,xR (deep G env) (Ti kn) kn objs Z6 xs key x y)(S':∀env h₀,(∀b o,G.h₀.get? b=aa o->h₀.get? b=aa o)->∀kX,qG (deep (ext (deep G env) h₀) kX) (Kd kn) kn objs Zm xs key v)(hk:gd key=af)(dw:xs.length<2^20)(h0:0<=lo)(j6:lo<=hi.getD xs.length)(hn:hi.getD xs.length<=xs.length)(hr:jD (λk=>!decide (v k<y)) (hi.getD xs.length-lo).toNat lo (hi.getD xs.length)=r):
  SK G (λvs ws=>call (.ref 48) vs ([So "key"].zip ws)) [.ref 0,.int x,.int lo,ng hi] [key] ⟨objs,kn⟩ .none (uM Z6 xs r x hi key):=
 SK.fj (names:=[So "key"]) (m:=kn+1) (f:=.next) (rb:=[(So "key",key),(So "hi",ng hi),(So "lo",.int lo),(So "x",.int x),(So "a",.ref 0)]) B.cQ (B.defAt zQ zA) B.cP (B.d5 xA) QV (Es λα s va vx vl vh vk g ra rx rl rh rk=>⟨_,M0 (i5 B.KS g) va vx vl vh vk,U,.aZ rk (.aZ rh (.aZ rl (.aZ rx (.aZ ra cy))))⟩) ak (Nat.ble_eq.mpr (cm _)) ak λenv=>Vk B.deep (I env) (S' env) hk dw h0 j6 hn hr
end
section
variable{G:Gv}{e:Env}{x:Int}{g:k7}{nm:Str}{q n:Nat}{J:Nat->Nat->Int}{σ:St}{c:CV}{a:Nat}
structure z7(g:k7)(nm:Str):Prop where
 bind:∀cl pm cv xx (v:aq),bindArgs (kla_fn "<lambda>" g.q g.params g.body g.scope cl pm cv xx) ⟨[v],[]⟩=bO [(nm,v)]
 loc:g.scope.names.lookup nm=aa .local
 cell:(g.scope.names.all λx=>x.2 != .cell)=af
 C4:C4 nm=false
 co:g.scope.isCoroutine=false
 gen:g.scope.isGenerator=false
 kind:g.scope.kind=.function
theorem lb{k: Nat}{ao: AO}(h:k<σ.n):(σ.push ao).get k=σ.get k:=by
 show dh ((σ.n,_)::σ.objs) k=_;rw[dh,oR (bL h)];rfl
theorem z7.call(K:z7 g nm)(room:G.A.depth<bA)(gV:G.h₀.NoLimit)(hn:σ.get n=aa (.fn g)){d: CV}
  (h:∀env cv,a8 (deep G env) (Ee g σ.n cv) g.body (σ.push (.frame [(nm,c)])) d (σ.push (.frame [(nm,c)]))):SF G n [c] σ d (σ.push (.frame [(nm,c)])):=by
 refine SF.nz (rb:=[(nm,c)]) room gV hn ?_ ?_ K.cell (λenv cv=>h env cv) K.co K.gen K.kind
 ·intro α s _ cl pm cv xx w
  refine f5 w λv zz w2 rv w4=>?_;obtain rfl:=w2;obtain rfl:=w4;exact⟨_,BindsTo.of_eq (K.bind cl pm cv xx v),U,v,_,U,rv,U⟩
 ·simp[K.loc]
structure pR(g:k7)(nm:Str):Prop where
 lam:z7 g nm
 body:∃k p,g.body=.Constant (.int 0) k p
 clos:g.clos=[]
theorem pR.call(K:pR g nm)(room:G.A.depth<bA)(gV:G.h₀.NoLimit)(hn:σ.get n=aa (.fn g)):SF G n [c] σ (.int 0) (σ.push (.frame [(nm,c)])):=
 K.lam.call room gV hn λenv cv=>by
  obtain⟨k,p,e⟩:=K.body;rw[e];exact .int
structure jy(g:k7)(nm:Str)(cj ck:Nat):Prop where
 lam:z7 g nm
 body:∃p1 p2 p3 p4 p5,g.body=.Subscript (.Subscript (.Name (So "judge") p1) (.Name (So "k") p2) p3) (.Name nm p4) p5
 clos:g.clos=[(So "k",ck),(So "judge",cj)]
 free:g.scope.names.lookup (So "judge")=aa .free/\g.scope.names.lookup (So "k")=aa .free
theorem Qs(h:a<5):(e_ J q)[((a:Nat):Int).toNat]?=aa (.int (J q a)):=by
 rw[bU]
 match a,h with
 |0,_=>rfl
 |1,_=>rfl
 |2,_=>rfl
 |3,_=>rfl
 |4,_=>rfl
theorem jy.call{cj ck l a: Nat}{rs: List CV}{rq: Nat}(K:jy g nm cj ck)(room:G.A.depth<bA)(gV:G.h₀.NoLimit)(hn:σ.get n=aa (.fn g))(e1:σ.get cj=aa (.cell (aa (.ref l))))(e2:σ.get ck=aa (.cell (aa (.int q))))(e3:σ.get l=aa (.list rs))(e4:rs[((q:Nat):Int).toNat]?=aa (.ref rq))(e5:σ.get rq=aa (.list (e_ J q)))
  (h1:cj<σ.n) (h2:ck<σ.n) (h3:l<σ.n) (h5:rq<σ.n) (hl:rs.length<2^62) (ha:a<5):SF G n [.int a] σ (.int (J q a)) (σ.push (.frame [(nm,.int a)])):=
 K.lam.call room gV hn λenv cv=>by
  obtain⟨p1,p2,p3,p4,p5,e⟩:=K.body;have kl:∀x k,g.scope.names.lookup x=aa k->bB (Ee g σ.n cv) x k=af:=λx k h=>vL (e:=Ee g σ.n cv) K.lam.kind h;have top:(σ.push (.frame [(nm,CV.int a)])).get σ.n=aa (.frame [(nm,.int a)]):=gG;have lk:([(nm,CV.int a)]:List (Str×CV)).lookup nm=aa (.int a):=by simp[jx]
  rw[e];refine .sub (.sub (.free (k:=cj) (kl _ _ K.free.1) ?_ ((lb h1).trans e1)) (.free (k:=ck) (kl _ _ K.free.2) ?_ ((lb h2).trans e2)) (cz ((lb h3).trans e3) (aI q) e4 hl)) (.loc top lk (kl _ _ K.lam.loc) K.lam.C4) (cz ((lb h5).trans e5) (aI a) (Qs ha) (show 5<2^62 by decide))
  ·show g.clos.lookup (So "judge")=aa cj
   rw[K.clos];rfl
  ·show g.clos.lookup (So "k")=aa ck
   rw[K.clos];rfl
end
section
variable{G:Gv}{e:Env}{ns:List Int}{x lo r:Int}{hi:Option Int}{g:k7}{nm:Str}{q m a:Nat}{J:Nat->Nat->Int}{c:CV}{bn:Str}
theorem lL{r:Nat->Nat}(h:g.clos.map (λp=>(p.1,r p.2))=g.clos):jt r (.fn g) (.fn g):=by
 cases g;show AO.fn _=AO.fn _;rw[h]
noncomputable abbrev oZ(g:k7)(ns:List Int):List (Nat×AO):=[(1,.fn g),(0,.list (ns.map .int))]
noncomputable abbrev zZ(g:k7)(nm:Str)(ns:List Int)(mid:Int)(fr:List (Str×CV)):St:=(Zo (oZ g ns) 2 fr).push (.frame [(nm,.int (ns.getD mid.toNat 0))])
noncomputable abbrev iZ(g:k7)(nm:Str)(ns:List Int)(x:Int)(fr:List (Str×CV)):St:=(Zo (oZ g ns) 2 fr).push (.frame [(nm,.int x)])
noncomputable abbrev oJ(g:k7)(q:Nat)(J:Nat->Nat->Int)(ns:List Int):List (Nat×AO):=[(9,.list (e_ J 4)),(8,.list (e_ J 3)),(7,.list (e_ J 2)),(6,.list (e_ J 1)),(5,.list (e_ J 0)),(4,.list [.ref 5,.ref 6,.ref 7,.ref 8,.ref 9]),(3,.cell (aa (.int q))),(2,.cell (aa (.ref 4))),(1,.fn g),(0,.list (ns.map .int))]
noncomputable abbrev zJ(g:k7)(nm:Str)(q:Nat)(J:Nat->Nat->Int)(ns:List Int)(mid:Int)(fr:List (Str×CV)):St:=(Zo (oJ g q J ns) 10 fr).push (.frame [(nm,.int (ns.getD mid.toNat 0))])
noncomputable abbrev iJ(g:k7)(nm:Str)(q:Nat)(J:Nat->Nat->Int)(ns:List Int)(x:Int)(fr:List (Str×CV)):St:=(Zo (oJ g q J ns) 10 fr).push (.frame [(nm,.int x)])
seal a8 cS SS eY bM dD bN eC cU cI ef eX cR gc dJ jK SK SF l5 SemQ pP
theorem VY(K:pR g nm)(room:G.A.depth<bA)(gV:G.h₀.NoLimit)(b:BE e)(he:e.locals=2)(hb:EB 3 e=af)(len:Glob G (So "len") (.builtin "len"))(f:ns.length<2^60):qG G e 2 (oZ g ns) (zZ g nm ns) ns (.ref 1) (λzz=>0):=by
 intro p1 p2 p3 p4 p5 hs;have z:xY e (Zo (oZ g ns) 2):=⟨λm=>by rw[he];rfl,λm m'=>by rw[he];rfl⟩;have fl:(ns.map CV.int).length<2^60:=by rw[aG];exact f
 exact⟨b,z,λmid=>⟨λm=>by rw[he];rfl,λm m'=>by rw[he];rfl⟩,hb,len,λzz=>U,fl,
  λx lo hi mid h0 h1=>.zE (z.loc U b.key) (.cons (.sub (z.loc U b.a) (z.loc U b.mid) (cz U h0 (n9 h0 (by rw[aG]at h1;exact h1)) (aM fl ay) hs)) .nil) U (K.call room gV U),
  λx lo hi mid=>gN.mk [] U U ⟨⟨_,U,_,U,U,U,U,U,U,aE⟩,⟨_,U,lL (by rw[K.clos];rfl)⟩,⟨_,U,aS⟩,aE⟩⟩
theorem XI(K:pR g nm)(room:G.A.depth<bA)(gV:G.h₀.NoLimit)(b:BI e bn)(he:e.locals=2)(hb:EB 3 e=af):xR G e 2 (oZ g ns) (iZ g nm ns x) ns (.ref 1) x 0:=by
 have z:xY e (Zo (oZ g ns) 2):=⟨λm=>by rw[he];rfl,λm m'=>by rw[he];rfl⟩;refine⟨z,⟨λm=>by rw[he];rfl,λm m'=>by rw[he];rfl⟩,hb,λzz=>U,λlo hi p1 p2 p3=>.zE (z.loc U b.key) (.cons (z.loc U b.x) .nil) U (K.call room gV U),λf fr r8 lo r hi spec=>?_⟩;exact SK.m7 (τ0:=⟨oZ g ns,2⟩) (τ1:=Zo (oZ g ns) 2 r8) (l:=[(0,0),(1,1)]) (c:=.int r) (ks0:=[.ref 1]) U U U ⟨⟨_,U,lL (by rw[K.clos];rfl)⟩,⟨_,U,aS⟩,aE⟩ U (λzz zz h zz=>h)
  ⟨⟨_,_,U,U,aS⟩,⟨_,_,U,U,lL (by rw[K.clos];rfl)⟩,aE⟩ spec (by rw[cK,cK,cK,cK,xe];rfl) U U
theorem V3(hq:q<5):([.ref 5,.ref 6,.ref 7,.ref 8,.ref 9]:List CV)[((q:Nat):Int).toNat]?=aa (.ref (5+q)):=by
 rw[bU]
 match q,hq with
 |0,_=>rfl
 |1,_=>rfl
 |2,_=>rfl
 |3,_=>rfl
 |4,_=>rfl
theorem QY(hq:q<5)(k:Nat)(fr:List (Str×CV)):(Zo (oJ g k J ns) 10 fr).get (5+q)=aa (.list (e_ J q)):=by
 match q,hq with
 |0,_=>rfl
 |1,_=>rfl
 |2,_=>rfl
 |3,_=>rfl
 |4,_=>rfl
theorem Oy(K:jy g nm 2 3)(room:G.A.depth<bA)(gV:G.h₀.NoLimit)(hq:q<5)(ha:a<5)(fr:List (Str×CV)):SF G 1 [.int a] (Zo (oJ g q J ns) 10 fr) (.int (J q a)) ((Zo (oJ g q J ns) 10 fr).push (.frame [(nm,.int a)])):=
 K.call room gV U (l:=4) (rq:=5+q) U U U (V3 hq) (QY hq q fr) (show 2<11 by decide) (show 3<11 by decide) (show 4<11 by decide) (aM (Nat.add_lt_add_left hq 5) (show 10<=11 by decide)) (show 5<2^62 by decide) ha
theorem Gu{i: Int}(h:0<=i/\i<5):i.toNat<5/\((i.toNat:Nat):Int)=i:=⟨(Int.toNat_lt h.1).mpr h.2,lT h.1⟩
theorem DP(K:jy g nm 2 3)(room:G.A.depth<bA)(gV:G.h₀.NoLimit)(b:BE e)(he:e.locals=10)(hb:EB 11 e=af)(len:Glob G (So "len") (.builtin "len"))(f:ns.length<2^60)(hq:q<5)(hd:∀i∈ns,0<=i/\i<5):qG G e 10 (oJ g q J ns) (zJ g nm q J ns) ns (.ref 1) (λk=>J q (ns.getD k.toNat 0).toNat):=by
 intro p1 p2 p3 p4 p5 hs;have z:xY e (Zo (oJ g q J ns) 10):=⟨λm=>by rw[he];rfl,λm m'=>by rw[he];rfl⟩;have fl:(ns.map CV.int).length<2^60:=by rw[aG];exact f
 refine⟨b,z,λmid=>⟨λm=>by rw[he];rfl,λm m'=>by rw[he];rfl⟩,hb,len,λzz=>U,fl,λx lo hi mid h0 h1=>?_,
  λx lo hi mid=>gN.mk [] U U ⟨⟨_,U,_,U,U,U,U,U,U,aE⟩,aD,aD,aD,aD,aD,aD,aD,aD,⟨_,U,lL (by rw[K.clos];rfl)⟩,⟨_,U,aS⟩,aE⟩⟩
 have h1:mid<ns.length:=by rw[aG]at h1;exact h1
 have w:=Gu (hd _ (getD_mem h0 h1));have cj:=Oy (G:=G) (J:=J) (ns:=ns) (g:=g) (nm:=nm) K room gV hq w.1 (TP (.ref 0) (.int x) (.int lo) (.int hi) (.ref 1) (.int mid));rw[w.2]at cj;exact .zE (z.loc U b.key) (.cons (.sub (z.loc U b.a) (z.loc U b.mid) (cz U h0 (n9 h0 h1) (aM fl ay) hs)) .nil) U cj
theorem XJ(K:jy g nm 2 3)(room:G.A.depth<bA)(gV:G.h₀.NoLimit)(b:BI e bn)(he:e.locals=10)(hb:EB 11 e=af)(hq:q<5)(ha:a<5):xR G e 10 (oJ g q J ns) (iJ g nm q J ns a) ns (.ref 1) a (J q a):=by
 have z:xY e (Zo (oJ g q J ns) 10):=⟨λm=>by rw[he];rfl,λm m'=>by rw[he];rfl⟩;refine⟨z,⟨λm=>by rw[he];rfl,λm m'=>by rw[he];rfl⟩,hb,λzz=>U,λlo hi p1 p2 p3=>.zE (z.loc U b.key) (.cons (z.loc U b.x) .nil) U (Oy K room gV hq ha _),λf fr r8 lo r hi spec=>?_⟩;exact SK.m7 (τ0:=⟨oJ g q J ns,10⟩) (τ1:=Zo (oJ g q J ns) 10 r8) (l:=[(0,0),(1,1),(2,2),(3,3),(4,4),(5,5),(6,6),(7,7),(8,8),(9,9)]) (c:=.int r) (ks0:=[.ref 1]) U U U
  ⟨aD,aD,aD,aD,aD,aD,aD,aD,⟨_,U,lL (by rw[K.clos];rfl)⟩,⟨_,U,aS⟩,aE⟩ U (λzz zz h zz=>h)
  ⟨⟨_,_,U,U,aS⟩,⟨_,_,U,U,lL (by rw[K.clos];rfl)⟩,⟨_,_,U,U,U⟩,⟨_,_,U,U,U⟩,⟨_,_,U,U,U⟩,⟨_,_,U,U,U⟩,⟨_,_,U,U,U⟩,⟨_,_,U,U,U⟩,⟨_,_,U,U,U⟩,⟨_,_,U,U,U⟩,aE⟩
  spec (by rw[cK,cK,cK,cK,xe];rfl) U U
end
section
variable{G:Gv}{ns:List Int}{x lo r:Int}{hi:Option Int}{g:k7}{nm:Str}{q a:Nat}{J:Nat->Nat->Int}
theorem aaK(B:aO G 3)(K:jy g nm 2 3)(hq:q<5)(hd:∀i∈ns,0<=i/\i<5)(hl:ns.length<2^20)(hr:jD (λk=>decide (x<J q (ns.getD k.toNat 0).toNat)) ((ns.length:Int)-0).toNat 0 ns.length=r):
  SK G (λvs ws=>call (.ref 39) vs ([So "key"].zip ws)) [.ref 0,.int x] [.ref 1] ⟨oJ g q J ns,10⟩ (.int r) (Zo (oJ g q J ns) 10 (bF (.ref 0) (.int x) (.int r) (.int r) (.ref 1))):=
 Qf (B.le U) (λenv=>DP K (B.deep (env:=env)).cQ (B.deep (env:=env)).cP (ET 10) U U (gC (B.deep (env:=env))) (aM hl ay) hq hd) U hr
theorem Qo(B:aO G 3)(K:jy g nm 2 3)(hq:q<5)(hd:∀i∈ns,0<=i/\i<5)(hl:ns.length<2^20)(h0:0<=lo)(j6:lo<=hi.getD ns.length)(hn:hi.getD ns.length<=ns.length)(hr:jD (λk=>decide (x<J q (ns.getD k.toNat 0).toNat)) (hi.getD ns.length-lo).toNat lo (hi.getD ns.length)=r):
  SK G (λvs ws=>call (.ref 39) vs ([So "key"].zip ws)) [.ref 0,.int x,.int lo,ng hi] [.ref 1] ⟨oJ g q J ns,10⟩ (.int r) (Zo (oJ g q J ns) 10 (bF (.ref 0) (.int x) (.int r) (.int r) (.ref 1))):=
 Ck (B.le U) (λenv=>DP K (B.deep (env:=env)).cQ (B.deep (env:=env)).cP (ET 10) U U (gC (B.deep (env:=env))) (aM hl ay) hq hd) U h0 j6 hn hr
theorem aaI(B:aO G 3)(K:jy g nm 2 3)(hq:q<5)(hd:∀i∈ns,0<=i/\i<5)(hl:ns.length<2^20)(hr:jD (λk=>!decide (J q (ns.getD k.toNat 0).toNat<x)) ((ns.length:Int)-0).toNat 0 ns.length=r):
  SK G (λvs ws=>call (.ref 57) vs ([So "key"].zip ws)) [.ref 0,.int x] [.ref 1] ⟨oJ g q J ns,10⟩ (.int r) (Zo (oJ g q J ns) 10 (bF (.ref 0) (.int x) (.int r) (.int r) (.ref 1))):=
 Qd (B.le U) (λenv=>DP K (B.deep (env:=env)).cQ (B.deep (env:=env)).cP (ES 10) U U (gC (B.deep (env:=env))) (aM hl ay) hq hd) U hr
theorem Qn(B:aO G 3)(K:jy g nm 2 3)(hq:q<5)(hd:∀i∈ns,0<=i/\i<5)(hl:ns.length<2^20)(h0:0<=lo)(j6:lo<=hi.getD ns.length)(hn:hi.getD ns.length<=ns.length)(hr:jD (λk=>!decide (J q (ns.getD k.toNat 0).toNat<x)) (hi.getD ns.length-lo).toNat lo (hi.getD ns.length)=r):
  SK G (λvs ws=>call (.ref 57) vs ([So "key"].zip ws)) [.ref 0,.int x,.int lo,ng hi] [.ref 1] ⟨oJ g q J ns,10⟩ (.int r) (Zo (oJ g q J ns) 10 (bF (.ref 0) (.int x) (.int r) (.int r) (.ref 1))):=
 Cj (B.le U) (λenv=>DP K (B.deep (env:=env)).cQ (B.deep (env:=env)).cP (ES 10) U U (gC (B.deep (env:=env))) (aM hl ay) hq hd) U h0 j6 hn hr
theorem aaL(B:aO G 4)(K:jy g nm 2 3)(hq:q<5)(ha:a<5)(hd:∀i∈ns,0<=i/\i<5)(hl:ns.length<2^20)(hr:jD (λk=>decide (J q a<J q (ns.getD k.toNat 0).toNat)) ((ns.length:Int)-0).toNat 0 ns.length=r):
  SK G (λvs ws=>call (.ref 30) vs ([So "key"].zip ws)) [.ref 0,.int a] [.ref 1] ⟨oJ g q J ns,10⟩ .none (uM (iJ g nm q J ns a) ns r a bz (.ref 1)):=
 Qg (B.le U) (λenv=>XJ K (B.deep (env:=env)).cQ (B.deep (env:=env)).cP (zL 10) U U hq ha) (λenv h k kX=>DP K (((B.deep (env:=env)).ext k).deep (env:=kX)).cQ (((B.deep (env:=env)).ext k).deep (env:=kX)).cP (ET 10) U U (gC (((B.deep (env:=env)).ext k).deep (env:=kX))) (aM hl ay) hq hd) U hl hr
theorem aaJ(B:aO G 4)(K:jy g nm 2 3)(hq:q<5)(ha:a<5)(hd:∀i∈ns,0<=i/\i<5)(hl:ns.length<2^20)(hr:jD (λk=>!decide (J q (ns.getD k.toNat 0).toNat<J q a)) ((ns.length:Int)-0).toNat 0 ns.length=r):
  SK G (λvs ws=>call (.ref 48) vs ([So "key"].zip ws)) [.ref 0,.int a] [.ref 1] ⟨oJ g q J ns,10⟩ .none (uM (iJ g nm q J ns a) ns r a bz (.ref 1)):=
 Qe (B.le U) (λenv=>XJ K (B.deep (env:=env)).cQ (B.deep (env:=env)).cP (zK 10) U U hq ha) (λenv h k kX=>DP K (((B.deep (env:=env)).ext k).deep (env:=kX)).cQ (((B.deep (env:=env)).ext k).deep (env:=kX)).cP (ES 10) U U (gC (((B.deep (env:=env)).ext k).deep (env:=kX))) (aM hl ay) hq hd) U hl hr
theorem Qm(B:aO G 4)(K:pR g nm)(hl:ns.length<2^20)(h0:0<=lo)(j6:lo<=hi.getD ns.length)(hn:hi.getD ns.length<=ns.length)(hr:jD (λzz=>decide ((0:Int)<0)) (hi.getD ns.length-lo).toNat lo (hi.getD ns.length)=r):
  SK G (λvs ws=>call (.ref 30) vs ([So "key"].zip ws)) [.ref 0,.int x,.int lo,ng hi] [.ref 1] ⟨oZ g ns,2⟩ .none (uM (iZ g nm ns x) ns r x hi (.ref 1)):=
 K1 (B.le U) (λenv=>XI K (B.deep (env:=env)).cQ (B.deep (env:=env)).cP (zL 2) U U) (λenv h k kX=>VY K (((B.deep (env:=env)).ext k).deep (env:=kX)).cQ (((B.deep (env:=env)).ext k).deep (env:=kX)).cP (ET 2) U U (gC (((B.deep (env:=env)).ext k).deep (env:=kX))) (aM hl ay)) U hl h0 j6 hn hr
theorem Ql(B:aO G 4)(K:pR g nm)(hl:ns.length<2^20)(h0:0<=lo)(j6:lo<=hi.getD ns.length)(hn:hi.getD ns.length<=ns.length)(hr:jD (λzz=>!decide ((0:Int)<0)) (hi.getD ns.length-lo).toNat lo (hi.getD ns.length)=r):
  SK G (λvs ws=>call (.ref 48) vs ([So "key"].zip ws)) [.ref 0,.int x,.int lo,ng hi] [.ref 1] ⟨oZ g ns,2⟩ .none (uM (iZ g nm ns x) ns r x hi (.ref 1)):=
 K0 (B.le U) (λenv=>XI K (B.deep (env:=env)).cQ (B.deep (env:=env)).cP (zK 2) U U) (λenv h k kX=>VY K (((B.deep (env:=env)).ext k).deep (env:=kX)).cQ (((B.deep (env:=env)).ext k).deep (env:=kX)).cP (ES 2) U U (gC (((B.deep (env:=env)).ext k).deep (env:=kX))) (aM hl ay)) U hl h0 j6 hn hr
end
section
open PyProof
variable{G:Gv}{n m:Nat}{e:Env}{σ:St}{ks:List Nat}{a b c x hi key:CV}{lo:Int}{msg:Str}{fr:List (Str×CV)}{g:k7}{p1 p2 p3 p4 p5 p6 p7 p8:Pos}{k1 k2:Nat}{c8:List Stmt}
noncomputable abbrev c9:Str:=So "lo must be non-negative"
theorem BO(B:aO G n):Glob G (So "ValueError") (.type "ValueError"):=B.blt (λzz zz zz zz=>ak) (λzz zz zz zz=>ak)
theorem M5{P s}(X:(KS P).In s.heap)(a x l k:aq):bW s BF ⟨[a,x,l],[(So "key",k)]⟩ [(So "a",a),(So "x",x),(So "lo",l),(So "hi",.none),(So "key",k)]:=cB X λS=>ak
theorem M3{P s}(X:(KS P).In s.heap)(a x l k:aq):bW s zu ⟨[a,x,l],[(So "key",k)]⟩ [(So "a",a),(So "x",x),(So "lo",l),(So "hi",.none),(So "key",k)]:=cB X λS=>ak
theorem M1{P s}(X:(KS P).In s.heap)(a x l k:aq):bW s BD ⟨[a,x,l],[(So "key",k)]⟩ [(So "a",a),(So "x",x),(So "lo",l),(So "hi",.none),(So "key",k)]:=cB X λS=>ak
theorem MZ{P s}(X:(KS P).In s.heap)(a x l k:aq):bW s zt ⟨[a,x,l],[(So "key",k)]⟩ [(So "a",a),(So "x",x),(So "lo",l),(So "hi",.none),(So "key",k)]:=cB X λS=>ak
theorem Mr{P:AM->aA->List aq->List aq->Prop}(h:∀α s u v w k,GS G α σ s->VR α s.heap a u->VR α s.heap b v->VR α s.heap c w->VR α s.heap key k->P α s [u,v,w] [k]):∀α s vs ws,GS G α σ s->di α s.heap [a,b,c] vs->di α s.heap [key] ws->P α s vs ws:=by
 rintro α s _ _ g ⟨u,_,rfl,ru,v,_,rfl,rv,w,_,rfl,rw,rfl⟩ ⟨k,_,rfl,rk,rfl⟩;exact h α s u v w k g ru rv rw rk
theorem sI.push(hs:sI σ ks):sI (σ.push (.frame fr)) (σ.n::ks):=by
 intro k hk;rw[show(σ.push (.frame fr)).get k=match br k σ.n with|true=>aa (.frame fr)|false=>dh σ.objs k from U];cases q:br k σ.n with
 |true=>exact⟨_,U⟩
 |false =>
  rcases List.mem_cons.mp hk with e|hk
  ·rw[e,cD]at q;cases q
  ·exact hs k hk
theorem sI.NC(hs:sI σ ks):sI (σ.push (.frame fr)) ks:=λk hk=>hs.push k (.tail _ hk)
theorem GQ(hh:G.A.handled=none)(be:BE e)(hv:Glob G (So "ValueError") (.type "ValueError"))(hk:bB e (So "ValueError") .globalImplicit=af)(he:e.locals=σ.n)(hg:e.globals=3)(hb:e.builtins=0)(hs:sI σ ks)(h0:lo<0):
  pQ G msg m e ks (.If (.Compare (.Name (So "lo") p1) [.Lt] [.Constant (.int 0) k1 p2] p3) [.Raise (aa (.Call (.Name (So "ValueError") p4) [.Constant (.str msg) k2 p5] [] p6)) none p7] [] p8::c8) (σ.push (.frame (bF a x (.int lo) hi key))) (σ.push (.frame (bF a x (.int lo) hi key))):=
 .ifX (b:=af) (.cmp (.loc (he▸gG) U be.lo) .int (iK.to (decide_eq_true h0))) (.raise hh (.glob hv hk hg hb) (he▸hs.push))
unseal st in
theorem x39(B:aO G 0)(hs:sI σ ks)(h0:lo<0):pQ G c9 m (Ke σ.n) ks (fB (st 3)) (σ.push (.frame (bF a x (.int lo) hi key))) (σ.push (.frame (bF a x (.int lo) hi key))):=by
 conv in fB (st 3)=>whnf
 exact GQ B.hh (ET _) (BO B) ak U U U hs h0
unseal st in
theorem x57(B:aO G 0)(hs:sI σ ks)(h0:lo<0):pQ G c9 m (Kd σ.n) ks (fB (st 5)) (σ.push (.frame (bF a x (.int lo) hi key))) (σ.push (.frame (bF a x (.int lo) hi key))):=by
 conv in fB (st 5)=>whnf
 exact GQ B.hh (ES _) (BO B) ak U U U hs h0
theorem aaO(B:aO G 1)(hs:sI σ ks)(h0:lo<0):iz G c9 ks (λvs ws=>call (.ref 39) vs ([So "key"].zip ws)) [a,x,.int lo] [key] σ (σ.push (.frame (bF a x (.int lo) .none key))):=
 .entry (m:=σ.n) (rb:=bF a x (.int lo) .none key) B.cQ (B.defAt qF qB) B.cP (B.d5 rj) U (Mr λα s va vx vl vk g ra rx rl rk=>⟨_,M3 (i5 B.KS g) va vx vl vk,U,.aZ rk (.aZ fo (.aZ rl (.aZ rx (.aZ ra cy))))⟩) ak ak (aW _) (λenv=>x39 B.deep hs h0) ak ak ak
theorem Qu(B:aO G 1)(hs:sI σ ks)(h0:lo<0):iz G c9 ks (λvs ws=>call (.ref 39) vs ([So "key"].zip ws)) [a,x,.int lo,hi] [key] σ (σ.push (.frame (bF a x (.int lo) hi key))):=
 .entry (m:=σ.n) (rb:=bF a x (.int lo) hi key) B.cQ (B.defAt qF qB) B.cP (B.d5 rj) U (Es λα s va vx vl vh vk g ra rx rl rh rk=>⟨_,Df (i5 B.KS g) va vx vl vh vk,U,.aZ rk (.aZ rh (.aZ rl (.aZ rx (.aZ ra cy))))⟩) ak ak (aW _) (λenv=>x39 B.deep hs h0) ak ak ak
theorem aaM(B:aO G 1)(hs:sI σ ks)(h0:lo<0):iz G c9 ks (λvs ws=>call (.ref 57) vs ([So "key"].zip ws)) [a,x,.int lo] [key] σ (σ.push (.frame (bF a x (.int lo) .none key))):=
 .entry (m:=σ.n) (rb:=bF a x (.int lo) .none key) B.cQ (B.defAt qE qA) B.cP (B.d5 ri) U (Mr λα s va vx vl vk g ra rx rl rk=>⟨_,MZ (i5 B.KS g) va vx vl vk,U,.aZ rk (.aZ fo (.aZ rl (.aZ rx (.aZ ra cy))))⟩) ak ak (aW _) (λenv=>x57 B.deep hs h0) ak ak ak
theorem Qt(B:aO G 1)(hs:sI σ ks)(h0:lo<0):iz G c9 ks (λvs ws=>call (.ref 57) vs ([So "key"].zip ws)) [a,x,.int lo,hi] [key] σ (σ.push (.frame (bF a x (.int lo) hi key))):=
 .entry (m:=σ.n) (rb:=bF a x (.int lo) hi key) B.cQ (B.defAt qE qA) B.cP (B.d5 ri) U (Es λα s va vx vl vh vk g ra rx rl rh rk=>⟨_,Dd (i5 B.KS g) va vx vl vh vk,U,.aZ rk (.aZ rh (.aZ rl (.aZ rx (.aZ ra cy))))⟩) ak ak (aW _) (λenv=>x57 B.deep hs h0) ak ak ak
end
section
open PyProof
variable{G:Gv}{n m bf kf:Nat}{e:Env}{σ σ2:St}{ks:List Nat}{a b x hi:CV}{lo:Int}{fd:cO}{bn msg nm:Str}{g:k7}{p1 p2 p3 p4 p5 p6 p7 p8 p9 E5 E4 J' NI NH NG NF:Pos}{k1:Nat}{T E:List Stmt}
noncomputable abbrev N1(σ:St)(a x:CV)(lo:Int)(hi:CV)(kf:Nat)(nm:Str):St:=(σ.push (.frame (bF a x (.int lo) hi (.ref kf)))).push (.frame [(nm,x)])
theorem Sr:(N1 σ a x lo hi kf nm).get σ.n=aa (.frame (bF a x (.int lo) hi (.ref kf))):=(lb (bq _)).trans gG
theorem N8(be:BI e bn)(he:e.locals=σ.n)(K:pR g nm)(room:G.A.depth<bA)(gV:G.h₀.NoLimit)(hk:σ.get kf=aa (.fn g))(Er:kf<σ.n)(D:eZ G bf fd)(hg:Glob G bn (.ref bf))
  (spec:iz G msg (σ.n::ks) (λvs ws=>call (.ref bf) vs ([So "key"].zip ws)) [a,.int 0,.int lo,hi] [.ref kf] (N1 σ a x lo hi kf nm) σ2):
  pQ G msg m e ks (.If (.Compare (.Name (So "key") p1) [.Is] [.Constant .none k1 p2] p3) E [.Assign [.Name (So "lo") p4] (.Call (.Name bn p5) [.Name (So "a") p6,.Call (.Name (So "key") p7) [.Name (So "x") p8] [] p9,.Name (So "lo") E5,.Name (So "hi") E4] [⟨aa (So "key"),.Name (So "key") J',NI⟩] NH) NG] NF::T) (σ.push (.frame (bF a x (.int lo) hi (.ref kf)))) σ2:=by
 have g2:(N1 σ a x lo hi kf nm).get e.locals=aa (.frame (bF a x (.int lo) hi (.ref kf))):=he▸Sr;have Zt:SF G kf [x] (σ.push (.frame (bF a x (.int lo) hi (.ref kf)))) (.int 0) (N1 σ a x lo hi kf nm):=K.call room gV ((lb Er).trans hk);refine .ifX (b:=false) (.cmp (.loc (he▸gG) U be.key) .none (lJ U)) (.assign (.Ox (names:=[So "key"]) D (.glob hg be.fn be.g be.b be.d)
  (.cons (.loc (he▸gG) U be.a) (.cons (.zE (.loc (he▸gG) U be.key) (.cons (.loc (he▸gG) U be.x) .nil) ((lb Er).trans hk) Zt) (.cons (.loc g2 U be.lo) (.cons (.loc g2 U be.hi) .nil)))) (.cons (.loc g2 U be.key) .nil) (he▸spec)))
unseal st in
theorem aad(B:aO G 1)(K:pR g nm)(hk:σ.get kf=aa (.fn g))(Er:kf<σ.n)(hs:sI σ ks)(h0:lo<0):pQ G c9 m (Tj σ.n) ks (fB (st 2)) (σ.push (.frame (bF a x (.int lo) hi (.ref kf)))) ((N1 σ a x lo hi kf nm).push (.frame (bF a (.int 0) (.int lo) hi (.ref kf)))):=by
 conv in fB (st 2)=>whnf
 exact N8 (zL _) U K B.cQ B.cP hk Er (B.defAt qF qB) (zj B) (Qu B (sI.NC hs.push) h0)
unseal st in
theorem aac(B:aO G 1)(K:pR g nm)(hk:σ.get kf=aa (.fn g))(Er:kf<σ.n)(hs:sI σ ks)(h0:lo<0):pQ G c9 m (Ti σ.n) ks (fB (st 4)) (σ.push (.frame (bF a x (.int lo) hi (.ref kf)))) ((N1 σ a x lo hi kf nm).push (.frame (bF a (.int 0) (.int lo) hi (.ref kf)))):=by
 conv in fB (st 4)=>whnf
 exact N8 (zK _) U K B.cQ B.cP hk Er (B.defAt qE qA) (zi B) (Qt B (sI.NC hs.push) h0)
theorem aaP(B:aO G 2)(K:pR g nm)(hk:σ.get kf=aa (.fn g))(Er:kf<σ.n)(hs:sI σ ks)(h0:lo<0):iz G c9 ks (λvs ws=>call (.ref 30) vs ([So "key"].zip ws)) [a,x,.int lo] [.ref kf] σ ((N1 σ a x lo .none kf nm).push (.frame (bF a (.int 0) (.int lo) .none (.ref kf)))):=
 .entry (m:=σ.n) (rb:=bF a x (.int lo) .none (.ref kf)) B.cQ (B.defAt zR zB) B.cP (B.d5 xB) U (Mr λα s va vx vl vk g ra rx rl rk=>⟨_,M5 (i5 B.KS g) va vx vl vk,U,.aZ rk (.aZ fo (.aZ rl (.aZ rx (.aZ ra cy))))⟩) ak ak (aW _) (λenv=>aad B.deep K hk Er hs h0) ak ak ak
theorem aaN(B:aO G 2)(K:pR g nm)(hk:σ.get kf=aa (.fn g))(Er:kf<σ.n)(hs:sI σ ks)(h0:lo<0):iz G c9 ks (λvs ws=>call (.ref 48) vs ([So "key"].zip ws)) [a,x,.int lo] [.ref kf] σ ((N1 σ a x lo .none kf nm).push (.frame (bF a (.int 0) (.int lo) .none (.ref kf)))):=
 .entry (m:=σ.n) (rb:=bF a x (.int lo) .none (.ref kf)) B.cQ (B.defAt zQ zA) B.cP (B.d5 xA) U (Mr λα s va vx vl vk g ra rx rl rk=>⟨_,M1 (i5 B.KS g) va vx vl vk,U,.aZ rk (.aZ fo (.aZ rl (.aZ rx (.aZ ra cy))))⟩) ak ak (aW _) (λenv=>aac B.deep K hk Er hs h0) ak ak ak
end
section
open PyProof
variable{G:Gv}{n tk:Nat}{row el ll:List Int}{iy fr:List (Str×CV)}{ws:List CV}{c:CV}
noncomputable abbrev ql:Str:=Sx [95,108,97,119,95,104,101,108,100]
theorem Dg(P:ag)(f:Nat->Obj)(kt tk:Nat):(fq P f kt tk).get? 243=aa (Ho P kt tk):=by kernel_rfl
theorem OB(P:ag)(f:Nat->Obj)(kt tk:Nat):(fq P f kt tk).get? 242=aa (NK P kt tk):=by kernel_rfl
theorem Zb(P:ag)(kt tk:Nat):(Ho P kt tk).data=.func (nE 20 ql tk 242):=by kernel_rfl
theorem aO.Dg{G n}(B:aO G n):∃tk,eZ G 243 (nE 20 ql tk 242)/\G.h₀.CodeRec (R 242) ql/\iA G.h₀ 242 238:=by
 obtain⟨f,kt,tk,es,ep,_,_,c⟩:=B.heap;have h1:=c _ _ (by rfl) (Mine.Internal.OB G.w.params f kt tk);exact⟨tk,⟨_,c _ _ (by rfl) (Mine.Internal.Dg _ _ _ _),Zb _ _ _⟩,dB h1 U U,oX h1 U U U U U U U U U⟩
noncomputable def qH:Nat->Nat->Str:=λzz zz=>ql++aF ".<locals>."++aF "<lambda>"
noncomputable abbrev MF(tk:Nat):Env:=entryE (nE 20 ql tk 242) [] 3 243
noncomputable abbrev hF(more:List (Str×CV)):List (Str×CV):=[(So "row",.ref 0),(So "late",.ref 6),(So "early",.ref 5),(So "words",.ref 4)]++more
noncomputable abbrev hL(row:List Int)(iy:List (Str×CV)):List (Nat×AO):=[(2,.frame iy),(1,.tab 238 qH),(0,.list (row.map .int))]
noncomputable abbrev hM(row:List Int)(iy:List (Str×CV))(ws:List CV)(el ll:List Int)(more:List (Str×CV)):List (Nat×AO):=[(6,.list (ll.map .int)),(5,.list (el.map .int)),(4,.list ws),(3,.frame (hF more))]++hL row iy
theorem qY{r:Nat->Nat}(h:Nc fr):jt r (.frame fr) (.frame fr):=⟨fr,U,h r⟩
seal a8 cS SS eY bM dD bN eC cU cI ef eX cR gc dJ jK SK SF l5
end
section
open PyProof
variable{G:Gv}{n m tk i a:Nat}{e:Env}{σ σ1 σ2:St}{ks:List Nat}{row:List Int}{iy:List (Str×CV)}{g:k7}{c x:CV}{y0:Stmt}{nm:Str}{kf:Nat}{y:Str}{k:Nat}
theorem pD.shp(h:pD G ks m e y0 σ .next σ1)(k:gN m σ1 σ2):pD G ks m e y0 σ .next σ2:=by
 intro α s env E i g q;refine wQ (h α s env E i g q) ?_;rintro _ s1 ⟨β,x,g1,rfl⟩;obtain⟨γ,y,g2⟩:=k G β s1 g1;exact⟨γ,x.trans y,g2,U⟩
theorem Glob.re{v w: aq}{h: Heap}(q:Glob G y v)(k:∀b o,G.h₀.get? b=aa o->h.get? b=aa o):Glob (Ua G w h) y v:=by
 rcases q with⟨mg,h1,h2⟩|⟨mg,mb,h1,h2,h3,h4⟩
 ·exact .inl ⟨mg,h1.keeps k,h2⟩
 ·exact .inr ⟨mg,mb,h1.keeps k,h2,h3.keeps k,h4⟩
theorem aO.mods{G n}(B:aO G n)(P:Nat)(hP:4≠P):∃mg,G.h₀.Ns dk mg/\G.h₀.BuiltinsAt mg P:=by
 obtain⟨mg,h1,h2,_⟩:=B.NU P hP;exact⟨mg,h1,h2⟩
noncomputable abbrev AL:List Nat:=[57,39,48,30]
noncomputable def over:List (List (Str×CV))->St->St
 |[],σ=>σ
 |f::fs,σ=>over fs (σ.push (.frame f))
theorem V2(B:aO G 2)(K:pR g nm)(hk:σ.get kf=aa (.fn g))(Er:kf<σ.n)(hs:sI σ ks)(ha:a∈AL):∃fd fs,eZ G a fd/\iz G c9 ks (λvs ws=>call (.ref a) vs ([So "key"].zip ws)) [c,x,.int (-1)] [.ref kf] σ (over fs σ)/\(fs.length=1∨fs.length=3):=by
 rcases List.mem_cons.mp ha with rfl|ha
 ·exact⟨_,[_],B.defAt qE qA,aaM (B.le U) hs ay,.inl U⟩
 rcases List.mem_cons.mp ha with rfl|ha
 ·exact⟨_,[_],B.defAt qF qB,aaO (B.le U) hs ay,.inl U⟩
 rcases List.mem_cons.mp ha with rfl|ha
 ·exact⟨_,[_,_,_],B.defAt zQ zA,aaN B K hk Er hs ay,.inr U⟩
 cases List.mem_singleton.mp ha;exact⟨_,[_,_,_],B.defAt zR zB,aaP B K hk Er hs ay,.inr U⟩
theorem vz{r:Nat->Nat}:∀k,cK r (aw k (.str y))=aw k (.str y):=by
 intro k
 induction k with
 |zero=>rfl
 |succ k ih=>exact congrArg (CV.str y::·) ih
theorem A8{r:Nat->Nat}:jt r (.list (aw k (.str y))) (.list (aw k (.str y))):=congrArg AO.list (vz k).symm
theorem Lu{r:Nat->Nat}:jt r (.list (aw k (.str y)++[.str y])) (.list (aw (k+1) (.str y))):=congrArg AO.list (List.replicate_succ'.symm.trans (vz (k+1)).symm)
theorem Mu(B:aO G n):Glob G (So "insort_left") (.ref 48):=B.glob λzz zz zz zz=>ak
theorem Mv(B:aO G n):Glob G (So "insort_right") (.ref 30):=B.glob λzz zz zz zz=>ak
noncomputable abbrev hW(row:List Int)(iy:List (Str×CV))(ws:List CV)(more:List (Str×CV))(i:Nat):St:=⟨(8,.ix 7 i)::(7,.list (AL.map λa=>.val (.ref a)))::hM row iy ws row row more,9⟩
theorem Mk(hr:Nc iy):gN 9 (hW row iy (aw k (.str c9)++[.str c9]) [(So "search",.val (.ref a))] i) (hW row iy (aw (k+1) (.str c9)) [] i):=
 gN.mk [] U U ⟨aD,aD,⟨_,U,aS⟩,⟨_,U,aS⟩,⟨_,U,Lu⟩,⟨_,U,_,U,U,U,U,U,aE⟩,⟨_,U,qY hr⟩,aD,⟨_,U,aS⟩,aE⟩
theorem SE(hr:Nc iy){fs: List (List (Str×CV))}(hl:fs.length=1∨fs.length=3):gN 9 (over fs ((hW row iy (aw k (.str c9)) [(So "search",.val (.ref a))] i).push (.fn g))) (hW row iy (aw k (.str c9)) [(So "search",.val (.ref a))] i):=by
 rcases hl with hl|hl
 ·match fs,hl with
  |[f],_=>exact gN.mk [] U U ⟨aD,aD,⟨_,U,aS⟩,⟨_,U,aS⟩,⟨_,U,A8⟩,⟨_,U,_,U,U,U,U,U,U,aE⟩,⟨_,U,qY hr⟩,aD,⟨_,U,aS⟩,aE⟩
 ·match fs,hl with
  |[f1,f2,f3],_=>exact gN.mk [] U U ⟨aD,aD,⟨_,U,aS⟩,⟨_,U,aS⟩,⟨_,U,A8⟩,⟨_,U,_,U,U,U,U,U,U,aE⟩,⟨_,U,qY hr⟩,aD,⟨_,U,aS⟩,aE⟩
theorem SG{ws: List CV}{more: List (Str×CV)}:sI ((hW row iy ws more i).push (.fn g)) [3,2]:=by
 intro k hk;rcases List.mem_cons.mp hk with rfl|hk
 ·exact⟨_,U⟩
 ·cases List.mem_singleton.mp hk;exact⟨_,U⟩
noncomputable abbrev zF:List Stmt:=fB (az (fB (st 20)) 1)
seal a8 cS SS eY bM dD bN eC cU cI ef eX cR gc dJ jK SK SF l5 pD kP uv pQ ia iz
theorem XR{p pos: Pos}{args: List Expr}{qp:List Keyword}(B:aO G 4)(hr:Nc iy)(ha:a∈AL)(YF:jK G (MF tk) pos args (hW row iy (aw i (.str c9)) [(So "search",.val (.ref a))] (i+1)) [.ref 0,.int 2,.int (-1)] (hW row iy (aw i (.str c9)) [(So "search",.val (.ref a))] (i+1)))
  (lam:l5 G (MF tk) pos qp [So "key"] (hW row iy (aw i (.str c9)) [(So "search",.val (.ref a))] (i+1)) [.ref 9] ((hW row iy (aw i (.str c9)) [(So "search",.val (.ref a))] (i+1)).push (.fn g))) (K:pR g (So "one")):
  ∃J7,uv G c9 (MF tk) [3,2] (.Call (.Name (So "search") p) args qp pos) (hW row iy (aw i (.str c9)) [(So "search",.val (.ref a))] (i+1)) J7/\gN 9 J7 (hW row iy (aw i (.str c9)) [(So "search",.val (.ref a))] (i+1)):=by
 obtain⟨fd,fs,D,hR,hl⟩:=V2 (σ:=(hW row iy (aw i (.str c9)) [(So "search",.val (.ref a))] (i+1)).push (.fn g)) (kf:=9) (ks:=[3,2]) (c:=.ref 0) (x:=.int 2) (B.le U) K U (show 9<10 by decide) SG ha;exact⟨_,.Ox D (.loc U U) YF lam hR,SE hr hl⟩
unseal st in
theorem Yu(B:aO G 4)(hr:Nc iy)(A:iA G.h₀ 242 238)(ha:a∈AL)(hi:i<4):pD G [3,2] 9 (MF tk) (az zF 0) (hW row iy (aw i (.str c9)) [(So "search",.val (.ref a))] (i+1)) .next
  (hW row iy (aw i (.str c9)++[.str c9]) [(So "search",.val (.ref a))] (i+1)):=by
 conv in az zF 0=>whnf
 refine aR (B.mods 238 ay) λmg sv mH=>?_;refine .PR (msg:=c9) (σ1:=hW row iy (aw i (.str c9)) [(So "search",.val (.ref a))] (i+1)) (S2:=λy=>hW row iy (aw i (.str c9)++[.str c9]) [(So "search",.val (.ref a)),(So "error",.val (.ref y))] (i+1)) (BO B) ak ak U U U U ?hX U U ?hs ?h2
 case hX =>
  exact XR B hr ha (.cons (.loc U U) (.cons .int (.cons (.un .int iu) .nil))) (.cons (.nz (c:=242) (P:=238) (clos:=[]) U U sv U A mH (k:=1) U U) .nil) ⟨⟨λzz zz zz zz zz=>U,U,U,U,U,U,U⟩,⟨_,_,U⟩,U⟩
 case hs =>
  intro y t h ea;have hu:G.A.units+2<cLine:=aM (aY (cq (show 2<=10*4 by decide) _) B.un) (show 9000<=9900 by decide);exact .cons (.to (.expr (.rW iN bE U (.loc U U) (gk U) (.cons (.jS (.glob ((C_ B).re ea.sub)) (.cons (.loc U U) .nil) (KY ea hu)) .nil) (list_append U (by rw[cg];exact au (bX hi) ay)))) U) .nil U
 case h2=>exact λy=>⟨_,U,ak⟩
end
section
open PyProof
variable{G:Gv}{tk i a:Nat}{row:List Int}{iy:List (Str×CV)}
seal a8 cS SS eY bM dD bN eC cU cI ef eX cR gc dJ jK SK SF l5 pD kP uv pQ ia iz
unseal st in
theorem hd1(B:aO G 4)(hh:G.A.handled=none)(hr:Nc iy)(A:iA G.h₀ 242 238):pD G [3,2] 7 (MF tk) (az (fB (st 20)) 1) ⟨hM row iy [] row row [],7⟩ .next ⟨hM row iy (aw 4 (.str c9)) row row [],7⟩:=by
 have body:∀i a,i<4->a∈AL->kP G [3,2] 9 (MF tk) zF (hW row iy (aw i (.str c9)) [(So "search",.val (.ref a))] (i+1)) .next (hW row iy (aw i (.str c9)++[.str c9]) [(So "search",.val (.ref a))] (i+1)):=λi a hi ha=>by
  rw[show zF=[az zF 0] by kernel_rfl];exact .cons (Yu B hr A ha hi) (.of .nil) U U
 conv in az (fB (st 20)) 1=>whnf
 refine .shp (.for (m':=9) (it:=8) 4 (λi=>hW row iy (aw i (.str c9)) [] i) U U ay ay (.list (.cons (.glob (zi B)) (.cons (.glob (zj B)) (.cons (.glob (Mu B)) (.cons (.glob (Mv B)) .nil)))) U) (dP U) (λi hi=>?_) (D.list hh U U U)) ?_
 ·obtain⟨a,ha⟩:∃a,AL[i]?=aa a:=⟨AL[i],aP hi⟩
  exact⟨_,⟨_,_,_,X.names U U (by rw[cM,ha];rfl),.name (.loc (m':=hF []) U),body i a hi (List.mem_of_getElem? ha)⟩,Mk hr⟩
 ·exact gN.mk [] U U ⟨⟨_,U,aS⟩,⟨_,U,aS⟩,⟨_,U,A8⟩,⟨_,U,_,U,U,U,U,U,aE⟩,⟨_,U,qY hr⟩,aD,⟨_,U,aS⟩,aE⟩
end
section
open PyProof
variable{G:Gv}{tk:Nat}{row el ll:List Int}{iy:List (Str×CV)}{ws:List CV}{g g':k7}{c x:CV}
theorem MU:jD (λzz=>!decide ((0:Int)<0)) 2 1 3=1:=by decide
theorem MV:jD (λzz=>decide ((0:Int)<0)) 2 1 3=3:=by decide
noncomputable abbrev hZ1(g:k7)(row:List Int)(iy:List (Str×CV))(ws:List CV)(el:List Int):St:=⟨(7,.fn g)::hM row iy ws el row [],8⟩
noncomputable abbrev hZ2(g' g:k7)(row:List Int)(iy:List (Str×CV))(ws:List CV)(ll:List Int):St:=⟨(8,.fn g')::(7,.fn g)::hM row iy ws (insI row 1 5) ll [],9⟩
seal a8 cS SS eY bM dD bN eC cU cI ef eX cR gc dJ jK SK SF l5 pD kP uv pQ ia iz
theorem Xw(B:aO G 4)(K:pR g (So "one"))(h3:3<=row.length)(hl:row.length<2^20):SK G (λvs ws=>call (.ref 48) vs ([So "key"].zip ws)) [.ref 5,.int 5,.int 1,.int 3] [.ref 7] (hZ1 g row iy ws row) .none (hZ1 g row iy ws (insI row 1 5)):=
 SK.m7 (σ':=(hZ1 g row iy ws row).set 5 (.list ((insI row 1 5).map .int))) (τ0:=⟨oZ g row,2⟩) (l:=[(5,0),(7,1)]) (c:=.none) (cs0:=[.ref 0,.int 5,.int 1,.int 3]) (ks0:=[.ref 1]) U U U ⟨⟨_,U,lL (by rw[K.clos];rfl)⟩,⟨_,U,aS⟩,aE⟩ U (lM (.head _)) ⟨⟨_,_,U,U,aS⟩,⟨_,_,U,U,lL (by rw[K.clos];rfl)⟩,aE⟩
  (λh k=>Ql (hi:=aa 3) (lo:=1) (x:=5) (r:=1) (B.ext k) K hl ay (show(1:Int)<=3 by decide) (Int.ofNat_le.mpr h3) MU) U U U
theorem Xx(B:aO G 4)(K:pR g' (So "one"))(h3:3<=row.length)(hl:row.length<2^20):SK G (λvs ws=>call (.ref 30) vs ([So "key"].zip ws)) [.ref 6,.int 5,.int 1,.int 3] [.ref 8] (hZ2 g' g row iy ws row) .none (hZ2 g' g row iy ws (insI row 3 5)):=
 SK.m7 (σ':=(hZ2 g' g row iy ws row).set 6 (.list ((insI row 3 5).map .int))) (τ0:=⟨oZ g' row,2⟩) (l:=[(6,0),(8,1)]) (c:=.none) (cs0:=[.ref 0,.int 5,.int 1,.int 3]) (ks0:=[.ref 1]) U U U ⟨⟨_,U,lL (by rw[K.clos];rfl)⟩,⟨_,U,aS⟩,aE⟩ U (lM (.head _)) ⟨⟨_,_,U,U,aS⟩,⟨_,_,U,U,lL (by rw[K.clos];rfl)⟩,aE⟩
  (λh k=>Qm (hi:=aa 3) (lo:=1) (x:=5) (r:=3) (B.ext k) K hl ay (show(1:Int)<=3 by decide) (Int.ofNat_le.mpr h3) MV) U U U
noncomputable abbrev Jc(g' g:k7)(row:List Int)(iy:List (Str×CV))(ws:List CV):St:=⟨(9,.list [.none,.none])::(8,.fn g')::(7,.fn g)::hM row iy ws (insI row 1 5) (insI row 3 5) [(So "laid",.ref 9)],10⟩
unseal st in
theorem hd2(tk:Nat):∃g' g,∀(G:Gv)(ws:List CV)(row:List Int) (iy:List (Str×CV)),aO G 4->iA G.h₀ 242 238->3<=row.length->row.length<2^20->SS G 7 (MF tk) (az (fB (st 20)) 2) ⟨hM row iy ws row row [],7⟩ .next (Jc g' g row iy ws):=by
 conv in az (fB (st 20)) 2=>whnf
 apply Exists.intro;apply Exists.intro;intro G ws row iy B A h3 hl;refine aR (B.mods 238 ay) λmg sv mH=>?_;exact .to (.assign (.list (.cons (.oM (names:=[So "key"]) (B.defAt zQ zA) (.glob (Mu B)) (.cons (.loc U U) (.cons .int (.cons .int (.cons .int .nil))))
   (.cons (.nz (c:=242) (P:=238) (clos:=[]) U U sv U A mH (k:=1) U U) .nil)
   (Xw B ⟨⟨λzz zz zz zz zz=>U,U,U,U,U,U,U⟩,⟨_,_,U⟩,U⟩ h3 hl))
  (.cons (.oM (names:=[So "key"]) (B.defAt zR zB) (.glob (Mv B)) (.cons (.loc U U) (.cons .int (.cons .int (.cons .int .nil))))
   (.cons (.nz (c:=242) (P:=238) (clos:=[]) U U sv U A mH (k:=1) U U) .nil)
   (Xx B ⟨⟨λzz zz zz zz zz=>U,U,U,U,U,U,U⟩,⟨_,_,U⟩,U⟩ h3 hl)) .nil)) U) (.loc (m':=hF []) U)) U
end
section
open PyProof
variable{G:Gv}{n m tk:Nat}{σ:St}{row:List Int}{iy:List (Str×CV)}{g g':k7}{j k:Nat}
theorem aO.hn{G n m}(B:aO G n)(h:m<=100):G.A.units+m<cLine:=aY (cq h _) (aM (aY (cE (bg _ (10*n)) 100) (Nat.add_lt_add_right B.un 100)) ay)
theorem wz:gE c9=af:=by kernel_rfl
noncomputable abbrev Vc:PyData:=.list [.str c9,.str c9,.str c9,.str c9]
theorem Cv(h:σ.get k=aa (.list [.str c9,.str c9,.str c9,.str c9])):Rd G σ (.ref k) Vc:=.list h (.cons .str (.cons .str (.cons .str (.cons .str .nil))))
noncomputable abbrev ZZ(row:List Int)(k:Nat):List CV:=(row.map CV.int).take k++[.int 5]++(row.map CV.int).drop k
theorem Qp:ZZ row k=(insI row k 5).map .int:=by
 show(row.map CV.int).take k++[.int 5]++(row.map CV.int).drop k=List.map CV.int (List.take ((k:Nat):Int).toNat row++5::gY ((k:Nat):Int).toNat row);rw[bU,bG,cn,List.map_take,List.map_drop,bh];rfl
theorem NA(h:σ.get j=aa (.list (ZZ row k))):Rd G σ (.ref j) (.list ((insI row k 5).map .int)):=Rd.ints (h.trans (by rw[Qp]))
theorem Gx(e:σ.get j=aa (.list (row.map .int)))(hl:row.length<2^20):cR G (.ref j) none (aa (k:Int)) none σ (.ref σ.n) (σ.push (.list ((row.map CV.int).take k))):=by
 have h:=slice_list (G:=G) (lo:=none) (hi:=aa (k:Int)) (st:=none) e ay (by rw[aG];exact au (bX hl) ay)
 rwa [tm _ _ (aI _),bU]at h
theorem yt(e:σ.get j=aa (.list (row.map .int)))(hl:row.length<2^20):cR G (.ref j) (aa (k:Int)) none none σ (.ref σ.n) (σ.push (.list ((row.map CV.int).drop k))):=by
 have h:=slice_list (G:=G) (lo:=aa (k:Int)) (hi:=none) (st:=none) e ay (by rw[aG];exact au (bX hl) ay)
 rwa [tn _ _ (aI _),bU]at h
theorem C5(hl:row.length<2^20):((row.map CV.int).take k).length+[CV.int 5].length<=bC:=au (cF (by rw[iC,aG];exact au (Nat.min_le_right _ _) (bX hl)) (aW 1)) ay
theorem zC(hl:row.length<2^20):((row.map CV.int).take k++[CV.int 5]).length+((row.map CV.int).drop k).length<=bC:=by
 rw[aB,iC,gz,aG];exact au (cF (cF (au (Nat.min_le_right _ _) (bX hl)) (aW 1)) (au (Nat.sub_le _ _) (bX hl))) ay
noncomputable abbrev PT(g' g:k7)(row:List Int)(iy:List (Str×CV)):St:=⟨[(24,.list [.ref 18,.ref 23]),(23,.list (ZZ row 3)),(22,.list ((row.map CV.int).drop 3)),(21,.list ((row.map CV.int).take 3++[.int 5])),(20,.list [.int 5]),(19,.list ((row.map CV.int).take 3)),(18,.list (ZZ row 1)),(17,.list ((row.map CV.int).drop 1)),(16,.list ((row.map CV.int).take 1++[.int 5])),(15,.list [.int 5]),(14,.list ((row.map CV.int).take 1)),(13,.list [.ref 5,.ref 6]),(12,.list [.none,.none]),(11,.list (aw 4 [CV.str c9]).flatten),(10,.list [.str c9])]++(Jc g' g row iy (aw 4 (.str c9))).objs,25⟩
seal a8 cS SS eY bM dD bN eC cU cI ef eX cR gc dJ jK SK SF l5 pD kP uv pQ ia iz
unseal st in
theorem hd3(B:aO G 4)(hl:row.length<2^20):eY G 7 (MF tk) [az (fB (st 20)) 3] (Jc g' g row iy (aw 4 (.str c9))) (.ret (.bool af)) (PT g' g row iy):=by
 conv in az (fB (st 20)) 3=>whnf
 exact .stop (.ret (.sa (.cmp (.loc U U) (.bin (.list (.cons .str .nil) U) .int (fG (k:=4) U U ay ay ay U)) (nx (n:=1) (.list (.cons (.str wz) (.cons (.str wz) (.cons (.str wz) (.cons (.str wz) .nil))))) (Cv U) (Cv U) (B.hn ay)))
  (.sa (.cmp (.loc U U) (.list (.cons .none (.cons .none .nil)) U) (nx (n:=1) (.list (.cons .none (.cons .none .nil))) (.list U (.cons .none (.cons .none .nil))) (.list U (.cons .none (.cons .none .nil))) (B.hn ay)))
  (.uj (.cmp (.list (.cons (.loc U U) (.cons (.loc U U) .nil)) U)
   (.list (.cons (.bin (.bin (.slice (.loc U U) .no (.at .int) .no (Gx (k:=1) U hl)) (.list (.cons .int .nil) U) (add_lists U U (C5 hl))) (.slice (.loc U U) (.at .int) .no .no (yt (k:=1) U hl)) (add_lists U U (zC hl)))
    (.cons (.bin (.bin (.slice (.loc U U) .no (.at .int) .no (Gx (k:=3) U hl)) (.list (.cons .int .nil) U) (add_lists U U (C5 hl))) (.slice (.loc U U) (.at .int) .no .no (yt (k:=3) U hl)) (add_lists U U (zC hl))) .nil)) U)
   (nx (n:=2) (.list (.cons .ints (.cons .ints .nil))) (.list U (.cons (Rd.ints U) (.cons (Rd.ints U) .nil))) (.list U (.cons (NA (k:=1) U) (.cons (NA (k:=3) U) .nil))) (B.hn ay))))))) U
end
section
open PyProof
variable{G:Gv}{m tk a:Nat}{row:List Int}{iy:List (Str×CV)}
theorem QU(tk:Nat):jf (nE 20 ql tk 242) (fB (st 20)) []:=⟨U,U,λL=>ak,ak,ak,ak,ak,ak⟩
theorem TG{tk s}(a:aq):bW s (nE 20 ql tk 242) ⟨[a],[]⟩ [(So "row",a)]:=cB (K:=[]) (λzz zz h=>nomatch h) λS=>ak
noncomputable abbrev hT0(iy:List (Str×CV))(row:List Int):St:=⟨hL row iy,3⟩
seal a8 cS SS eY bM dD bN eC cU cI ef eX cR gc dJ jK SK SF l5 pD kP uv pQ ia iz
unseal st in
theorem abU(B:aO G 4)(hh:G.A.handled=none)(hl:row.length<=1000):SS G 7 (MF tk) (az (fB (st 20)) 0) ⟨(3,.frame [(So "row",.ref 0)])::hL row iy,4⟩ .next ⟨hM row iy [] row row [],7⟩:=by
 conv in az (fB (st 20)) 0=>whnf
 have hf:(row.map CV.int).length<=bC:=by rw[aG];exact bD (au hl ay)
 exact .to (.swap (names:=[So "words",So "early",So "late"]) hh (.tuple (.cons (.list .nil U) (.cons (.jS (.glob (oQ B)) (.cons (.loc U U) .nil) (qo U hf)) (.cons (.jS (.glob (oQ B)) (.cons (.loc U U) .nil) (qo U hf)) .nil))) U) U
  (.bind (.loc U) (.bind (.loc U) (.bind (.loc U) .nil))) (hw:=λenv h=>(bQ h).trans ak)) U
theorem VI(tk:Nat):∃g' g,∀(G:Gv),aO G 5->G.A.handled=none->eZ G 243 (nE 20 ql tk 242)->G.h₀.CodeRec (R 242) ql->iA G.h₀ 242 238->∀row:List Int,3<=row.length->row.length<=1000->∀iy,Nc iy ->
  rU G (Nf G [2]) (λvs ws=>call (.ref 243) vs ([].zip ws)) [.ref 0] [] (hT0 iy row) (.bool af) (PT g' g row iy):=by
 obtain⟨g',g,h2⟩:=hd2 tk;refine⟨g',g,λG B hh D C A row h3 hl iy hr=>rU.Jp (names:=[]) (m:=7) (f:=.ret (.bool af)) (σ1:=⟨(3,.frame [(So "row",.ref 0)])::hL row iy,4⟩) (rb:=[(So "row",.ref 0)]) B.cQ D B.cP C (QU tk) (zg λα s u g q=>⟨_,TG u,U,.aZ q cy⟩) ak U ak λenv=>?_⟩;rw[show fB (st 20)=[az (fB (st 20)) 0,az (fB (st 20)) 1,az (fB (st 20)) 2,az (fB (st 20)) 3] by kernel_rfl];have h20:row.length<2^20:=aY hl ay;exact .cons (.of (abU B.deep hh hl)) (.cons (hd1 B.deep hh hr A) (.of (.cons (h2 _ _ _ _ B.deep A h3 h20) (hd3 B.deep h20) U)) U U) U U
end
section
open PyProof
variable{G:Gv}{σ:St}{c d:CV}{xs ys:List CV}{p:Pos}{it pn t i j l l2 k:Nat}
theorem Ds(e:σ.get l=aa (.list xs))(e2:σ.get l2=aa (.list ys)):bM G (λvs=>call (.type "zip") vs) [.ref l,.ref l2] σ (.ref (σ.n+4)) (σ.n6 [.ix l 0,.ix l2 0,.pr σ.n (σ.n+1),.two,.zip (σ.n+2) (σ.n+3)]):=by
 refine G' e λα s a vs n E w g ha eh q sz r=>?_;obtain⟨b,us,n2,rfl,hb,eh2,q2,sz2⟩:=g.getL e2 r;refine call_zip_2 (xs:=vs.toArray) (ys:=us.toArray) ⟨_,eh,U,_,U⟩ ⟨_,eh2,U,_,U⟩ λh1 z1 p1 p2 q1 q2 sz1 k1=>?_;have u:=g.vy (os:=[.ix l 0,.ix l2 0,.pr σ.n (σ.n+1),.two,.zip (σ.n+2) (σ.n+3)]) (h':=h1) (a:=s.heap.objs.size) k1 (λi zz=>by
  cases e:s.heap.get? (s.heap.objs.size+i)with
  |none=>rfl
  |some o=>exact absurd (bx e) (Nat.not_lt.mpr (bg _ _))) (λle i o hi=>?_) s.toks
 ·exact⟨_,u.1,u.2,_,U,AM.d' (i:=4) (bq 4)⟩
 ·cases i with
  |zero=>cases hi;exact⟨a,le.le _ aE _ ha,q1⟩
  |succ i=>cases i with
   |zero=>cases hi;exact⟨b,le.le _ aE _ hb,q2⟩
   |succ i=>cases i with
    |zero=>cases hi;exact⟨_,_,AM.d' (c:=5) (i:=0) ay,AM.d' (c:=5) (i:=1) ay,p1⟩
    |succ i=>cases i with
     |zero=>cases hi;exact⟨_,_,p2⟩
     |succ i=>cases i with
      |zero=>cases hi;exact⟨_,_,AM.d' (c:=5) (i:=2) ay,AM.d' (c:=5) (i:=3) ay,z1⟩
      |succ i=>cases hi
structure acw(α:AM)(h:Heap)(xs ys:List CV)(k a b c d f g g2:Nat)(v w:aq)(vs us:List aq)(n n2:Nat):Prop where
 z:IsZip h a b c .none
 p:km h b (.ref d) (.ref f)
 t:km h c v w
 s:h.IsListIter d g k
 l:h.IsListIter f g2 k
 e1:h.get? g=aa (fg vs n)
 e2:h.get? g2=aa (fg us n2)
 q:di α h xs vs
 q2:di α h ys us
 D:ZipApart a b c d f g g2
theorem GS.Oo{α s a}(g:GS G α σ s)(e:σ.get it=aa (.zip pn t))(ep:σ.get pn=aa (.pr i j))(et:σ.get t=aa .two)(ei:σ.get i=aa (.ix l k))(ej:σ.get j=aa (.ix l2 k))(el:σ.get l=aa (.list xs))(MD:σ.get l2=aa (.list ys))(zd:i≠j)(ha:α.f it=aa a):
  ∃b c d f m m2 v w vs us n n2,α.f t=aa c/\α.f i=aa d/\α.f j=aa f/\α.f l=aa m/\α.f l2=aa m2/\acw α s.heap xs ys k a b c d f m m2 v w vs us n n2:=by
 refine dH λlg eS=>?_;obtain⟨a',h1,b,c,hb,hc,z⟩:=g.own _ _ e;cases h1.symm.trans ha;obtain⟨b',h2,d,f,hd,hf,p⟩:=g.own _ _ ep;cases h2.symm.trans hb;obtain⟨c',h3,v,w,tt⟩:=g.own _ _ et;cases h3.symm.trans hc;obtain⟨m,vs,n,hm,li,eh,q⟩:=g.BA ei el hd;obtain⟨m2,us,n2,I5,li2,eh2,q2⟩:=g.BA ej MD hf;refine eS ?_;have ne:∀{j k ao ao' a b},σ.get j=aa ao->σ.get k=aa ao'->α.f j=aa a->α.f k=aa b->ao≠ao'->a≠b:=λe1 e2 h1 h2 n q=>by
  have:=g.inj _ _ _ _ _ e1 e2 h1 (q▸h2);rw[this,e2]at e1;exact n (bR e1).symm
 refine⟨b,c,d,f,m,m2,v,w,vs,us,n,n2,hc,hd,hf,hm,I5,z,p,tt,li,li2,eh,eh2,q,q2,?_⟩;have dij:d≠f:=λq=>zd (g.inj _ _ _ _ _ ei ej hd (q▸hf));exact⟨ne ep e hb ha (by simp),ne et e hc ha (by simp),ne ei e hd ha (by simp),ne ej e hf ha (by simp),ne ep et hb hc (by simp),ne ep ei hb hd (by simp),ne ep ej hb hf (by simp),ne et ei hc hd (by simp),ne et ej hc hf (by simp),dij,
  ne el e hm ha (by simp),ne el et hm hc (by simp),ne el ei hm hd (by simp),ne el ej hm hf (by simp),ne MD e I5 ha (by simp),ne MD et I5 hc (by simp),ne MD ei I5 hd (by simp),ne MD ej I5 hf (by simp)⟩
theorem X.O7{kO kk}(e:σ.get it=aa (.zip pn t))(ep:σ.get pn=aa (.pr i j))(et:σ.get t=aa .two)(ei:σ.get i=aa (.ix l k))(ej:σ.get j=aa (.ix l2 k))(el:σ.get l=aa (.list xs))(MD:σ.get l2=aa (.list ys))(zd:i≠j)(hx:xs[k]?=aa c)(hy:ys[k]?=aa d):
  eC G (.Tuple kO kk p) it σ (.tup [c,d]) ((σ.set i (.ix l (k+1))).set j (.ix l2 (k+1))):=by
 intro α s a E g ha;obtain⟨b,c',dd,f,m,m2,v,w,vs,us,n,n2,hc,hd,hf,hm,I5,Z⟩:=g.Oo e ep et ei ej el MD zd ha;refine aR (Z.q.get hx) λy1 hy1 ry1=>?_;refine aR (Z.q2.get hy) λy2 hy2 ry2=>?_;refine wpAny_pyNext_zip_item Z.D Z.z Z.p Z.t Z.s Z.l ⟨_,Z.e1,U,_,U⟩ ⟨_,Z.e2,U,_,U⟩ (x:=y1) (y:=y2) (by rw[bH];exact hy1) (by rw[bH];exact hy2) λh' a1 a2 a3 a4 a5 asz a6=>⟨_,U,λE=>?_⟩;refine wpAny_letOwnedTupleGo_zip a1 λh3 z3 s3=>?_;have s3:gQ a h' h3:=s3;have up:∀c o,c≠a->h'.get? c=aa o->h3.get? c=aa o:=λc o n q=>s3.extBut _ _ n q;have T:=g.BX (h3:=h3) (ai':=.ix l (k+1)) (aj':=.ix l2 (k+1)) e et ei ej ha hc hd hf zd (λb o n1 n2 n3 n4 q=>up b o n1 (a6 b o n1 n2 n3 n4 q)) (g.BZ e ha Z.z z3) ⟨_,_,up _ _ Z.D.TOz a2⟩
  (by obtain⟨o,e1,r⟩:=a3;exact⟨m,hm,o,up _ _ Z.D.i1z e1,r⟩) (by obtain⟨o,e1,r⟩:=a4;exact⟨m2,I5,o,up _ _ Z.D.i2z e1,r⟩) s.toks
 exact⟨α,T.1,T.2,g.BY (β:=α) e ha (up _ _ (g.Fj e ha) a5) (ry1.mono T.1) (ry2.mono T.1)⟩
theorem D.O7(hh:G.A.handled=none)(e:σ.get it=aa (.zip pn t))(ep:σ.get pn=aa (.pr i j))(et:σ.get t=aa .two)(ei:σ.get i=aa (.ix l k))(ej:σ.get j=aa (.ix l2 k))(el:σ.get l=aa (.list xs))(MD:σ.get l2=aa (.list ys))(zd:i≠j)(hk:xs.length=k):eX G it σ ((((σ.del it).del t).del i).del j):=by
 intro α s a E g ha;obtain⟨b,c',d,f,m,m2,v,w,vs,us,n,n2,hc,hd,hf,hm,I5,Z⟩:=g.Oo e ep et ei ej el MD zd ha;exact wpAny_pyNext_zip_end hh Z.D Z.z Z.p Z.t Z.s Z.l ⟨_,Z.e1,U,_,U⟩ ⟨_,Z.e2,U,_,U⟩ (.inl (by rw[bH];exact d9 (by rw[Z.q.length,hk];exact aW k))) λh' k'=>g.B0 e et ei ej ha hc hd hf k'
end
section
open PyProof
variable{G:Gv}{σ:St}{ns:List Int}
theorem tA{a b: Bool}:bN G (bS .Is) (.bool a) (.bool b) σ (.bool (a==b)) σ:=by
 rintro α s _ _ E g rfl rfl;exact is_bool (g.here U)
theorem DG{x: Str}(kL:eG (Txt.upper x).length=false):bM G (λvs=>call (.builtin "str.upper") vs) [.str x] σ (.str (Txt.upper x)) σ:=
 Wt λα s t E g=>SC.upper kL (g.fh ⟨_,U⟩)
theorem list_count{k}{i: Int}(e:σ.get k=aa (.list (ns.map .int))):bM G (λvs=>call (.builtin "list.count") vs) [.ref k,.int i] σ (.int (ns.countP (·==i):Nat)) σ:=by
 refine G' e λα s a vs n E w g ha eh q sz r2=>?_;obtain⟨t,rfl⟩:=r2;have hi:=q.ints;refine call_meets jc ⟨_,eh,U⟩ PySem.F.entry_list_count (PySem.F.args_list_count_2 _ _) (MeetsSeq.list_count a vs.toArray n (.int i t) (isInt i) (λy hy=>eq_isInt i t hi y (by simpa using hy))) ⟨eh,?_⟩;have e2:vs.toArray.toList.countP (isInt i)=ns.countP (·==i):=by
  show vs.countP (isInt i)=_;clear eh ha q sz e
  induction hi with
  |nil=>rfl
  |cons n t h ih=>rw[List.countP_cons,List.countP_cons,ih];rfl
 rw[e2];exact g.fh ⟨_,U⟩
theorem di.ofInts{α: AM}{h: Heap}{vs: List aq}(q:IntsAre vs ns):di α h (ns.map .int) vs:=by
 induction q with
 |nil=>rfl
 |cons n t q ih=>exact⟨_,_,U,⟨t,U⟩,ih⟩
theorem JW:∀{a b:List Int},a.Perm b->a.Pairwise (·<=·)->b.Pairwise (·<=·)->a=b:=lks_uniq
theorem yo{k}{xs ys: List Int}(e:σ.get k=aa (.list (xs.map .int)))(Eu:xs.length<64)(hp:ys.Perm xs)(ho:ys.Pairwise (·<=·)):bM G (λvs=>call (.builtin "sorted") vs) [.ref k] σ (.ref σ.n) (σ.push (.list (ys.map .int))):=by
 refine Wu e λα s a vs n E g ha eh q sz=>?_;have hl:vs.length=xs.length:=by rw[q.length,aG]
 refine sorted_ints (vs:=vs) ⟨_,eh,U,_,U⟩ q.ints (hl▸Eu) λout ss' h1 h2 h3=>?_;obtain rfl:=JW (h2.trans hp.symm) h3 ho;obtain⟨ee,he⟩:=sortedAll_at s.heap vs out;have t:=g.more (h':=sortedAll s.heap vs out) (ao:=.list (ss'.map .int)) (a:=s.heap.objs.size+1) (λb o=>sortedAll_old) (by
  cases z:s.heap.get? (s.heap.objs.size+1)with
  |none=>rfl
  |some o=>exact absurd (bx z) (Nat.not_lt.mpr (cm _))) (λle=>⟨out.toList,ee,he,di.ofInts h1⟩) s.toks
 exact⟨_,t.1,t.2,_,U,AM.fQ _ _ _⟩
end
section
open PyProof
variable{c:Int}
mutual
theorem wO:∀c:CV,ny (λk=>k) c=c
 |.none=>U
 |.bool _=>U
 |.int _=>U
 |.str _=>U
 |.val _=>U
 |.ref _=>U
 |.tup l=>congrArg CV.tup (og l)
theorem og:∀cs:List CV,cK (λk=>k) cs=cs
 |[]=>U
 |c::cs=>by rw[show cK (λk=>k) (c::cs)=ny (λk=>k) c::cK (λk=>k) cs from U,wO c,og cs]
end
theorem LV(ao:AO):ao=Xq (λk=>k) ao:=by
 cases ao with
 |list xs=>exact congrArg AO.list (og xs).symm
 |cell c=>cases c with
  |none=>rfl
  |some c=>exact congrArg (λc=>AO.cell (aa c)) (wO c).symm
 |y7 cs i=>exact congrArg (AO.y7 · i) (og cs).symm
 |bT C d xs=>exact congrArg (AO.bT C d) (og xs).symm
 |fn g =>
  obtain⟨q,pa,b,sc,cl⟩:=g;exact congrArg (λl=>AO.fn ⟨q,pa,b,sc,l⟩) (List.map_id cl).symm
 |_=>rfl
theorem OI.swap(x:J0 (λk=>k) α β)(o:OI G α h a ao):OI G β h a ao:=by
 cases ao with
 |frame m =>
  obtain⟨mf,n,k⟩:=o;refine⟨mf,n,λy c hx=>?_⟩;obtain⟨v,hv,w⟩:=k y c hx;exact⟨v,hv,VR.th x c (by rw[wO];exact w)⟩
 |any=>exact o
 |_=>exact OI.th x (LV _) o
noncomputable def AM.lend(α:AM)(a:Nat):AM:=⟨α.f,λb=>α.O b/\b≠a,λb=>α.R b∨b=a⟩
theorem GS.lend(g:GS G α σ s)(e:σ.get d=aa ao)(ha:α.f d=aa a):GS G (α.lend a) (σ.del d) s:=by
 have oa:=g.ow _ _ _ e ha;have R:J0 (λk=>k) α (α.lend a):=⟨λzz zz h=>h,λb f n=>⟨λq=>f q.1,λq=>q.elim n λz=>f (z▸oa)⟩⟩;refine⟨λk o h=>?_,λk o b h hb=>?_,λb o h=>⟨λq=>(g.base b o h).1 q.1,(g.base b o h).2⟩,λi j o1 o2 b h1 h2=>g.inj _ _ _ _ _ (gm h1).2 (gm h2).2,g.new,λb q=>g.lt b q.1,λb q=>?_,g.os,g.bare⟩
 ·obtain⟨b,hb,r⟩:=g.own k o (gm h).2
  exact⟨b,hb,r.swap R⟩
 ·refine⟨g.ow k o b (gm h).2 hb,λz=>(gm h).1 ?_⟩
  subst z;exact g.inj _ _ _ _ _ (gm h).2 e hb ha
 ·rcases q with q|rfl
  ·obtain⟨o,ho,f⟩:=g.qf b q;exact⟨o,ho,λz=>f z.1⟩
  ·obtain⟨o,ho⟩:=g.lt b oa;exact⟨o,ho,λz=>z.2 U⟩
noncomputable def AM.back(β:AM)(a:Nat)(α:AM):AM:=⟨β.f,λb=>b=a∨β.O b,α.R⟩
theorem GS.back{ao: AO}{ob: Obj}(x:Le (α.lend a) h β s.heap)(g:GS G β τ s)(hd:α.f d=aa a)(oa:α.O a)(eo:h.get? a=aa ob)
  (hb:∀o,G.h₀.get? a≠aa o) (hR:¬α.R a) (hn:dh τ.objs d=none) (o:OI G (β.back a α) s.heap a ao):Le α h (β.back a α) s.heap/\GS G (β.back a α) ⟨(d,ao)::τ.objs,τ.n⟩ s:=by
 have WB:β.off a:=x.off (show(α.lend a).off a from λq=>q.2 U) eo;have rs:β.R=(α.lend a).R:=x.rs;have R:J0 (λk=>k) β (β.back a α):=⟨λzz zz h=>h,λb f n=>by
  rw[rs]at n;exact⟨λq=>q.elim (λz=>n (.inr z)) f,λq=>n (.inl q)⟩⟩
 have look:∀{k o},St.get ⟨(d,ao)::τ.objs,τ.n⟩ k=aa o->(k=d/\o=ao)∨(k≠d/\τ.get k=aa o):=λ{k o} h=>by
  have h:(match br k d with|true=>aa ao|false=>dh τ.objs k)=aa o:=h;cases z:br k d with
  |true=>rw[z]at h;cases h;exact .inl ⟨a9 z,U⟩
  |false=>rw[z]at h;exact .inr ⟨λq=>(by rw[q,cD]at z;cases z),h⟩
 have hd':β.f d=aa a:=x.le d aE a hd;refine⟨⟨x.le,λb q=>?_,U,λb o f e=>x.keep b o (λq=>f q.1) e⟩,⟨λk o' h=>?_,λk o' b h hk=>?_,λb o' h=>⟨λq=>?_,(g.base b o' h).2⟩,λi j o1 o2 b h1 h2 f1 f2=>?_,g.new,λb q=>?_,λb q=>?_,g.os,g.bare⟩⟩
 ·rcases q with rfl|q
  ·exact .inl oa
  ·exact(x.new b q).imp (λz=>z.1) id
 ·rcases look h with⟨rfl,rfl⟩|⟨n,h⟩
  ·exact⟨a,hd',o⟩
  ·obtain⟨b,hk,r⟩:=g.own k o' h
   exact⟨b,hk,r.swap R⟩
 ·rcases look h with⟨rfl,rfl⟩|⟨n,h⟩
  ·exact .inl (bR (hk.symm.trans hd'))
  ·exact .inr (g.ow k o' b h hk)
 ·rcases q with rfl|q
  ·exact hb _ h
  ·exact(g.base b o' h).1 q
 ·rcases look h1 with⟨u1,_⟩|⟨n1,k1⟩
  ·rcases look h2 with⟨u2,_⟩|⟨n2,k2⟩
   ·exact u1.trans u2.symm
   ·rw[u1]at f1
    cases hd'.symm.trans f1;exact absurd (g.ow _ _ _ k2 f2) WB
  ·rcases look h2 with⟨u2,_⟩|⟨n2,k2⟩
   ·rw[u2]at f2
    cases hd'.symm.trans f2;exact absurd (g.ow _ _ _ k1 f1) WB
   ·exact g.inj _ _ _ _ _ k1 k2 f1 f2
 ·rcases q with rfl|q
  ·exact o.live
  ·exact g.lt b q
 ·obtain⟨o1,h1,f⟩:=g.qf b (by rw[rs];exact .inl q)
  refine⟨o1,h1,λz=>z.elim (λe=>?_) f⟩;subst e;exact hR q
noncomputable def runK{γ:Type}(n:Nat)(lt:Nat->Nat->Bool):KasT γ->Option γ
 |.ret a=>aa a
 |.ask i j k=>match cf i n&&cf j n with
  |true=>runK n lt (k (lt i j))
  |false=>none
theorem Cr{γ:Type}{lt:Nat->Nat->Bool}{cmp:Nat->Nat->(Bool->aA->Prop)->aA->Prop}{Q:γ->aA->Prop}{a:γ}(hc:∀i j C,i<n->j<n->C (lt i j) s->cmp i j C s)(hq:Q a s):
  ∀t:KasT γ,runK n lt t=aa a->t.kasWp cmp Q s
 |.ret b,h=>by cases h;exact hq
 |.ask i j k,h=>by
  have h:(match cf i n&&cf j n with|true=>runK n lt (k (lt i j))|false=>none)=aa a:=h;cases z:cf i n&&cf j n with
  |false=>rw[z]at h;cases h
  |true =>
   rw[z]at h;rw[aV]at z;exact hc i j _ (Nat.blt_eq.mp z.1) (Nat.blt_eq.mp z.2) (Cr hc hq (k (lt i j)) h)
theorem r_{prog:cY}{w:cW}{A:bZ}{R:Result->aA->Prop}{S: Addr}{a: Int}{t u v:Tok}{n c₀: Nat}(hh:A.handled=none)(hr:IsRange s.heap r a b c t u v)(Bt:dF a b c=af)
  (hn:cX a b c=n) (dw:n<=2^24) (hS:s.heap.get? S=aa {cls:=.type "list",data:=.seq #[] c₀})
  (hR:∀h' tk M_ c',(∀b o,b≠S->s.heap.get? b=aa o->h'.get? b=aa o)->h'.get? S=aa {cls:=.type "list",dict:=none,data:=.seq M_ c',slots:=#[]} ->
   ItemsOf (λi v=>∃t,v=.int (a+i*c) t) M_ n->R (.ok (.ret (.ref S))) {s with heap:=h',toks:=tk}):codeAny (ba prog w) A (.builtin "list.__iadd__" ⟨[.ref S,.ref r],[]⟩) R s:=by
 refine mJ F.entry_list_iadd ?_;rw[fT F.plain_list_iadd _];exact wpAny_extend_range (A:=A) hh hr Bt hn dw S _ c₀ hS hR
theorem uQ{prog:cY}{w:cW}{A:bZ}{E:aq->aA->Prop}{Q:List aq->aA->Prop}{a: Int}{t u v:Tok}{n: Nat}(hh:A.handled=none)(hr:IsRange s.heap r a b c t u v)(Bt:dF a b c=af)
  (hn:cX a b c=n) (dw:n<=2^24) (hQ:∀h' tk acc,(∀b o,s.heap.get? b=aa o->h'.get? b=aa o)->ItemsOf (λi v=>∃t,v=.int (a+i*c) t) acc n->Q acc.toList {s with heap:=h',toks:=tk}):
  aH (ba prog w) A (collect (.ref r)) Q E s:=by
 unfold collect;refine ae (wpAny_runValue (mJ F.entry_proto_collect ?_));rw[fT F.plain_proto_collect _];show aH _ A.in1 (newList [] >>= λl=>again (.builtin "list.__iadd__" ⟨[l,.ref r],[]⟩)) _ _ s;refine ae (d7 ?_);refine av ⟨lR F.plain_list_iadd _,r_ (n:=n) (c₀:=0) hh (aC _ hr) Bt hn dw (aJ _ U) λh' tk M_ c' hk hS pL=>?_⟩;show aH _ A (load s.heap.objs.size >>= _) _ _ _;refine ae (wpAny_load hS ?_);exact av (hQ h' tk M_ (λb o e=>hk b o (bL (bx e)) (aC _ e)) pL)
end
section
open PyProof
variable{G:Gv}{σ:St}{r n L:Nat}{a b c:Int}{g:k7}{kz:List Int}{p:List Nat}{frs:Nat->List (Str×CV)}{s:aA}{acc:List aq}{i j k:Nat}{ao:AO}{l:List (Nat×AO)}
noncomputable abbrev nT(σ:St)(kz:List Int)(i:Nat):St:=⟨(σ.n+2,.list ((kz.take i).map .int))::σ.objs,σ.n+3+i⟩
theorem cN(h:k≠j):dh ((j,ao)::l) k=dh l k:=by
 show(match br k j with|true=>aa ao|false=>dh l k)=_;rw[oR h]
theorem eV:dh ((k,ao)::l) k=aa ao:=by
 show(match br k k with|true=>aa ao|false=>dh l k)=_;rw[cD]
theorem MX(h:k<n):k≠n+j:=bL (aM h (bg n j))
theorem zM(j:Nat)(h:0<j:=by decide):n≠n+j:=bL (gD h)
theorem tO(hk:k<σ.n)(e:σ.get k=aa ao):(nT σ kz i).get k=aa ao:=(cN (MX hk)).trans e
theorem CM{α: AM}{x: Nat}{xs: List CV}(g:GS G α σ s)(e:σ.get k=aa (.list xs))(hx:α.f k=aa x):∃vs m,s.heap.get? x=aa (fg vs m)/\di α s.heap xs vs:=by
 obtain⟨y,hy,vs,m,eh,q⟩:=g.own _ _ e;cases hy.symm.trans hx;exact⟨vs,m,eh,q⟩
theorem DD{x: Int}(h:kz[i]?=aa x):kz.take (i+1)=kz.take i++[x]:=by rw[List.take_add_one,h];rfl
theorem yv{o o': AO}:St.set ⟨(k,o)::l,n⟩ k o'=⟨(k,o')::l,n⟩:=by
 show St.mk (match br k k with|true=>(k,o')::l|false=>(k,o)::lU l k o') n=_;rw[cD]
theorem rP(h:j≠k):∀{l:List (Nat×AO)},dh (xu k l) j=dh l j:=by
 intro l
 induction l with
 |nil=>rfl
 |cons q l ih =>
  obtain⟨i,o⟩:=q;unfold xu;cases z:br k i with
  |true=>exact ih.trans (cN λe=>h (e.trans (a9 z).symm)).symm
  |false =>
   show(match br j i with|true=>aa o|false=>dh (xu k l) j)=match br j i with|true=>aa o|false=>dh l j
   rw[ih]
theorem Gr{prog:cY}{w:cW}{A:bZ}{E:aq->aA->Prop}{s: aA}{P:PySem.Fin->aA->Prop}{D K e1 m: Nat}{vs ks: List aq}{p: Array Nat}(hk:IntsAre ks kz)(hl:ks.length=vs.length)(h2:2<=vs.length)(Eu:vs.length<64)
  (eK:s.heap.get? K=aa (fg ks m)) (eD:s.heap.get? D=aa (fg [] e1)) (su:K≠D) (hp:runK vs.length (λi j=>decide (kz.getD i 0<kz.getD j 0)) (kas_sort vs.length)=aa p) (hpb:p.toList.length<64)
  (h:P (.done (.ret .none)) {s with heap:=(s.heap.update K (cV λzz=>#[])).update D (cV λzz=>(p.toList.map λi=>vs.getD i .none).toArray)}):aH (ba prog w) A (ksk_end D false vs.toArray e1 (.ref K) ks.toArray) P E s:=by
 unfold ksk_end;dsimp only;rw[if_neg aN,if_neg (show ¬vs.toArray.size<2 by rw[a_];exact Nat.not_lt.mpr h2),if_neg (show ¬vs.toArray.size<2 by rw[a_];exact Nat.not_lt.mpr h2),if_neg aN];rw[ksk_kind (keys:=ks.toArray) hk (by rw[a_,hl];exact h2)];refine ae (av ?_);have kd:∀i,i<vs.length->∃t,ks.getD i .none=.int (kz.getD i 0) t:=by
  intro i hi;rw[←hl]at hi;clear hl h2 Eu eK hp hpb h
  induction hk generalizing i with
  |nil=>exact absurd hi (Nat.not_lt_zero _)
  |cons n t _ ih =>
   cases i with
   |zero=>exact⟨t,U⟩
   |succ i=>exact ih _ (ki hi)
 refine ae (dz (kat_run (vs:=vs) (ks:=ks) (κ:=oneType') (Q:=λT9 xS=>(arrOf T9).map (·.2)=(p.toList.map λi=>vs.getD i .none).toArray/\failedOf T9=none/\xS=s) (G:=λq xS=>q=p/\xS=s) hl h2 Eu
  (λq T9 xS hq har hf hg=>?_) (Cr (n:=vs.length) (a:=p) (λi j C hi hj hC=>?_) ⟨U,U⟩ _ hp)) ?_ λzz zz x=>x)
 ·obtain⟨rfl,rfl⟩:=hg
  exact⟨by rw[kat_snds hl har],hf,U⟩
 ·obtain⟨t,e⟩:=kd i hi
  obtain⟨u,e'⟩:=kd j hj;show aH _ _ (keyLt' oneType' (ks.getD i .none) (ks.getD j .none)) _ _ _;rw[e,e'];exact kat_lt_int hC
 ·rintro⟨⟨⟩,T9⟩ s' ⟨q1,q2,rfl⟩
  dsimp only at q1 q2 ⊢;unfold ksk_tail;dsimp only;rw[q1,q2];have kL:vs.length<=bC:=by rw[fz];lia
  refine ae (il eK U ?_ (by rw[a_,hl];exact kL) (bJ _));refine ae (wpAny_letGo ?_);have eD2:(s'.heap.update K (cV λzz=>(#[]:Array aq))).get? D=aa (fg [] e1):=by rw[Heap.get?_update_ne _ _ _ _ su.symm];exact eD
  refine ae (seqEpoch_at eD2 U ?_);have rN:p.toList.length<=bC:=by rw[fz];lia
  refine ae (il eD2 U ?_ (bJ _) (by rw[if_neg aN,a_,aG];exact Nat.le_succ_of_le rN));simp only[bne_self_eq_false,dG,if_false];exact av h
theorem yn{prog:cY}{w:cW}{A:bZ}{E:aq->aA->Prop}{Q:aq->aA->Prop}{ra fa: Nat}{t u v:Tok}(hh:A.handled=none)(hr:IsRange s.heap ra a b c t u v)(hs:dF a b c=af)(hn:cX a b c=L)(Eu:L<64)
  (h:∀h5 D e1 tk (acc:List aq),acc.length=L->(∀(i:Nat)(v:aq),acc[i]?=aa v->∃t,v=Value.int (a+i*c) t)->(∀b o,s.heap.get? b=aa o->h5.get? b=aa o)->(∀i,s.heap.get? (D+i)=none)->h5.get? D=aa (fg [] e1)->(∃o,h5.get? (D+1)=aa o)->h5.get? (D+2)=aa (fg [] 0) ->
   ∀P':PySem.Fin->aA->Prop,(∀s',Q (.ref D) s'->P' (.done (.ret .none)) s')->aH (ba prog w) A.in1.in1 (ksk_rest D (.ref fa) false acc.toArray e1 (.ref (D+2))) P' E {s with heap:=h5,toks:=tk}):
  aH (ba prog w) A (call (.builtin "sorted") [.ref ra] [(aF "key",.ref fa)]) Q E s:=by
 have kL:L<=bC:=by rw[fz];exact au (bX Eu) ay
 refine call_function_entry_kw kind_sorted plain_sorted entry_sorted (ksk_s1 _ _) ?_;unfold dg.«sorted»;refine ae (m:=checkCount "sorted" 1 1 _) (av ?_);refine ae (uQ (A:=A.in1) hh hr hs hn (au (bX Eu) ay) λh1 AG acc Un hI=>?_);have uN:acc.toList.length=L:=by rw[du,hI.1]
 refine ae (wpAny_newList ?_ (by rw[uN];exact kL));have eD:(h1.push (fg acc.toList 0)).get? h1.objs.size=aa (fg acc.toList 0):=aJ _ U;refine ae (aQ (wpAny_call_entry_kw slot_list_sort ⟨_,eD,U⟩ entry_list_sort ?body (ksk_l1 _ _)));rw[ksk_t1];unfold ksk_tree;refine ae (listItems_at eD U ?_);refine ae (il eD U ?_ (by rw[a_,uN];exact kL) (bJ _));obtain⟨e1,eD3⟩:∃e1,((h1.push (fg acc.toList 0)).update h1.objs.size (cV λzz=>#[])).get? h1.objs.size=aa (fg [] e1):=⟨_,get?_update_seq eD (λzz=>#[])⟩;have k3:∀b o,h1.get? b=aa o->((h1.push (fg acc.toList 0)).update h1.objs.size (cV λzz=>#[])).get? b=aa o:=λb o e=>by
  rw[Heap.get?_update_ne _ _ _ _ (bL (bx e))];exact aC _ e
 have z3:((h1.push (fg acc.toList 0)).update h1.objs.size (cV λzz=>#[])).objs.size=h1.objs.size+1:=by rw[Heap.size_update,fx]
 generalize (h1.push (fg acc.toList 0)).update h1.objs.size (cV λzz=>#[])=h3 at eD3 k3 z3;refine ae (seqEpoch_at eD3 U ?_);refine ae (wpAny_newTuple ?_ (by show acc.toList.length<=_;rw[uN];exact kL));refine ae (wpAny_newList ?_ (bJ _));refine aQ ?_;have z4:(h3.push {cls:=.type "tuple",data:=.seq acc.toList.toArray}).objs.size=h1.objs.size+2:=by rw[fx,z3]
 have e4:=aJ h3 (o:={cls:=.type "tuple",data:=.seq acc.toList.toArray}) U;have e5:=aJ (h3.push {cls:=.type "tuple",data:=.seq acc.toList.toArray}) (o:=fg [] 0) U;rw[z4]at e5;rw[z3]at e4;show aH _ _ (ksk_rest h1.objs.size (.ref fa) false acc.toList.toArray e1 (.ref (h3.push {cls:=.type "tuple",data:=.seq acc.toList.toArray}).objs.size)) _ _ _;rw[z4];refine h _ h1.objs.size e1 AG acc.toList uN (λi v hv=>hI.2 i v (by rw[←kB];exact hv)) (λb o e=>aC _ (aC _ (k3 b o (Un b o e)))) (λi=>?_) (aC _ (aC _ eD3)) ⟨_,aC _ e4⟩ e5 _ λs' hq=>⟨_,U,av ⟨_,U,hq⟩⟩;cases z:s.heap.get? (h1.objs.size+i)with
 |none=>rfl
 |some o=>exact absurd (bx (Un _ _ z)) (Nat.not_lt.mpr (bg _ _))
theorem IK{Uy: AM}{s0: aA}{E:aq->aA->Prop}{P:PySem.Fin->aA->Prop}{D K e1 fa: Nat}(hz:kz.length=L)(Eu:L<64)(uN:acc.length=L)(pL:∀(i:Nat)(v:aq),acc[i]?=aa v->∃t,v=Value.int (a+i*c) t)
  (key:∀i,i<L->SF (om (om G)) n [.int (a+i*c)] (nT σ kz i) (.int (kz.getD i 0)) ((nT σ kz i).push (.frame (frs i)))) (low:∀k ao,σ.get k=aa ao->k<σ.n)
  (g0:GS G Uy (nT σ kz 0) s0) (hfa:Uy.f n=aa fa) (fK:Uy.f (σ.n+2)=aa K)
  (h:∀β s' ks m,Le Uy s0.heap β s'.heap->GS G β (nT σ kz L) s'->s'.heap.get? K=aa (fg ks m)->di β s'.heap (kz.map .int) ks->aH G.M G.A.in1.in1 (ksk_end D false acc.toArray e1 (.ref K) ks.toArray) P E s'):
  aH G.M G.A.in1.in1 (ksk_rest D (.ref fa) false acc.toArray e1 (.ref K)) P E s0:=by
 have kL:L<=bC:=by rw[fz];exact au (bX Eu) ay
 have kK:∀i,σ.n+2≠σ.n+3+i:=λi=>bL (aM (bq (σ.n+2)) (bg _ i));unfold ksk_rest;refine ae (fU ?_)
 first
  |rw[List.forIn_toArray]
  |(rw[←Array.forIn_toList];simp only[iQ])
  |rw[←Array.forIn_toList]
 refine ae (ksk_fold (λi s'=>∃β,Le Uy s0.heap β s'.heap/\GS G β (nT σ kz i) s') acc 0 _ ⟨_,.refl _ _,g0⟩ ?step ?done)
 case step =>
  rintro j x s' hx ⟨β,le,Oi⟩;rw[gW]at Oi ⊢;have hj:j<L:=by rw[←uN];exact(List.getElem?_eq_some_iff.mp hx).1
  obtain⟨t,rx⟩:=pL j x hx;have kj:kz[j]?=aa (kz.getD j 0):=by rw[aU,aP (by rw[hz];exact hj)];rfl
  refine ae (ij (dz ((key j hj) β s' fa [x] (λzz zz=>False) Oi.in1.in1 (le.le _ aE _ hfa) ⟨x,[],U,⟨t,rx⟩,U⟩) (λv xS he=>?_) λzz zz hF=>hF.elim));obtain⟨γ,wX,gγ,t2,rfl⟩:=he;have gγ:=gγ.Vt.Vt;have fK2:γ.f (σ.n+2)=aa K:=wX.le _ aE _ (le.le _ aE _ fK);have lK:((nT σ kz j).push (.frame (frs j))).get (σ.n+2)=aa (.list ((kz.take j).map .int)):=(cN (kK j)).trans eV;obtain⟨ks,m,eK,qK⟩:=CM gγ lK fK2;have Yd:=qK.length;rw[aG,iC,hz]at Yd;have Yd:ks.length<=bC:=Yd▸au (Nat.min_le_right _ _) kL;dsimp only;obtain⟨x7,g7⟩:=gγ.yw (ys:=(kz.take (j+1)).map .int) (ws:=ks++[.int (kz.getD j 0) t2]) (f:=λx=>x.push (.int (kz.getD j 0) t2)) lK fK2 eK (jW ..) (by rw[DD kj,bG];exact qK.append (di.one ⟨t2,U⟩)) xS.toks;refine ae (il eK U ?_ (by rw[a_];exact Yd) (by rw[Array.size_push,a_];exact Nat.succ_le_succ Yd));refine av ⟨U,γ,(le.trans wX).trans x7,g7.Tu (λk ao e=>?_) (aW _)⟩;rw[show(((nT σ kz j).push (.frame (frs j))).set (σ.n+2) (.list ((kz.take (j+1)).map .int))).get k=_ from fi _ _ k,show dh ((nT σ kz j).push (.frame (frs j))).objs (σ.n+2)=_ from lK];by_cases q:k=σ.n+2
  ·rw[if_pos q]
   rw[q,show(nT σ kz (j+1)).get (σ.n+2)=_ from eV]at e;exact e
  ·rw[if_neg q]
   rw[show(nT σ kz (j+1)).get k=_ from cN q]at e;exact(cN (bL (aM (low k ao e) (au (bg _ 3) (bg _ j))))).trans ((cN q).trans e)
 case done =>
  rintro s' ⟨β,le,Oi⟩;rw[gW,uN]at Oi;obtain⟨ks,m,eK,qK⟩:=CM Oi eV (le.le _ aE _ fK);rw[dj (d3 hz)]at qK;exact ae (listItems_at eK U (h β s' ks m le Oi eK qK))
theorem DT{γ: AM}{h: Heap}(uN:acc.length=L)(pL:∀(i:Nat)(v:aq),acc[i]?=aa v->∃t,v=Value.int (a+i*c) t)(p:List Nat):di γ h (p.map λi=>(lH a c L).getD i .none) (p.map λi=>acc.getD i .none):=by
 induction p with
 |nil=>rfl
 |cons i p ih =>
  refine⟨_,_,U,?_,ih⟩;show VR γ h ((lH a c L).getD i .none) (acc.getD i .none);unfold lH;rw[aU,aU,cM];by_cases hi:i<L
  ·rw[iT hi,aP (by rw[uN];exact hi)]
   exact pL i _ (aP (by rw[uN];exact hi))
  ·rw[d9 (by rw[dY];exact dm hi),d9 (by rw[uN];exact dm hi)];rfl
theorem qN(hh:G.A.handled=none)(er:σ.get r=aa (.n5 a b c))(hs:dF a b c=af)(hn:cX a b c=L)(h2:2<=L)(Eu:L<64)(hz:kz.length=L)
  (key:∀i,i<L->SF (om (om G)) n [.int (a+i*c)] (nT σ kz i) (.int (kz.getD i 0)) ((nT σ kz i).push (.frame (frs i))))
  (hp:runK L (λi j=>decide (kz.getD i 0<kz.getD j 0)) (kas_sort L)=aa p.toArray) (rN:p.length<64):
  SK G (λvs ws=>call (.builtin "sorted") vs ([So "key"].zip ws)) [.ref r] [.ref n] σ (.ref σ.n) ⟨(σ.n,.list (p.map λi=>(lH a c L).getD i .none))::σ.objs,σ.n+3+L⟩:=by
 rintro α s _ _ E g0 ⟨vr,_,rfl,rr,rfl⟩ ⟨vn,_,rfl,⟨fa,rfl,hfa⟩,rfl⟩;obtain⟨ra,t,u,w,rfl,hra,eh⟩:=g0.S1 er rr;have low:∀k ao,σ.get k=aa ao->k<σ.n:=λk ao e=>Nat.lt_of_not_le λh=>by
  obtain⟨x,hx,_⟩:=g0.own _ _ e;rw[g0.new _ h]at hx;cases hx
 refine yn hh eh hs hn Eu λh5 D e1 tk acc uN pL hk hD eD eD1 eK P' hP'=>?_;obtain⟨x2,g2⟩:=g0.vy (os:=[.list [],.any,.list []]) (h':=h5) (a:=D) hk (λi zz=>hD i) (λle i o hi=>by
  match i,hi with
  |0,hi=>cases hi;exact⟨[],e1,eD,U⟩
  |1,hi=>cases hi;exact eD1
  |2,hi=>cases hi;exact⟨[],0,eK,U⟩
  |i+3,hi=>cases hi) tk
 have fD:(α.kZ σ.n D [AO.list [],.any,.list []].length).f σ.n=aa D:=AM.d' (i:=0) ay;have fK:(α.kZ σ.n D [AO.list [],.any,.list []].length).f (σ.n+2)=aa (D+2):=AM.d' (i:=2) ay;have oD:(α.kZ σ.n D [AO.list [],.any,.list []].length).O D:=g2.ow _ _ _ (show(σ.n6 [.list [],.any,.list []]).get σ.n=aa (.list [])from(cN (zM 2)).trans ((cN (zM 1)).trans eV)) fD;have g5:=(g2.lend (d:=σ.n) (ao:=.list []) ((cN (zM 2)).trans ((cN (zM 1)).trans eV)) fD).Tu (σ':=nT σ kz 0) (λk ao e=>by
  by_cases q:k=σ.n+2
  ·rw[q]at e ⊢
   rw[show(nT σ kz 0).get (σ.n+2)=_ from eV]at e;exact(rP (Ne.symm (zM 2))).trans (eV.trans e)
  ·rw[show(nT σ kz 0).get k=_ from cN q]at e
   have hl:=low k ao e;exact(rP (bL hl)).trans ((cN (MX (j:=2) hl)).trans ((cN (MX (j:=1) hl)).trans ((cN (bL hl)).trans e)))) (aW _)
 refine IK hz Eu uN pL key low g5 (x2.le _ aE _ hfa) fK λβ s' ks m le Oi eK' qK=>?_;have eD':s'.heap.get? D=aa (fg [] e1):=le.keep _ _ (λq=>q.2 U) eD;have hki:=qK.ints;refine Gr (p:=p.toArray) hki (by rw[qK.length,aG,hz,uN]) (by rw[uN];exact h2) (by rw[uN];exact Eu) eK' eD' (Nat.ne_of_gt (gD ay)) (by rw[uN];exact hp) rN ?_;have eD7:(s'.heap.update (D+2) (cV λzz=>(#[]:Array aq))).get? D=aa (fg [] e1):=by rw[Heap.get?_update_ne _ _ _ _ (bL (gD ay))];exact eD'
 obtain⟨x7,g7⟩:=Oi.yw (ys:=[]) (ws:=[]) (f:=λzz=>#[]) eV (le.le _ aE _ fK) eK' U U s'.toks;have g7':=g7.Tu (σ':=⟨σ.objs,σ.n+3+L⟩) (λk ao e=>by
  rw[yv];exact(cN (MX (j:=2) (low k ao e))).trans e) (aW _)
 have nD:s.heap.get? D=none:=hD 0;obtain⟨x8,g8⟩:=g7'.back (α:=α.kZ σ.n D [AO.list [],.any,.list []].length) (h:=h5) (d:=σ.n) (ao:=.list []) (le.trans x7) fD oD eD (λo e=>by
   have:=(g0.base _ _ e).2;rw[nD]at this;cases this)
  (λq=>by
   obtain⟨o,ho,_⟩:=g0.qf _ q;rw[nD]at ho;cases ho)
  (by
   cases z:dh σ.objs σ.n with
   |none=>rfl
   |some o=>exact absurd (low _ _ z) (eE _)) ⟨[],e1,eD7,U⟩
 obtain⟨x9,g9⟩:=g8.yw (ys:=p.map λi=>(lH a c L).getD i .none) (ws:=p.toArray.toList.map λi=>acc.getD i .none) (f:=λzz=>(p.toArray.toList.map λi=>acc.getD i .none).toArray) eV (x8.le _ aE _ fD) eD7 U (DT uN pL p) s'.toks;rw[yv]at g9;exact hP' _ ⟨_,(x2.trans x8).trans x9,g9,_,U,x8.le _ aE _ fD⟩
end
section
open PyProof
variable{G:Gv}{e:Env}{σ σ1 σ2 σ3 Ae:St}{c:CV}{cs ks:List CV}{x:Str}{p pos:Pos}{args:List Expr}
theorem a8.Tz{id qp names}(hf:a8 G e (.Name x p) σ (.val (.builtin id)) σ1)(h:jK G e pos args σ1 cs σ2)(hk:l5 G e pos qp names σ2 ks σ3)(k:SK G (λvs ws=>call (.builtin id) vs (names.zip ws)) cs ks σ3 c Ae):
  a8 G e (.Call (.Name x p) args qp pos) σ c Ae:=by
 intro α s env E i g;refine wpAny_Call_Name_kw (J9 (hf α s env E i g) λβ s1 l1 g1=>?_);refine callWith_builtin_kwB (plain_any h.1) ?h1 (nF h.1 (hk.1 env).1 (iI (h.2 β s1 env E (i.mono l1) g1) λγ vs s2 l2 g2 r2=>?h2))
 case h1 =>
  have:=(hk.1 env).1;rw[List.all_eq_true]at this;rw[List.any_eq_false];intro q hq n;have:=this q hq;cases q.1<;>simp_all
 case h2 =>
  refine iI (hk.2 γ s2 env E ((i.mono l1).mono l2) g2) λδ ws s3 l3 g3 r3=>?_;rw[(hk.1 env).2];exact wQ (k δ s3 vs ws E g3 (r2.mono l3) r3) λzz zz w=>w.trans ((l1.trans l2).trans l3)
end
section
open PyProof
variable{G:Gv}{n m tk i k a r:Nat}{aX row:List Int}{dress pace:Int}{fr:List (Str×CV)}{os:List (Nat×AO)}{W:Nat->List Nat}
noncomputable abbrev wI:Str:=Sx [108,97,119]
theorem JV(P:ag)(f:Nat->Obj)(kt tk:Nat):(fq P f kt tk).get? 248=aa (Hn P kt tk):=by kernel_rfl
theorem OA(P:ag)(f:Nat->Obj)(kt tk:Nat):(fq P f kt tk).get? 247=aa (NJ P kt tk):=by kernel_rfl
theorem Za(P:ag)(kt tk:Nat):(Hn P kt tk).data=.func (nE 21 wI tk 247):=by kernel_rfl
theorem aO.JV{G n}(B:aO G n):∃tk,eZ G 248 (nE 21 wI tk 247)/\G.h₀.CodeRec (R 247) wI/\iA G.h₀ 247 245:=by
 obtain⟨f,kt,tk,es,ep,_,_,c⟩:=B.heap;have h1:=c _ _ (by rfl) (Mine.Internal.OA G.w.params f kt tk);exact⟨tk,⟨_,c _ _ (by rfl) (Mine.Internal.JV _ _ _ _),Za _ _ _⟩,dB h1 U U,oX h1 U U U U U U U U U⟩
noncomputable def qW:Nat->Nat->Str:=λzz zz=>wI++aF ".<locals>."++aF "<lambda>"
noncomputable abbrev eL(tk:Nat):Env:=entryE (nE 21 wI tk 247) [(So "ranks",5),(So "judge",4),(So "tell",3),(So "k",2),(So "line",1),(So "row",0)] 4 248
theorem WA(tk:Nat):jf (nE 21 wI tk 247) (fB (st 21)) [(So "ranks",5),(So "judge",4),(So "tell",3),(So "k",2),(So "line",1),(So "row",0)]:=⟨U,U,λL=>ak,ak,ak,ak,ak,ak⟩
theorem ZG{tk s}(a:aq):bW s (nE 21 wI tk 247) ⟨[a],[]⟩ [(So "script",a)]:=cB (K:=[]) (λzz zz h=>nomatch h) λS=>ak
noncomputable abbrev wS(ro li k te ju ra:Option CV)(fr:List (Str×CV))(os:List (Nat×AO))(n:Nat):St:=⟨os++[(10,.cell ra),(9,.cell ju),(8,.cell te),(7,.cell k),(6,.cell li),(5,.cell ro),(4,.frame fr),(3,.tab qb GU),(2,.tab mA yz),(1,.tab 238 qH),(0,.tab 245 qW)],n⟩
noncomputable abbrev wZ(fr:List (Str×CV))(os:List (Nat×AO))(n:Nat):St:=wS none none none none none none fr os n
noncomputable abbrev XA:St:=⟨[(3,.tab qb GU),(2,.tab mA yz),(1,.tab 238 qH),(0,.tab 245 qW)],4⟩
theorem Cq(l:List Nat):uZ (tx l) i=.str (tx [l.getD i 0]):=by
 unfold uZ
 congr 2
 simp[lQ]
theorem YV(B:aO G n):Glob G (So "_law_drawn") (.ref 210):=B.glob λzz zz zz zz=>ak
theorem YU(B:aO G n):Glob G (So "_law_typed") (.ref 217):=B.glob λzz zz zz zz=>ak
theorem YX(B:aO G n):Glob G (So "in_table_b1") (.ref 159):=B.glob λzz zz zz zz=>ak
theorem YW(B:aO G n):Glob G (So "map_table_b3") (.ref 205):=B.glob λzz zz zz zz=>ak
noncomputable def wW(aX:List Int):Nat->List Nat:=λk=>(FH (m8 aX 0) (m8 aX 1) (m8 aX 2)).getD k []
noncomputable abbrev FN(dress pace:Int)(more:List (Str×CV)):List (Str×CV):=[(So "words",.ref 11),(So "dress",.int dress),(So "pace",.int pace)]++more
seal a8 cS SS eY bM dD bN eC cU cI ef eX cR gc dJ jK SK SF l5 pD kP uv pQ ia
unseal st in
theorem lw0(B:aO G 6)(hh:G.A.handled=none)(hr:∃vs n,G.h₀.get? r=aa (fg vs n)/\IntsAre vs aX)(hl:aX.length<=1000)(e1:(iL aX).getD 3 0=dress)(e2:(iL aX).getD 4 0=pace)(eW:wW aX=W):
  SS G 11 (eL tk) (az (fB (st 21)) 0) (wZ [(So "script",.val (.ref r))] [] 11) .next (wZ (FN dress pace []) [(11,Av W)] 12):=by
 conv in az (fB (st 21)) 0=>whnf
 obtain⟨AG,D,_⟩:=(B.le (m:=5) U).Dk;subst eW e1 e2;refine .shp (.ig (.i_ D (.glob (YV B)) (.cons (.loc U U) .nil) (SK.sU (g:=λvs=>call (.ref 210) vs)
   (SK.rC (τ0:=⟨[],0⟩) (news:=[(11,Av (wW aX))]) (n':=12) (c:=.tup [.ref 11,.int ((iL aX).getD 3 0),.int ((iL aX).getD 4 0)]) (ks:=[]) (ks0:=[]) [] [(11,15)] U U U U U aE aE ⟨aD,aE⟩ (λh k=>VM ((B.le (m:=5) U).ext k) (hr.imp λzz h=>h.imp λzz h=>⟨k _ _ h.1,h.2⟩) hl) U U U)))
  (.tuple hh (.name (.loc (m':=[(So "script",.val (.ref r))]) U) (.name (.loc (m':=[(So "script",.val (.ref r)),(So "words",_)]) U) (.name (.loc (m':=[(So "script",.val (.ref r)),(So "words",_),(So "dress",_)]) U) .nil)))) (hw:=λenv h=>(bQ h).trans ak)) ?_
 exact gN.mk [(11,11)] U U ⟨aD,aD,aD,aD,aD,aD,aD,⟨_,U,_,U,U,U,U,aE⟩,aD,aD,aD,aD,aE⟩
end
section
open PyProof
variable{G:Gv}{n m tk i k r:Nat}{e:Env}{x:Expr}{σ σ1:St}{word text gs:List Nat}{dress pace:Int}{W:Nat->List Nat}{fold:Nat->List Nat}{b t u:Bool}{p1 p2 p3 p4 p5:Pos}{k1 k2:Nat}{more:List (Str×CV)}
theorem l7{v: Expr}{t: Option Expr}{env: Env}(h:env.scope=e.scope):swapsWith v t n env=swapsWith v t n e:=by
 cases env;cases e;cases h;rfl
noncomputable abbrev mX(text:List Nat):Nat->List CV:=dI λi=>.bool (sG (text.getD i 0:Nat))
theorem Be{r:Nat->Nat}:cK r (mX text k)=mX text k:=by
 unfold mX dI
 induction bc k with
 |nil=>rfl
 |cons i l ih=>exact congrArg (CV.bool (sG (text.getD i 0:Nat))::·) ih
theorem sk{r:Nat->Nat}:jt r (.list (mX text k)) (.list (mX text k)):=congrArg AO.list Be.symm
theorem Ce(h:i<k):(mX text k)[i]?=aa (.bool (sG (text.getD i 0:Nat))):=by unfold mX dI;rw[cM,iT h];rfl
theorem F6:(mX text k).length=k:=by unfold mX dI;rw[aG,dY]
theorem cS.val(h:cS G e x σ t σ1)(q:t=u):cS G e x σ u σ1:=q▸h
theorem LN{y: Expr}(h:a8 G e x σ (.bool b) σ)(h':a8 G e y σ (.bool b) σ):cS G e (.BoolOp .And [.Compare x [.IsNot] [.Constant (.bool af) k1 p1] p2,.Compare y [.IsNot] [.Constant (.bool false) k2 p3] p4] p5) σ false σ:=by
 cases b with
 |false=>exact .sa (.cmp h .bool mF) (.uj (.cmp h' .bool mF))
 |true=>exact .JX (.cmp h .bool mF)
noncomputable abbrev Cc(fold:Nat->List Nat)(gs:List Nat):List CV:=gs.map λc=>.str (tx (fold c))
theorem Iv{r:Nat->Nat}:cK r (Cc fold gs)=Cc fold gs:=by
 induction gs with
 |nil=>rfl
 |cons c l ih=>exact congrArg (CV.str (tx (fold c))::·) ih
theorem yK{r:Nat->Nat}:jt r (.list (Cc fold gs)) (.list (Cc fold gs)):=congrArg AO.list Iv.symm
theorem Cb(h:i<gs.length):(Cc fold gs)[i]?=aa (.str (tx (fold (gs.getD i 0)))):=by
 rw[cM,aP h,aU,aP h];rfl
noncomputable abbrev DZ(fold:Nat->List Nat)(gs:List Nat):Nat->List CV:=dI λi=>.str (tx (fold (gs.getD i 0)))
theorem yG:DZ fold gs gs.length=Cc fold gs:=by
 show(bc gs.length).map _=_
 conv=>rhs;rw[show Cc fold gs=gs.map _ from U,←lG gs 0]
 rw[f9];rfl
noncomputable abbrev one(c:Nat):List Nat:=[c]
noncomputable def cT(text:List Nat):List Nat:=text.filter λ(c:Nat)=>!sG c
noncomputable abbrev A4(text:List Nat):Nat->List CV:=outF (λi=>!sG (text.getD i 0:Nat)) λi=>.str (tx [text.getD i 0])
theorem G7:A4 text text.length=Cc one (cT text):=by
 unfold A4 outF cT
 conv=>rhs;rw[show Cc one _=List.map _ _ from U,←lG text 0]
 rw[List.filter_map,f9];rfl
theorem getD_in(h:i<text.length):text.getD i 0∈text:=by
 rw[aU,aP h];exact ew h
theorem tL:(cT text).length<=text.length:=kR _ _
noncomputable abbrev wB(W:Nat->List Nat)(dress pace:Int)(i:Nat)(more:List (Str×CV))(pre:List (Nat×AO))(n:Nat):St:=wZ (FN dress pace more) (pre++[(12,.ix 11 i),(11,Av W)]) n
noncomputable abbrev mW(w:List Nat)(more:List (Str×CV)):List (Str×CV):=[(So "word",.str (tx w))]++more
noncomputable abbrev mT(w t:List Nat)(more:List (Str×CV)):List (Str×CV):=mW w ([(So "text",.str (tx t))]++more)
noncomputable abbrev mD(w t:List Nat)(more:List (Str×CV)):List (Str×CV):=mT w t ([(So "told",.ref 13)]++more)
noncomputable abbrev mS(w t:List Nat)(more:List (Str×CV)):List (Str×CV):=mD w t ([(So "signs",.ref 14)]++more)
noncomputable abbrev mG(w t:List Nat)(more:List (Str×CV)):List (Str×CV):=mS w t ([(So "folds",.ref 15)]++more)
noncomputable abbrev ja:List Stmt:=fB (az (fB (st 21)) 1)
noncomputable abbrev oD(text:List Nat):List (Nat×AO):=[(13,.list (mX text text.length))]
noncomputable abbrev oS(text:List Nat):List (Nat×AO):=(14,.list (Cc one (cT text)))::oD text
noncomputable abbrev oG(fold:Nat->List Nat)(text:List Nat):List (Nat×AO):=(15,.list (Cc fold (cT text)))::oS text
seal a8 cS SS eY bM dD bN eC cU cI ef eX cR gc dJ jK SK SF l5 pD kP uv pQ ia
unseal st in
theorem wb0(B:aO G 6)(hh:G.A.handled=none)(hl:word.length<=1000)(hc:∀c∈word,32<=c/\c<=200)(e:kT dress pace word=text):
  SS G 13 (eL tk) (az ja 0) (wB W dress pace i (mW word []) [] 13) .next (wB W dress pace i (mT word text []) [] 13):=by
 conv in az ja 0=>whnf
 obtain⟨AG,D,_⟩:=(B.le (m:=5) U).Dj;exact e ▸ .assign (.i_ D (.glob (YU B)) (.cons (.loc U U) (.cons (.loc U U) (.cons (.loc U U) .nil))) (SK.sU (g:=λvs=>call (.ref 217) vs) (VL (B.le U) hh hl hc))) (.loc (m':=FN dress pace (mW word [])) U)
noncomputable abbrev wI1(W:Nat->List Nat)(dress pace:Int)(i:Nat)(word text:List Nat)(q:Nat):St:=wB W dress pace i (mT word text []) [(13,.rf (tx text) q)] 14
unseal st in
theorem wb1(B:aO G 6)(hh:G.A.handled=none)(hl:text.length<=1000):SS G 13 (eL tk) (az ja 1) (wB W dress pace i (mT word text []) [] 13) .next (wB W dress pace i (mD word text []) (oD text) 14):=by
 conv in az ja 1=>whnf
 refine .shp (.xH (mm:=[]) (it:=13) (c:=.str (tx text)) (σ1:=wB W dress pace i (mT word text []) [] 13) (σ2:=wI1 W dress pace i word text 0) (σ3:=(PP (wI1 W dress pace i word text text.length) (mX text text.length) []).del 13) 16 (cl:=[]) ak ak
  (.loc U U) qq (show 15<16 by decide) ?h3 (.loc (m':=FN dress pace (mT word text [])) U) U (λenv h=>(l7 h).trans ak)) ?hs
 case h3 =>
  exact cI.simple (N:=14) (n:=text.length) (wI1 W dress pace i word text) (λi=>.str (tx [text.getD i 0])) (λi=>[(So "sign",.str (tx [text.getD i 0]))]) (mX text) (λzz=>U) U (show 13<16 by decide) U U U (pZ _ _ _ _ _) (tb U) (λi hi=>⟨Cq text▸X.str U hi,.name (.loc (m':=[]) U),
   .pz (.i_ (B.defAt OD (fd:=Jl) λzz=>ak) (.glob (YX B)) (.cons (.loc U U) .nil) (SK.sU (g:=λvs=>call (.ref 159) vs) (VO (B.le U)))) U (kG (by lia)) gK⟩) (D.str hh U U)
 case hs=>exact gN.mk [(13,14)] U U ⟨⟨_,U,sk⟩,aD,aD,aD,aD,aD,aD,aD,aD,⟨_,U,_,U,U,U,U,U,U,U,aE⟩,aD,aD,aD,aD,aE⟩
noncomputable abbrev Vh(W:Nat->List Nat)(dress pace:Int)(i:Nat)(word text:List Nat)(q:Nat):St:=wB W dress pace i (mD word text []) ([(18,.zip 16 17),(17,.two),(16,.pr 14 15),(15,.ix 13 q),(14,.rf (tx text) q)]++oD text) 19
noncomputable abbrev frU(text:List Nat)(i:Nat):List (Str×CV):=[(So "sign",.str (tx [text.getD i 0])),(So "one",.bool (sG (text.getD i 0:Nat)))]
unseal st in
theorem wb2(B:aO G 6)(hh:G.A.handled=none)(hl:text.length<=1000):SS G 13 (eL tk) (az ja 2) (wB W dress pace i (mD word text []) (oD text) 14) .next (wB W dress pace i (mS word text []) (oS text) 15):=by
 conv in az ja 2=>whnf
 refine .shp (.xH (mm:=[]) (it:=18) (c:=.ref 18) (σ1:=Vh W dress pace i word text 0) (σ2:=Vh W dress pace i word text 0) (σ3:=((((PP (Vh W dress pace i word text text.length) (A4 text text.length) []).del 18).del 17).del 14).del 15) 21 (cl:=[]) ak ak
  (.jS (.glob (C9 B)) (.cons (.loc U U) (.cons (.loc U U) .nil)) (Kt U)) (qe U) (show 20<21 by decide) ?h3 (.loc (m':=FN dress pace (mD word text [])) U) U (λenv h=>(l7 h).trans ak)) ?hs
 case h3 =>
  refine cI.simple (N:=19) (n:=text.length) (Vh W dress pace i word text) (λi=>.tup [.str (tx [text.getD i 0]),.bool (sG (text.getD i 0:Nat))]) (frU text) (A4 text) (λzz=>U) U (show 18<21 by decide) U U U (yg _ _ _ _ _ _) (qe U) (λq hi=>⟨?_,?_,?_⟩) (D.zip hh U U U U U U U)
  ·rw[←Cq text];exact X.zip (it:=18) (σ:=PP (Vh W dress pace i word text q) (A4 text q) []) (x:=tx text) (xs:=mX text text.length) hh U U U U U U hi (Ce hi)
  ·exact .tuple hh (.name (.loc (m':=[]) U) (.name (.loc (m':=[(So "sign",.str (tx [text.getD q 0]))]) U) .nil))
  ·cases hb:sG (text.getD q 0:Nat)with
   |true =>
    rw[show A4 text (q+1)=A4 text q from(wu (b:=λi=>!sG (text.getD i 0:Nat)) (by rw[hb];rfl)).symm];exact .yj (.val (.cmp (.loc U U) .bool tA) (by rw[hb];rfl))
   |false =>
    exact .F9 (.val (.cmp (.loc U U) .bool tA) (by rw[hb];rfl)) (.pz (.loc U U) U (tv (by lia)) (tq (b:=λi=>!sG (text.getD i 0:Nat)) (by rw[hb];rfl)))
 case hs =>
  rw[G7];exact gN.mk [(13,13),(14,19)] U U ⟨⟨_,U,yK⟩,⟨_,U,sk⟩,aD,aD,aD,aD,aD,aD,aD,aD,⟨_,U,_,U,U,U,U,U,U,U,U,aE⟩,aD,aD,aD,aD,aE⟩
theorem TR(B:aO G n):eZ G 205 Jk:=by
 obtain⟨f,kt,tk,es,ep,_,_,c'⟩:=B.heap;exact⟨_,c' _ _ (by rfl) (OC _ _ _ _),ak⟩
noncomputable abbrev wI3(W:Nat->List Nat)(dress pace:Int)(i:Nat)(word text:List Nat)(q:Nat):St:=wB W dress pace i (mS word text []) ([(15,.ix 14 q)]++oS text) 16
unseal st in
theorem wb3(B:aO G 6)(hh:G.A.handled=none)(hl:text.length<=1000)(hf:∀c∈cT text,uu c (tx (fold c))):SS G 13 (eL tk) (az ja 3) (wB W dress pace i (mS word text []) (oS text) 15) .next (wB W dress pace i (mG word text []) (oG fold text) 16):=by
 have xW:(cT text).length<=1000:=au tL hl
 conv in az ja 3=>whnf
 refine .shp (.xH (mm:=[]) (it:=15) (c:=.ref 14) (σ1:=wB W dress pace i (mS word text []) (oS text) 15) (σ2:=wI3 W dress pace i word text 0) (σ3:=(PP (wI3 W dress pace i word text (cT text).length) (DZ fold (cT text) (cT text).length) []).del 15) 18 (cl:=[]) ak ak
  (.loc U U) (dP U) (show 17<18 by decide) ?h3 (.loc (m':=FN dress pace (mS word text [])) U) U (λenv h=>(l7 h).trans ak)) ?hs
 case h3 =>
  exact cI.simple (N:=16) (n:=(cT text).length) (wI3 W dress pace i word text) (λi=>.str (tx [(cT text).getD i 0])) (λi=>[(So "sign",.str (tx [(cT text).getD i 0]))]) (DZ fold (cT text)) (λzz=>U) U (show 15<18 by decide) U U U (pZ _ _ _ _ _) (fE U) (λq hi=>⟨X.names U U (Cb hi),.name (.loc (m':=[]) U),
   .pz (.i_ (TR B) (.glob (YW B)) (.cons (.loc U U) .nil) (SK.sU (g:=λvs=>call (.ref 205) vs) (VN (B.le U) (hf _ (getD_in hi))))) U (kG (by lia)) gK⟩) (D.list hh U U (by rw[aG]))
 case hs =>
  rw[yG];exact gN.mk [(13,13),(14,14),(15,16)] U U ⟨⟨_,U,yK⟩,⟨_,U,yK⟩,⟨_,U,sk⟩,aD,aD,aD,aD,aD,aD,aD,aD,⟨_,U,_,U,U,U,U,U,U,U,U,U,aE⟩,aD,aD,aD,aD,aE⟩
end
section
open PyProof
variable{G:Gv}{n tk i k:Nat}{x:Expr}{σ σ1:St}{l word text gs:List Nat}{dress pace:Int}{W:Nat->List Nat}{fold:Nat->List Nat}
noncomputable def Nn(l:List Nat):List Nat:=(Txt.upper (tx l)).cps.toList
theorem Nl(l:List Nat):Txt.upper (tx l)=tx (Nn l):=rfl
noncomputable def h8(fold:Nat->List Nat)(c:Nat):List Nat:=bif fold c==[c]then fold c else Nn (fold c)
structure xM(word text:List Nat)(fold:Nat->List Nat):Prop where
 each:∀c∈cT text,uu c (tx (fold c))/\Txt.lower (tx (fold c))=tx (fold c)/\(fold c).length<=1000/\(Nn (fold c)).length<=1000
 back:((cT text).map (h8 fold)).flatten=word
theorem tD(h:l.length<=1000):eG (tx l).length=false:=decide_eq_false (Nat.not_lt.mpr (au h (by rw[fz];decide)))
theorem Bh(h:Txt.lower (tx l)=tx l)(hl:l.length<=1000):bM G (λvs=>call (.builtin "str.lower") vs) [.str (tx l)] σ (.str (tx l)) σ:=by
 have:=uW (G:=G) (σ:=σ) (x:=tx l) (by rw[h];exact tD hl)
 rwa [h]at this
theorem Ax(hl:(Nn l).length<=1000):bM G (λvs=>call (.builtin "str.upper") vs) [.str (tx l)] σ (.str (tx (Nn l))) σ:=by
 have:=DG (G:=G) (σ:=σ) (x:=tx l) (by rw[Nl];exact tD hl)
 rwa [Nl]at this
theorem Dy:Cc (h8 fold) gs=(gs.map (h8 fold)).map λx=>.str (tx x):=by rw[f9];rfl
noncomputable abbrev mO(w t:List Nat)(more:List (Str×CV)):List (Str×CV):=mG w t ([(So "odd",.ref 16)]++more)
noncomputable abbrev oO(fold:Nat->List Nat)(text:List Nat):List (Nat×AO):=(16,.list [])::oG fold text
noncomputable abbrev wI4(W:Nat->List Nat)(dress pace:Int)(i:Nat)(word text:List Nat)(fold:Nat->List Nat)(q:Nat):St:=wB W dress pace i (mG word text []) ([(16,.ix 13 q)]++oG fold text) 17
noncomputable abbrev wI5(W:Nat->List Nat)(dress pace:Int)(i:Nat)(word text:List Nat)(fold:Nat->List Nat)(q:Nat):St:=wB W dress pace i (mG word text []) ([(19,.ix 15 q),(17,.list [])]++oG fold text) 20
noncomputable abbrev Vg(W:Nat->List Nat)(dress pace:Int)(i:Nat)(word text:List Nat)(fold:Nat->List Nat)(q:Nat):St:=wB W dress pace i (mO word text []) ([(22,.zip 20 21),(21,.two),(20,.pr 18 19),(19,.ix 15 q),(18,.ix 14 q),(17,.list [])]++oO fold text) 23
seal a8 cS SS eY bM dD bN eC cU cI ef eX cR gc dJ jK SK SF l5 pD kP uv pQ ia
unseal st in
theorem wb4(B:aO G 6)(hh:G.A.handled=none)(hl:text.length<=1000)(H:xM word text fold):SS G 13 (eL tk) (az ja 4) (wB W dress pace i (mG word text []) (oG fold text) 16) .next (wB W dress pace i (mO word text []) (oO fold text) 17):=by
 have xW:(cT text).length<=1000:=au tL hl
 conv in az ja 4=>whnf
 refine .shp (.assign (.bin (.comp (mm:=[]) (it:=16) (c:=.ref 13) (σ1:=wB W dress pace i (mG word text []) (oG fold text) 16) (σ2:=wI4 W dress pace i word text fold 0) (σ3:=(PP (wI4 W dress pace i word text fold text.length) [] []).del 16) 19 (cl:=[]) ak ak (.loc U U) (dP U) (show 18<19 by decide) ?h1 U)
  (.comp (mm:=[]) (it:=19) (c:=.ref 15) (σ1:=wB W dress pace i (mG word text []) ([(17,.list [])]++oG fold text) 19) (σ2:=wI5 W dress pace i word text fold 0) (σ3:=(PP (wI5 W dress pace i word text fold (cT text).length) [] []).del 19) 22 (cl:=[]) ak ak (.loc U U) (dP U) (show 21<22 by decide) ?h2 U)
  (add_lists (xs:=[]) (ys:=[]) U U ay)) (.loc (m':=FN dress pace (mG word text [])) U)) ?hs
 case h1 =>
  refine cI.simple (N:=17) (n:=text.length) (wI4 W dress pace i word text fold) (λi=>.bool (sG (text.getD i 0:Nat))) (λi=>[(So "one",.bool (sG (text.getD i 0:Nat)))]) (λzz=>[]) (λzz=>U) U (show 16<19 by decide) U U U (yg _ _ _ _ _ _) (fE U) (λi hi=>⟨X.names U U (Ce hi),.name (.loc (m':=[]) U),.yj ?_⟩) (D.list hh U U F6);exact LN (.loc U U) (.loc U U)
 case h2 =>
  refine cI.simple (N:=20) (n:=(cT text).length) (wI5 W dress pace i word text fold) (λi=>.str (tx (fold ((cT text).getD i 0)))) (λi=>[(So "fold",.str (tx (fold ((cT text).getD i 0))))]) (λzz=>[]) (λzz=>U) U (show 19<22 by decide) U U U (yg _ _ _ _ _ _) (fE U) (λi hi=>⟨X.names U U (Cb hi),.name (.loc (m':=[]) U),.yj ?_⟩) (D.list hh U U (by rw[aG]));have h:=H.each _ (getD_in hi);exact .cmp (.loc U U) (.n_ PySem.F.slot_str_lower cA PySem.F.type_str_lower (.loc U U) l_ .nil (Bh h.2.1 h.2.2.1)) (tw (bne_self_eq_false _))
 case hs =>
  exact gN.mk [(13,13),(14,14),(15,15),(16,22)] U U ⟨aD,⟨_,U,yK⟩,⟨_,U,yK⟩,⟨_,U,sk⟩,aD,aD,aD,aD,aD,aD,aD,aD,⟨_,U,_,U,U,U,U,U,U,U,U,U,U,aE⟩,aD,aD,aD,aD,aE⟩
unseal st in
theorem wb5(B:aO G 6)(hh:G.A.handled=none)(hl:text.length<=1000)(hw:word.length<=1000)(H:xM word text fold):SS G 13 (eL tk) (az ja 5) (wB W dress pace i (mO word text []) (oO fold text) 17) .next (wB W dress pace i [] [] 13):=by
 have xW:(cT text).length<=1000:=au tL hl
 conv in az ja 5=>whnf
 refine .shp (.js (b:=false) (.G8 (.cmp (.loc U U) (.list .nil U) (iX (n:=1) (.list .nil) (.list U .nil) (.list U .nil) (B.hn ay)))
  (.QQ (.cmp (.n_ fu cA U .str l_ (.cons (.comp (mm:=[]) (it:=22) (c:=.ref 22) (σ1:=Vg W dress pace i word text fold 0) (σ2:=Vg W dress pace i word text fold 0) (σ3:=((((PP (Vg W dress pace i word text fold (cT text).length) (DZ (h8 fold) (cT text) (cT text).length) []).del 22).del 21).del 18).del 19) 25 (cl:=[]) ak ak
   (.jS (.glob (C9 B)) (.cons (.loc U U) (.cons (.loc U U) .nil)) (Ds U U)) (qe U) (show 24<25 by decide) ?hB U) .nil) (IQ (xs:=(cT text).map (h8 fold)) (congrArg (λl=>aa (AO.list l)) (yG.trans Dy)) (by rw[H.back];lia))) (.loc U U) (tw ?hE)))) .nil) ?hs
 case hB =>
  refine cI.simple (N:=23) (n:=(cT text).length) (Vg W dress pace i word text fold) (λi=>.tup [.str (tx [(cT text).getD i 0]),.str (tx (fold ((cT text).getD i 0)))]) (λi=>[(So "sign",.str (tx [(cT text).getD i 0])),(So "fold",.str (tx (fold ((cT text).getD i 0))))]) (DZ (h8 fold) (cT text)) (λzz=>U) U (show 22<25 by decide) U U U (pZ _ _ _ _ _) (qe U) (λq hi=>⟨?_,?_,?_⟩) (D.O7 hh U U U U U U U ay (by rw[aG]))
  ·exact X.O7 (it:=22) (σ:=PP (Vg W dress pace i word text fold q) (DZ (h8 fold) (cT text) q) []) (xs:=Cc one (cT text)) (ys:=Cc fold (cT text)) U U U U U U U ay (Cb hi) (Cb hi)
  ·exact .tuple hh (.name (.loc (m':=[]) U) (.name (.loc (m':=[(So "sign",.str (tx [(cT text).getD q 0]))]) U) .nil))
  ·have h:=H.each _ (getD_in hi)
   refine .pz (c:=.str (tx (h8 fold ((cT text).getD q 0)))) ?_ U (kG (au (bX (aM hi xW)) ay)) (gK (F:=λi=>.str (tx (h8 fold ((cT text).getD i 0)))));cases hb:fold ((cT text).getD q 0)==[(cT text).getD q 0]with
   |true =>
    rw[show h8 fold ((cT text).getD q 0)=fold ((cT text).getD q 0) by unfold h8;rw[hb];rfl];exact .js (.cmp (.loc U U) (.loc U U) (jo hb)) (.loc U U)
   |false =>
    rw[show h8 fold ((cT text).getD q 0)=Nn (fold ((cT text).getD q 0)) by unfold h8;rw[hb];rfl];exact .js (.cmp (.loc U U) (.loc U U) (jo hb)) (.n_ PySem.F.slot_str_upper cA PySem.F.type_str_upper (.loc U U) l_ .nil (Ax h.2.2.2))
 case hE=>rw[H.back];exact bne_self_eq_false _
 case hs=>exact gN.mk [] U U ⟨aD,aD,aD,aD,aD,aD,aD,aD,⟨_,U,_,U,U,U,U,aE⟩,aD,aD,aD,aD,aE⟩
theorem Vd(W:Nat->List Nat)(h:i<5):([.str (tx (W 0)),.str (tx (W 1)),.str (tx (W 2)),.str (tx (W 3)),.str (tx (W 4))]:List CV)[i]?=aa (.str (tx (W i))):=by
 match i,h with
 |0,_=>rfl
 |1,_=>rfl
 |2,_=>rfl
 |3,_=>rfl
 |4,_=>rfl
structure JZ(W:Nat->List Nat)(dress pace:Int):Prop where
 len:∀k,k<5->(W k).length<=10
 n5:∀k,k<5->∀c∈W k,32<=c/\c<=200
 word:∀k,k<5->∃fold,xM (W k) (kT dress pace (W k)) fold
theorem yd(dress pace:Int)(l:List Nat):∀(n place:Nat)(acc:List Nat),(k9 dress pace l n place acc).length<=acc.length+2*n:=by
 intro n
 induction n with
 |zero=>intro place acc;exact aW _
 |succ n ih =>
  intro place acc;unfold k9
  split
  ·refine au (ih _ _) ?_
   have:=uY dress pace l place;rw[aB];lia
  ·exact bg _ _
unseal st in
theorem lw1(B:aO G 6)(hh:G.A.handled=none)(H:JZ W dress pace):SS G 11 (eL tk) (az (fB (st 21)) 1) (wZ (FN dress pace []) [(11,Av W)] 12) .next ((wB W dress pace 5 [] [] 13).del 12):=by
 have body:∀i,i<5->eY G 13 (eL tk) ja (wB W dress pace (i+1) (mW (W i) []) [] 13) .next (wB W dress pace (i+1) [] [] 13):=λi hi=>by
  obtain⟨fold,h⟩:=H.word i hi;have hw:(W i).length<=1000:=au (H.len i hi) ay;have ht:(kT dress pace (W i)).length<=1000:=au (yd dress pace (W i) (W i).length 0 []) (by have:=H.len i hi;show 0+_<=_;lia);rw[show ja=[az ja 0,az ja 1,az ja 2,az ja 3,az ja 4,az ja 5] by kernel_rfl];exact .cons (wb0 B hh hw (H.n5 i hi) U) (.cons (wb1 B hh ht) (.cons (wb2 B hh ht) (.cons (wb3 B hh ht λc hc=>(h.each c hc).1) (.cons (wb4 B hh ht h) (.cons (wb5 B hh ht hw h) .nil U) U) U) U) U) U
 conv in az (fB (st 21)) 1=>whnf
 refine .for (m':=13) (it:=12) 5 (λi=>wB W dress pace i [] [] 13) U ay ay (.loc U U) (dP U) (λi hi=>?_) (D.list hh U U U);exact⟨_,⟨_,_,wB W dress pace (i+1) (mW (W i) []) [] 13,X.names U U (Vd W hi),.name (.loc (m':=FN dress pace []) U),body i hi⟩,.refl⟩
end
section
open PyProof
variable{G:Gv}{n m tk i k r:Nat}{e:Env}{x:Expr}{σ σ1:St}{dress pace:Int}{W:Nat->List Nat}{V:Nat->P.T4}{J A:Nat->Nat->Int}{ro mi li:List Int}{la:List CV}{kc te ra:Option CV}{more:List (Str×CV)}{pre:List (Nat×AO)}
theorem YS(B:aO G n):Glob G (So "_law_judged") (.ref 236):=B.glob λzz zz zz zz=>ak
theorem tC(h:e_ A i=e_ J i){r:Nat->Nat}:jt r (.list (e_ A i)) (.list (e_ J i)):=congrArg AO.list h
noncomputable def E3(J:Nat->Nat->Int)(i:Nat):List Int:=[J i 0,J i 1,J i 2,J i 3,J i 4]
noncomputable def lX(J:Nat->Nat->Int)(i:Nat):Int:=((E3 J i).countP (·==-1):Nat)
noncomputable def GH(J:Nat->Nat->Int):List Int:=[lX J 0,lX J 1,lX J 2,lX J 3,lX J 4]
noncomputable abbrev fJ(more:List (Str×CV)):List (Str×CV):=[(So "mirror",.ref 18),(So "laid",.ref 20)]++more
noncomputable abbrev oT(J:Nat->Nat->Int):List (Nat×AO):=[(16,.list (e_ J 4)),(15,.list (e_ J 3)),(14,.list (e_ J 2)),(13,.list (e_ J 1)),(12,.list (e_ J 0)),(11,.list [.ref 12,.ref 13,.ref 14,.ref 15,.ref 16])]
noncomputable abbrev oL(J:Nat->Nat->Int)(ro mi li:List Int)(la:List CV):List (Nat×AO):=[(20,.list la),(19,.list (li.map .int)),(18,.list (mi.map .int)),(17,.list (ro.map .int))]++oT J
noncomputable abbrev wJ(J:Nat->Nat->Int)(ro mi li:List Int)(la:List CV)(k te ra:Option CV)(more:List (Str×CV))(pre:List (Nat×AO))(n:Nat):St:=
 wS (aa (.ref 17)) (aa (.ref 19)) k te (aa (.ref 11)) ra (fJ more) (pre++oL J ro mi li la) n
theorem acz(h:i<5):(wJ J ro mi li la kc te ra more [] n).get (12+i)=aa (.list (e_ J i)):=by
 match i,h with
 |0,_=>rfl
 |1,_=>rfl
 |2,_=>rfl
 |3,_=>rfl
 |4,_=>rfl
theorem Ny(h:i<5):([.ref 12,.ref 13,.ref 14,.ref 15,.ref 16]:List CV)[(0+(i:Int)).toNat]?=aa (.ref (12+i)):=by
 rw[(idx i).2]
 match i,h with
 |0,_=>rfl
 |1,_=>rfl
 |2,_=>rfl
 |3,_=>rfl
 |4,_=>rfl
theorem SS.M6{x: Str}{p: Pos}{value: Expr}{pos: Pos}{c: CV}{σ2: St}(h:a8 G e value σ c σ1)(k:dJ G e x c σ1 σ2)(XY:∀env:Env,env.scope=e.scope->swapsWith value (aa (.Name x p)) pos.line env=bO false):SS G m e (.Assign [.Name x p] value pos) σ .next σ2:=by
 intro α s env E i g;refine wpAny_Assign_Name (iI (h α s env E i g) λβ v s1 x g1 r1=>?_) (XY env i.scope);refine E1 (k β s1 env E v (i.mono x) g1 r1) λγ s2 y g2=>?_;exact⟨γ,(x.trans y).nj,g2,U⟩
noncomputable abbrev XE(J:Nat->Nat->Int):PyData:=.list [.list ((E3 J 0).map .int),.list ((E3 J 1).map .int),.list ((E3 J 2).map .int),.list ((E3 J 3).map .int),.list ((E3 J 4).map .int)]
seal a8 cS SS eY bM dD bN eC cU cI ef eX cR gc dJ jK SK SF l5 pD kP uv pQ ia
unseal st in
theorem lw2(B:aO G 9)(hh:G.A.handled=none)(H:OE (dress.fmod 3) V W)(hJ:∀i,i<5->e_ (fN V 5 0) i=e_ J i):
  SS G 11 (eL tk) (az (fB (st 21)) 2) ((wB W dress pace 5 [] [] 13).del 12) .next (wJ J [] [] [] [] none none none [] [] 21):=by
 conv in az (fB (st 21)) 2=>whnf
 obtain⟨AG,D,_⟩:=B.Dh;refine .shp (.ig (.tuple (.cons (.i_ D (.glob (YS B)) (.cons (.loc U U) (.cons (.bin (.loc U U) .int (nu ay)) .nil)) (SK.sU (g:=λvs=>call (.ref 236) vs)
   (SK.rC (τ0:=⟨[(2,.tab qb GU),(1,.tab mA yz),(0,Av W)],3⟩) (news:=[(18,.list (e_ (fN V 5 0) 4)),(17,.list (e_ (fN V 5 0) 3)),(16,.list (e_ (fN V 5 0) 2)),(15,.list (e_ (fN V 5 0) 1)),(14,.list (e_ (fN V 5 0) 0)),(13,.list [.ref 14,.ref 15,.ref 16,.ref 17,.ref 18])]) (n':=19) (c:=.ref 13) (ks:=[]) (ks0:=[])
    [(11,0),(2,1),(3,2)] [(13,5),(14,11),(15,12),(16,13),(17,14),(18,15)] U U U U U ⟨aD,aD,aD,aE⟩ ⟨⟨_,_,U,U,U⟩,⟨_,_,U,U,U⟩,⟨_,_,U,U,U⟩,aE⟩
    ⟨aD,aD,aD,aD,aD,aD,aE⟩ (λh k=>VJ (B.ext k) H) U U U)))
   (.cons (.list .nil U) (.cons (.list .nil U) (.cons (.list .nil U) (.cons (.list .nil U) .nil))))) U)
  (.tuple hh (.name (.cell U U) (.name (.cell U U) (.name (.loc (m':=FN dress pace []) U) (.name (.cell U U) (.name (.loc (m':=FN dress pace [(So "mirror",.ref 20)]) U) .nil)))))) (hw:=λenv h=>(bQ h).trans ak)) ?_
 exact gN.mk [(11,13),(12,14),(13,15),(14,16),(15,17),(16,18),(17,19),(18,20),(19,21),(20,22)] U U ⟨aD,aD,aD,aD,⟨_,U,tC (hJ 4 ay)⟩,⟨_,U,tC (hJ 3 ay)⟩,⟨_,U,tC (hJ 2 ay)⟩,⟨_,U,tC (hJ 1 ay)⟩,⟨_,U,tC (hJ 0 ay)⟩,aD,
  aD,aD,aD,aD,aD,aD,⟨_,U,_,U,U,U,aE⟩,aD,aD,aD,aD,aE⟩
unseal st in
theorem lw3(B:aO G 6):SS G 11 (eL tk) (az (fB (st 21)) 3) (wJ J [] [] [] [] none none none [] [] 21) .next (wJ J [] [] [] [] none none none [] [] 21):=by
 conv in az (fB (st 21)) 3=>whnf
 have L:Lay 2 (XE J):=.list (.cons .ints (.cons .ints (.cons .ints (.cons .ints (.cons .ints .nil)))));have L0:Lay 1 (.list []):=.list .nil;refine .shp (.js (b:=false) (.cmp (.cell U U) (.list .nil U) (vj (da:=XE J) (db:=.list []) (.list U (.cons (Rd.ints U) (.cons (Rd.ints U) (.cons (Rd.ints U) (.cons (Rd.ints U) (.cons (Rd.ints U) .nil)))))) (.list U .nil) L.lay L0.lay
  (aY (cq (au (Nat.min_le_right _ _) L0.dep) _) (B.hn ay)) U)) .nil) ?_
 exact gN.mk [(11,11),(12,12),(13,13),(14,14),(15,15),(16,16),(17,17),(18,18),(19,19),(20,20)] U U ⟨aD,aD,aD,aD,aD,aD,aD,aD,aD,aD,
  aD,aD,aD,aD,aD,aD,⟨_,U,_,U,U,U,aE⟩,aD,aD,aD,aD,aE⟩
noncomputable abbrev ZV(J:Nat->Nat->Int)(q:Nat):St:=wJ J [] [] [] [] none none none [] [(22,wY 0 5 q),(21,.n5 0 5 1)] 23
noncomputable abbrev Wq(J:Nat->Nat->Int):Nat->List CV:=dI λi=>.int (lX J i)
theorem Nx(h:i<5){out: List CV}{fr: List (Str×CV)}{q: Nat}:(PP (ZV J q) out fr).get (12+i)=aa (.list ((E3 J i).map .int)):=by
 match i,h with
 |0,_=>rfl
 |1,_=>rfl
 |2,_=>rfl
 |3,_=>rfl
 |4,_=>rfl
unseal st in
theorem lw4(B:aO G 6)(hh:G.A.handled=none):SS G 11 (eL tk) (az (fB (st 21)) 4) (wJ J [] [] [] [] none none none [] [] 21) .next (wJ J [] [] [] [] none none (aa (.ref 21)) [] [(21,.list ((GH J).map .int))] 22):=by
 conv in az (fB (st 21)) 4=>whnf
 refine .shp (.M6 (.comp (mm:=[]) (it:=22) (c:=.ref 21) (σ1:=wJ J [] [] [] [] none none none [] [(21,.n5 0 5 1)] 22) (σ2:=ZV J 0) (σ3:=(PP (ZV J 5) (Wq J 5) []).del 22) 25 (cl:=[(So "judge",9)]) ak ak
  (.jS (.glob (jb B)) (.cons .int .nil) qT) (i6 (n:=5) U ak ak) (show 24<25 by decide) ?h3 U) (.cell U U) (λenv h=>(l7 h).trans ak)) ?hs
 case h3 =>
  refine cI.simple (N:=23) (n:=5) (ZV J) (λi=>.int (0+(i:Int))) (λi=>[(So "k",.int (0+(i:Int)))]) (Wq J) (λzz=>U) U (show 22<25 by decide) U U U (pZ _ _ _ _ _) (rB (n:=5) (i:=0) hh U ay) (λq hi=>⟨X.kU U hi,.name (.loc (m':=[]) U),?_⟩) (D.kU hh U);exact .pz (.n_ jc bE m_ (.sub (.cell U U) (.loc U U) (cz U (idx q).1 (Ny hi) (by show 5<2^62;decide))) (gk (Nx hi)) (.cons (.un .int iu) .nil) (list_count (Nx hi))) U (kG (by lia)) (gK (F:=λi=>.int (lX J i)))
 case hs =>
  exact gN.mk [(11,11),(12,12),(13,13),(14,14),(15,15),(16,16),(17,17),(18,18),(19,19),(20,20),(21,23)] U U ⟨aD,aD,aD,aD,aD,aD,aD,aD,aD,aD,aD,
   aD,aD,aD,aD,aD,aD,⟨_,U,_,U,U,U,aE⟩,aD,aD,aD,aD,aE⟩
end
section
open PyProof
variable{G:Gv}{n m tk i j k a r q:Nat}{x:Expr}{J:Nat->Nat->Int}{ro mi li ns:List Int}{la:List CV}{g g':k7}{nm:Str}{cj ck:Nat}
noncomputable def IV(J:Nat->Nat->Int)(i:Nat)(ns:List Int):Int:=jD (λk=>decide (J i i<J i (ns.getD k.toNat 0).toNat)) ((ns.length:Int)-0).toNat 0 ns.length
noncomputable def IW(J:Nat->Nat->Int)(i:Nat)(ns:List Int):Int:=jD (λk=>!decide (J i (ns.getD k.toNat 0).toNat<J i i)) ((ns.length:Int)-0).toNat 0 ns.length
noncomputable def o6(J:Nat->Nat->Int):Nat->List Int
 |0=>[]
 |i+1=>insI (o6 J i) (IV J i (o6 J i)) i
noncomputable def o7(J:Nat->Nat->Int):Nat->List Int
 |0=>[]
 |i+1=>insI (o7 J i) (IW J i (o7 J i)) i
noncomputable def LZ(x:Int)(odd:Bool)(ns:List Int):Int:=jD (λk=>bif odd then !decide (ns.getD k.toNat 0<x)else decide (x<ns.getD k.toNat 0)) ((ns.length:Int)-0).toNat 0 ns.length
noncomputable def QX(i:Nat):Bool:=((i:Int).fmod 2 != 0)
noncomputable def o8(J:Nat->Nat->Int):Nat->List Int
 |0=>[]
 |i+1=>insI (o8 J i) (LZ (lX J i) (QX i) (o8 J i)) (lX J i)
noncomputable abbrev fM(n:Nat):List CV:=aw n .none
theorem jr{r:Nat->Nat}:jt r (.list (fM n)) (.list (fM n)):=by
 have:cK r (fM n)=fM n:=by
  induction n with
  |zero=>rfl
  |succ n ih=>exact congrArg (CV.none::·) ih
 exact congrArg AO.list this.symm
theorem D4(a b:Nat):fM a++fM b=fM (a+b):=List.replicate_append_replicate
theorem vp{r:Nat->Nat}:jt r (.list (fM n++fM k)) (.list (fM (n+k))):=by rw[D4];exact jr
noncomputable def gS(g:k7):k7:=⟨g.q,g.params,g.body,g.scope,[(So "k",3),(So "judge",2)]⟩
theorem jy.small(K:jy g nm cj ck):jy (gS g) nm 2 3:=⟨⟨K.lam.bind,K.lam.loc,K.lam.cell,K.lam.C4,K.lam.co,K.lam.gen,K.lam.kind⟩,K.body,U,K.free⟩
theorem MA{l: List (Str×Nat)}(h:g.clos=l):AO.fn g=AO.fn ⟨g.q,g.params,g.body,g.scope,l⟩:=by cases g;cases h;rfl
theorem CB{r:Nat->Nat}(K:jy g nm cj ck)(h3:r 3=ck)(h2:r 2=cj):jt r (.fn g) (.fn (gS g)):=by
 show AO.fn g=AO.fn ⟨g.q,g.params,g.body,g.scope,[(So "k",r 3),(So "judge",r 2)]⟩;rw[h3,h2];exact MA K.clos
theorem wC{r:Nat->Nat}(K:jy g nm cj ck)(h3:r ck=3)(h2:r cj=2):jt r (.fn (gS g)) (.fn g):=by
 show AO.fn (gS g)=AO.fn ⟨g.q,g.params,g.body,g.scope,g.clos.map λp=>(p.1,r p.2)⟩;rw[K.clos];show AO.fn (gS g)=AO.fn ⟨g.q,g.params,g.body,g.scope,[(So "k",r ck),(So "judge",r cj)]⟩;rw[h3,h2];rfl
noncomputable abbrev pI(J:Nat->Nat->Int)(i:Nat):List (Nat×AO):=[(23,wY 0 5 i),(22,.n5 0 5 1),(21,.list ((GH J).map .int))]
noncomputable abbrev wK(J:Nat->Nat->Int)(ro mi li:List Int)(la:List CV)(k:Option CV)(i:Nat)(pre:List (Nat×AO))(n:Nat):St:=wJ J ro mi li la k none (aa (.ref 21)) [] (pre++pI J i) n
seal a8 cS SS eY bM dD bN eC cU cI ef eX cR gc dJ jK SK SF l5 pD kP uv pQ ia
theorem Xz(B:aO G 4)(K:jy g nm 9 7)(hi:i<5)(hd:∀x∈ro,0<=x/\x<5)(hl:ro.length<2^20):
  SK G (λvs ws=>call (.ref 30) vs ([So "key"].zip ws)) [.ref 17,.int i] [.ref 24] (wK J ro mi li la (aa (.int i)) j [(24,.fn g)] 25) .none (wK J (insI ro (IV J i ro) i) mi li la (aa (.int i)) j [(24,.fn g)] 25):=
 SK.m7 (σ':=(wK J ro mi li la (aa (.int i)) j [(24,.fn g)] 25).set 17 (.list ((insI ro (IV J i ro) i).map .int))) (τ0:=⟨oJ (gS g) i J ro,10⟩) (l:=[(17,0),(24,1),(9,2),(7,3),(11,4),(12,5),(13,6),(14,7),(15,8),(16,9)]) (c:=.none) (cs0:=[.ref 0,.int i]) (ks0:=[.ref 1]) U U U
  ⟨aD,aD,aD,aD,aD,aD,aD,aD,⟨_,U,CB K U U⟩,⟨_,U,aS⟩,aE⟩ U (lM (.head _))
  ⟨⟨_,_,U,U,aS⟩,⟨_,_,U,U,wC K U U⟩,⟨_,_,U,U,U⟩,⟨_,_,U,U,U⟩,⟨_,_,U,U,U⟩,⟨_,_,U,U,U⟩,⟨_,_,U,U,U⟩,⟨_,_,U,U,U⟩,⟨_,_,U,U,U⟩,⟨_,_,U,U,U⟩,aE⟩
  (λh k=>aaL (r:=IV J i ro) (a:=i) (B.ext k) K.small hi hi hd hl U) U U U
theorem Xy(B:aO G 4)(K:jy g' nm 9 7)(hi:i<5)(hd:∀x∈mi,0<=x/\x<5)(hl:mi.length<2^20):
  SK G (λvs ws=>call (.ref 48) vs ([So "key"].zip ws)) [.ref 18,.int i] [.ref 25] (wK J ro mi li la (aa (.int i)) j [(25,.fn g'),(24,.fn g)] 26) .none (wK J ro (insI mi (IW J i mi) i) li la (aa (.int i)) j [(25,.fn g'),(24,.fn g)] 26):=
 SK.m7 (σ':=(wK J ro mi li la (aa (.int i)) j [(25,.fn g'),(24,.fn g)] 26).set 18 (.list ((insI mi (IW J i mi) i).map .int))) (τ0:=⟨oJ (gS g') i J mi,10⟩) (l:=[(18,0),(25,1),(9,2),(7,3),(11,4),(12,5),(13,6),(14,7),(15,8),(16,9)]) (c:=.none) (cs0:=[.ref 0,.int i]) (ks0:=[.ref 1]) U U U
  ⟨aD,aD,aD,aD,aD,aD,aD,aD,⟨_,U,CB K U U⟩,⟨_,U,aS⟩,aE⟩ U (lM (.head _))
  ⟨⟨_,_,U,U,aS⟩,⟨_,_,U,U,wC K U U⟩,⟨_,_,U,U,U⟩,⟨_,_,U,U,U⟩,⟨_,_,U,U,U⟩,⟨_,_,U,U,U⟩,⟨_,_,U,U,U⟩,⟨_,_,U,U,U⟩,⟨_,_,U,U,U⟩,⟨_,_,U,U,U⟩,aE⟩
  (λh k=>aaJ (r:=IW J i mi) (a:=i) (B.ext k) K.small hi hi hd hl U) U U U
noncomputable abbrev oP:List Stmt:=fB (az (fB (st 21)) 5)
unseal st in
theorem le0(B:aO G 6)(A:iA G.h₀ 247 245)(hi:i<5)(hd:∀x∈ro,0<=x/\x<5)(hd2:∀x∈mi,0<=x/\x<5)(hl:ro.length<2^20)(xW:mi.length<2^20)(hn:n<=100):
  SS G 24 (eL tk) (az oP 0) (wK J ro mi li (fM n) (aa (.int i)) j [] 24) .next (wK J (insI ro (IV J i ro) i) (insI mi (IW J i mi) i) li (fM (n+2)) (aa (.int i)) j [] 24):=by
 conv in az oP 0=>whnf
 refine aR (B.mods 245 ay) λmg sv mH=>?_;have dw:(fM n).length+[CV.none,CV.none].length<=2^20:=by rw[cg];show n+2<=_;lia
 refine .shp (.expr (.n_ mM bE U (.loc U U) (gk U) (.cons (.list (.cons (.oM (names:=[So "key"]) (B.defAt zR zB) (.glob (Mv B)) (.cons (.cell U U) (.cons (.cell U U) .nil))
   (.cons (.nz (c:=247) (P:=245) (clos:=[(So "k",7),(So "judge",9)]) U U sv U A mH (k:=0) U U) .nil)
   (Xz (B.le (m:=4) U) ⟨⟨λzz zz zz zz zz=>U,U,U,U,U,U,U⟩,⟨_,_,_,_,_,U⟩,U,⟨U,U⟩⟩ hi hd hl))
  (.cons (.oM (names:=[So "key"]) (B.defAt zQ zA) (.glob (Mu B)) (.cons (.loc U U) (.cons (.cell U U) .nil))
   (.cons (.nz (c:=247) (P:=245) (clos:=[(So "k",7),(So "judge",9)]) U U sv U A mH (k:=0) U U) .nil)
   (Xy (B.le (m:=4) U) ⟨⟨λzz zz zz zz zz=>U,U,U,U,U,U,U⟩,⟨_,_,_,_,_,U⟩,U,⟨U,U⟩⟩ hi hd2 xW)) .nil)) U) .nil) (yV U U dw))) ?hs
 case hs =>
  refine gN.mk [] U U ⟨aD,aD,⟨_,U,aS⟩,⟨_,U,vp (k:=2)⟩,⟨_,U,aS⟩,⟨_,U,aS⟩,⟨_,U,aS⟩,aD,aD,aD,aD,aD,aD,
   aD,aD,aD,aD,aD,aD,⟨_,U,_,U,U,U,aE⟩,aD,aD,aD,aD,aE⟩
end
section
open PyProof
variable{G:Gv}{n m tk i j k r it:Nat}{e:Env}{x:Str}{p:Pos}{σ:St}{J:Nat->Nat->Int}{ro mi li:List Int}
theorem td(J:Nat->Nat->Int)(h:i<5):((GH J).map CV.int)[((i:Nat):Int).toNat]?=aa (.int (lX J i)):=by
 rw[bU]
 match i,h with
 |0,_=>rfl
 |1,_=>rfl
 |2,_=>rfl
 |3,_=>rfl
 |4,_=>rfl
theorem X.GO(e:σ.get it=aa (wY 0 n i))(h:i<n):eC G (.Name x p) it σ (.int i) (σ.set it (wY 0 n (i+1))):=by
 have:=X.kU (G:=G) (x:=x) (p:=p) e h
 rwa [kq]at this
noncomputable def cnt:Nat->Nat
 |0=>0
 |i+1=>cnt i+2+1
theorem Tv(h:i<=5):cnt i<=90:=by
 match i,h with
 |0,_=>decide
 |1,_=>decide
 |2,_=>decide
 |3,_=>decide
 |4,_=>decide
 |5,_=>decide
noncomputable def kcI:Nat->Option CV
 |0=>none
 |i+1=>aa (.int i)
structure J3(J:Nat->Nat->Int):Prop where
 row:∀i,i<6->(o6 J i).length<=5/\∀x∈o6 J i,0<=x/\x<5
 mir:∀i,i<6->(o7 J i).length<=5/\∀x∈o7 J i,0<=x/\x<5
 lin:∀i,i<6->(o8 J i).length<=5
seal a8 cS SS eY bM dD bN eC cU cI ef eX cR gc dJ jK SK SF l5 pD kP uv pQ ia
unseal st in
theorem le1(B:aO G 6)(hi:i<5)(hl:li.length<2^20)(hn:n<=100):
  SS G 24 (eL tk) (az oP 1) (wK J ro mi li (fM n) (aa (.int i)) j [] 24) .next (wK J ro mi (insI li (LZ (lX J i) (QX i) li) (lX J i)) (fM (n+1)) (aa (.int i)) j [] 24):=by
 conv in az oP 1=>whnf
 have dw:(fM n).length<=bC:=by rw[cg];exact bD (au hn ay)
 have hs:∀li',gN 24 (((wK J ro mi li (fM n) (aa (.int i)) j [] 24).set 19 (.list (li'.map .int))).set 20 (.list (fM n++[.none]))) (wK J ro mi li' (fM (n+1)) (aa (.int i)) j [] 24):=λli' =>
  gN.mk [] U U ⟨aD,aD,⟨_,U,aS⟩,⟨_,U,vp (k:=1)⟩,⟨_,U,aS⟩,⟨_,U,aS⟩,⟨_,U,aS⟩,aD,aD,aD,aD,aD,aD,
   aD,aD,aD,aD,aD,aD,⟨_,U,_,U,U,U,aE⟩,aD,aD,aD,aD,aE⟩
 cases ho:QX i with
 |true =>
  refine .shp (.expr (.n_ iN bE U (.loc U U) (gk U) (.cons (.js (cS.val (.plain (.bin (.cell U U) .int (nu ay)) Vz) ho)
   (.i_ (B.defAt zQ zA) (.glob (Mu B)) (.cons (.cell U U) (.cons (.sub (.cell U U) (.cell U U) (cz U (aI _) (td J hi) (by show 5<2^62;decide))) .nil))
    (SK.sU (g:=λvs=>call (.ref 48) vs) (SK.G3 (k0:=19) U (λh k=>aaF ((B.le (m:=2) U).ext k) hl (r:=LZ (lX J i) af li) U) U (λzz=>U) (λzz=>U))))) .nil) (list_append U dw))) (hs _)
 |false =>
  refine .shp (.expr (.n_ iN bE U (.loc U U) (gk U) (.cons (.js (cS.val (.plain (.bin (.cell U U) .int (nu ay)) Vz) ho)
   (.i_ (B.defAt zR zB) (.glob (Mv B)) (.cons (.cell U U) (.cons (.sub (.cell U U) (.cell U U) (cz U (aI _) (td J hi) (by show 5<2^62;decide))) .nil))
    (SK.sU (g:=λvs=>call (.ref 30) vs) (SK.G3 (k0:=19) U (λh k=>aaH ((B.le (m:=2) U).ext k) hl (r:=LZ (lX J i) false li) U) U (λzz=>U) (λzz=>U))))) .nil) (list_append U dw))) (hs _)
noncomputable abbrev lS5(J:Nat->Nat->Int)(i:Nat):St:=wK J (o6 J i) (o7 J i) (o8 J i) (fM (cnt i)) (kcI i) i [] 24
unseal st in
theorem lw5(B:aO G 6)(hh:G.A.handled=none)(A:iA G.h₀ 247 245)(H:J3 J):
  SS G 11 (eL tk) (az (fB (st 21)) 5) (wJ J [] [] [] [] none none (aa (.ref 21)) [] [(21,.list ((GH J).map .int))] 22) .next ((lS5 J 5).del 23):=by
 have body:∀i,i<5->eY G 24 (eL tk) oP (wK J (o6 J i) (o7 J i) (o8 J i) (fM (cnt i)) (aa (.int i)) (i+1) [] 24) .next (lS5 J (i+1)):=λi hi=>by
  have Yg:=d0 hi;have h0:∀{l:List Int},l.length<=5->l.length<2^20:=λh=>aY h ay;have hc:=Tv (bX hi);rw[show oP=[az oP 0,az oP 1] by kernel_rfl];exact .cons (le0 B A hi (H.row i Yg).2 (H.mir i Yg).2 (h0 (H.row i Yg).1) (h0 (H.mir i Yg).1) (au hc ay)) (.cons (le1 B hi (h0 (H.lin i Yg)) (au (cE hc 2) ay)) .nil U) U
 conv in az (fB (st 21)) 5=>whnf
 refine .for (m':=24) (it:=23) 5 (lS5 J) U ay ay (.jS (.glob (jb B)) (.cons .int .nil) qT) (i6 (n:=5) U ak ak) (λi hi=>?_) (D.kU hh U);exact⟨_,⟨_,_,_,X.GO U hi,.name (.cell (o:=kcI i) U U),body i hi⟩,.refl⟩
end
section
open PyProof
variable{G:Gv}{n m tk i j k a r:Nat}{e:Env}{x y:Expr}{pos:Pos}{σ σ1 σ2:St}{J:Nat->Nat->Int}{ro mi li ns:List Int}{ks:List Nat}{t:Bool}{P:Int}
theorem nR.G8{c8: List Expr}(h:cS G e x σ false σ1)(k:nR G ks e (.BoolOp .Or (y::c8) pos) σ1 t σ2):nR G ks e (.BoolOp .Or (x::y::c8) pos) σ t σ2:=by
 intro α s env E i g c;refine gh (Aq (h α s env E i g) λβ s1 x g1=>?_);exact wQ (k β s1 env E (i.mono x) g1 (c.le x)) λzz zz w=>w.trans x
theorem nR.QQ(h:nR G ks e x σ t σ1):nR G ks e (.BoolOp .Or [x] pos) σ t σ1:=by
 intro α s env E i g c;refine gh (Aq (h α s env E i g c) λβ s1 x g1=>?_);cases t with
 |true=>exact⟨β,x,g1,U⟩
 |false=>exact PyProof.Rows.isTrue_or_nil ⟨β,x,g1,U⟩
theorem Mz{α Af: AM}(c:Nf G [k] α)(h:Af.f j=α.f k):Nf G [j] Af:=by
 refine dH λlg eS=>?_;obtain⟨l,h1,env,r,L,e1,e2,e3,e4,h2⟩:=c;refine eS ?_;exact⟨l,h1,env,r,L,e1,e2,e3,h.trans e4,h2⟩
theorem eZ.ext{fd: cO}{h: Heap}(A:eZ G a fd)(k:∀b o,G.h₀.get? b=aa o->h.get? b=aa o):eZ (Mine.Internal.ext G h) a fd:=by
 obtain⟨o,ho,hd⟩:=A;exact⟨o,k _ _ ho,hd⟩
theorem vf(n:Nat):Kf G σ (fM n) (aw n .none):=by
 induction n with
 |zero=>exact .nil
 |succ n ih=>exact .cons .none ih
theorem Bn(n:Nat):xP m (aw n .none):=by
 induction n with
 |zero=>exact .nil
 |succ n ih=>exact .cons .none ih
theorem YR(B:aO G n):Glob G (So "_law_held") (.ref 243):=B.glob λzz zz zz zz=>ak
noncomputable def Wk(J:Nat->Nat->Int):Int:=lX J 2+(((E3 J 2).take 2).countP (·==0):Nat)
noncomputable def Jt(P:Int):List Int:=[4,0,3,1].take P.toNat++[2]++[4,0,3,1].drop P.toNat
noncomputable abbrev wP(J:Nat->Nat->Int)(P:Int)(ro mi li:List Int)(pre:List (Nat×AO))(n:Nat):St:=wJ J ro mi li (fM 15) (aa (.int 4)) none (aa (.ref 21)) [(So "place",.int P)] (pre++[(21,.list ((GH J).map .int))]) n
noncomputable abbrev QF(P:Int)(li:List Int):List (Nat×AO):=[(31,.list (li.map .int)),(30,.list ((Jt P).map .int)),(29,.list (([4,0,3,1].drop P.toNat:List Int).map .int)),(28,.list (([4,0,3,1]:List Int).map .int)),(27,.list (([4,0,3,1].take P.toNat++[2]:List Int).map .int)),(26,.list (([2]:List Int).map .int)),(25,.list (([4,0,3,1].take P.toNat:List Int).map .int)),(24,.list (([4,0,3,1]:List Int).map .int)),(23,.list (aw 15 [CV.none]).flatten),(22,.list [.none])]
seal a8 cS SS eY bM dD bN eC cU cI ef eX cR gc dJ jK SK SF l5 pD kP uv pQ ia
unseal st in
theorem lw6(B:aO G 6):SS G 11 (eL tk) (az (fB (st 21)) 6) ((wK J ro mi li (fM 15) (aa (.int 4)) 5 [] 24).del 23) .next (wP J (Wk J) ro mi li [] 22):=by
 conv in az (fB (st 21)) 6=>whnf
 refine .shp (.assign (.bin (.sub (.cell U U) .int (cz U ay (td J (i:=2) ay) (by show 5<2^62;decide)))
  (.n_ jc bE m_ (.slice (.sub (.cell U U) .int (cz U ay (c:=.ref 14) U (by show 5<2^62;decide))) .no (.at .int) .no (sY (ns:=E3 J 2) U ay (by show 5<2^20;decide))) (gk U) (.cons .int .nil) (list_count (ns:=(E3 J 2).take (2:Int).toNat) U)) jq) (.loc (m':=fJ []) U)) ?hs
 case hs =>
  refine gN.mk [(11,11),(12,12),(13,13),(14,14),(15,15),(16,16),(17,17),(18,18),(19,19),(20,20),(21,21)] U U ⟨⟨_,U,aS⟩,⟨_,U,jr⟩,⟨_,U,aS⟩,⟨_,U,aS⟩,⟨_,U,aS⟩,aD,aD,aD,aD,aD,aD,
   aD,aD,aD,aD,aD,aD,⟨_,U,_,U,U,U,U,aE⟩,aD,aD,aD,aD,aE⟩
theorem Yp(B:aO G 6)(hh:G.A.handled=none)(h3:3<=ro.length)(hl:ro.length<=1000):rU G (Nf G [4]) (λvs ws=>call (.ref 243) vs ([].zip ws)) [.ref 17] [] (wP J P ro mi li (QF P li) 32) (.bool af) (wP J P ro mi li (QF P li) 32):=by
 obtain⟨AG,A1,A2,A3⟩:=B.Dg;obtain⟨g',g,sp⟩:=VI AG;refine rU.raw (k:=4) U U λr8 hr=>?_;exact rU.rC (σ:=(wP J P ro mi li (QF P li) 32).set 4 (.frame r8)) (τ0:=hT0 r8 ro) (τ1:=PT g' g ro r8) (c0:=.bool af) (news:=[]) (n':=32) (l:=[(17,0),(1,1),(4,2)]) (l2:=[]) (cs0:=[.ref 0]) (ks0:=[]) (C0:=Nf G [2]) (λα Af cα SD=>Mz cα (SD 2)) U U U U U ⟨⟨_,U,qY hr⟩,aD,⟨_,U,aS⟩,aE⟩ ⟨⟨_,_,U,U,aS⟩,⟨_,_,U,U,U⟩,⟨_,_,U,U,qY hr⟩,aE⟩ aE
  (λh k=>sp _ ((B.le (m:=5) U).ext k) hh (A1.ext k) (A2.keeps k) (A3.keeps k) _ h3 hl _ hr) U U U
unseal st in
theorem lw7(B:aO G 6)(hh:G.A.handled=none)(hP:0<=P)(hR:ro=Jt P)(h3:3<=ro.length)(hl:ro.length<=1000)(hp:li.Perm (GH J))(ho:li.Pairwise (·<=·)):
  pD G [4] 11 (eL tk) (az (fB (st 21)) 7) (wP J P ro mi li [] 22) .next (wP J P ro mi li [] 22):=by
 conv in az (fB (st 21)) 7=>whnf
 obtain⟨AG,A1,A2,A3⟩:=B.Dg;have hn:Lay 1 (.list (aw 15 .none)):=.list (Bn 15);refine .shp (.js (b:=false) (.G8 (.cmp (.loc U U) (.bin (.list (.cons .none .nil) U) .int (fG (k:=15) U U ay ay ay U)) (iX (n:=1) hn (.list (xs:=fM 15) U (vf 15)) (.list (xs:=fM 15) U (vf 15)) (B.hn ay)))
  (.G8 (.cmp (.cell U U) (.bin (.bin (.slice (.list (.cons .int (.cons .int (.cons .int (.cons .int .nil)))) U) .no (.at (.loc U U)) .no (sY (ns:=[4,0,3,1]) U hP ay)) (.list (.cons .int .nil) U) (zV (ns:=[4,0,3,1].take P.toNat) (ms:=[2]) U U (by rw[iC];show min _ 4+1<=_;lia)))
    (.slice (.list (.cons .int (.cons .int (.cons .int (.cons .int .nil)))) U) (.at (.loc U U)) .no .no (AQ (ns:=[4,0,3,1]) U hP ay)) (zV (ns:=[4,0,3,1].take P.toNat++[2]) (ms:=[4,0,3,1].drop P.toNat) U U (by rw[aB,iC,gz];show min _ 4+1+(4-_)<=_;lia)))
    (iX (n:=1) (d:=.list ((Jt P).map .int)) .ints (hR▸Rd.ints U) (Rd.ints U) (B.hn ay)))
  (.G8 (.cmp (.cell U U) (.mn (.glob (ue B)) (.cons (.cell U U) .nil) (yo (xs:=GH J) (ys:=li) U (by show 5<64;decide) hp ho)) (iX (n:=1) (d:=.list (li.map .int)) .ints (Rd.ints U) (Rd.ints U) (B.hn ay)))
  (.QQ (.not (t:=af) (.i_ A1 (.glob (YR B)) (.cons (.cell U U) .nil) (Yp B hh h3 hl))))))) .nil) ?hs
 case hs =>
  refine gN.mk [(11,11),(12,12),(13,13),(14,14),(15,15),(16,16),(17,17),(18,18),(19,19),(20,20),(21,21)] U U ⟨⟨_,U,aS⟩,⟨_,U,jr⟩,⟨_,U,aS⟩,⟨_,U,aS⟩,⟨_,U,aS⟩,aD,aD,aD,aD,aD,aD,
   aD,aD,aD,aD,aD,aD,⟨_,U,_,U,U,U,U,aE⟩,aD,aD,aD,aD,aE⟩
end
section
open PyProof
variable{G:Gv}{n tk i j k:Nat}{J:Nat->Nat->Int}{ro mi li:List Int}{te:Option CV}{more:List (Str×CV)}{g:k7}
noncomputable def Bv(J:Nat->Nat->Int)(i:Nat):Int:=5-((E3 J i).countP (·==1):Nat)
noncomputable abbrev wT(J:Nat->Nat->Int)(ro mi li:List Int)(i:Nat)(te:Option CV)(more:List (Str×CV))(pre:List (Nat×AO))(n:Nat):St:=wJ J ro mi li (fM 15) (aa (.int i)) te (aa (.ref 21)) more (pre++pI J (i+1)) n
noncomputable abbrev mq:List Stmt:=fB (az (fB (st 21)) 8)
theorem Qy(h:i<5):([.ref 12,.ref 13,.ref 14,.ref 15,.ref 16]:List CV)[((i:Nat):Int).toNat]?=aa (.ref (12+i)):=by
 have:=Ny h
 rwa [kq]at this
theorem V0(h:i<5):(wT J ro mi li j te more [(25,.fn g)] n).get (12+i)=aa (.list ((E3 J i).map .int)):=by
 match i,h with
 |0,_=>rfl
 |1,_=>rfl
 |2,_=>rfl
 |3,_=>rfl
 |4,_=>rfl
noncomputable abbrev oE(J:Nat->Nat->Int)(i:Nat)(g:k7):List (Nat×AO):=[(26,.list ([lX J i,Bv J i].map .int)),(25,.fn g)]
seal a8 cS SS eY bM dD bN eC cU cI ef eX cR gc dJ jK SK SF l5 pD kP uv pQ ia
unseal st in
theorem lb0(tk:Nat):∃g,jy g (So "one") 9 7/\∀(G:Gv)(J:Nat->Nat->Int)(ro mi li:List Int)(i:Nat)(te:Option CV),aO G 6->G.A.handled=none->iA G.h₀ 247 245->i<5 ->
  SS G 24 (eL tk) (az mq 0) (wT J ro mi li i te [] [] 25) .next (wT J ro mi li i (aa (.ref 25)) [(So "ends",.ref 26)] (oE J i g) 27):=by
 conv in az mq 0=>whnf
 apply Exists.intro;refine⟨?K,?main⟩
 case main =>
  intro G J ro mi li i te B hh A hi;refine aR (B.mods 245 ay) λmg sv mH=>?_;exact .to (.ig (.tuple (.cons (.nz (c:=247) (P:=245) (clos:=[(So "k",7),(So "judge",9)]) U U sv U A mH (k:=0) U U) (.cons (.list (.cons (.sub (.cell U U) (.cell U U) (cz U (aI _) (td J hi) (by show 5<2^62;decide)))
   (.cons (.bin .int (.n_ jc bE m_ (.sub (.cell U U) (.cell U U) (cz U (aI _) (Qy hi) (by show 5<2^62;decide))) (gk (V0 hi)) (.cons .int .nil) (list_count (V0 hi))) pG) .nil)) U) .nil)) U)
  (.tuple hh (.name (.cell U U) (.name (.loc (m':=fJ []) U) .nil))) (hw:=λenv h=>(bQ h).trans ak)) U
 case K=>exact⟨⟨λzz zz zz zz zz=>U,U,U,U,U,U,U⟩,⟨_,_,_,_,_,U⟩,U,⟨U,U⟩⟩
end
section
open PyProof
variable{G:Gv}{n i j k a:Nat}{e':Env}{X0:Str}{c0:Nat->CV}{F:Nat->CV}{xs:List CV}{fr:List (Str×CV)}{Y:List (Nat×AO)}{elt i0:Expr}{scope:jk}{pos p1 p2 p3 p4 p6:Pos}{k1 k2:Nat}{out:List CV}
noncomputable def jg:Nat->Int
 |0=>1
 |_=>2
noncomputable abbrev wx:List CV:=[.int 1,.int 2]
theorem qX(h:j<2):wx[j]?=aa (.int (jg j)):=by
 rcases j with _|_|j
 ·rfl
 ·rfl
 ·lia
noncomputable def mI(X0:Str)(c0:Nat->CV)(i:Nat):Nat->List (Str×CV)
 |0=>[(X0,c0 i)]
 |j+1=>[(X0,c0 i),(So "low",.int (jg j))]
theorem vZ(h:(So "low"==X0)=false):upd (mI X0 c0 a j) (So "low") (.int (jg j))=mI X0 c0 a (j+1):=by
 cases j with
 |zero=>show(match(So "low"==X0)with|true=>_|false=>_ )=_;rw[h];rfl
 |succ j=>show(match(So "low"==X0)with|true=>_|false=>_ )=_;rw[h];rfl
noncomputable abbrev dblG(X0:Str)(i0:Expr)(p1 p2 p3 p4 p6:Pos)(k1 k2:Nat):List dq:=[⟨.Name X0 p1,i0,[],0⟩,⟨.Name (So "low") p2,.List [.Constant (.int 1) k1 p3,.Constant (.int 2) k2 p4] p6,[],0⟩]
theorem qV{F:Nat->CV}(h:k<=4):(dI F k).length<=bC:=kG (au h ay)
theorem Tt(hi:i<2)(hj:j<2):2*i+j<=4:=by lia
seal a8 cS SS eY bM dD bN eC cU cI ef eX cR gc dJ jK SK SF l5 pD kP uv pQ ia
noncomputable abbrev vY(Y:List (Nat×AO))(i:Nat):St:=⟨(28,.ix 27 i)::Y,29⟩
noncomputable abbrev oY(Y:List (Nat×AO))(i j:Nat)(out:List CV)(fr:List (Str×CV)):St:=⟨[(32,.ix 31 j),(31,.list wx),(30,.frame fr),(29,.list out),(28,.ix 27 i)]++Y,33⟩
noncomputable abbrev O_(Y:List (Nat×AO))(i:Nat)(out:List CV)(fr:List (Str×CV)):St:=(oY Y i 2 out fr).del 32
theorem Wb(he:e'.locals=30)(hk:bB e' (So "low") .local=af)(hX:(So "low"==X0)=false):dJ G e' (So "low") (.int (jg j)) (oY Y i k out (mI X0 c0 a j)) (oY Y i k out (mI X0 c0 a (j+1))):=by
 have:=dJ.loc (G:=G) (c:=.int (jg j)) (σ:=oY Y i k out (mI X0 c0 a j)) (m':=mI X0 c0 a j) (he▸U) hk;rw[he,vZ hX]at this;exact this
theorem abx(hh:G.A.handled=none)(he:e'.locals=30)(hb:EB 33 e'=af)(hk:bB e' (So "low") .local=af)(hX:(So "low"==X0)=false)
  (h:∀j out,j<2->a8 G e' elt (oY Y (i+1) (j+1) out (mI X0 c0 i (j+1))) (F (2*i+j)) (oY Y (i+1) (j+1) out (mI X0 c0 i (j+1)))) (sx:i<2):
  cI G 31 e' (λit acc env=>.compStart (.ListComp elt (dblG X0 i0 p1 p2 p3 p4 p6 k1 k2) scope pos) 1 it acc env) 32 29 (oY Y (i+1) 0 (dI F (2*i)) (mI X0 c0 i 0)) (O_ Y (i+1) (dI F (2*i+2)) (mI X0 c0 i 2)):=
 cI.start U U (fE U) (cI.loop (m':=33) 2 (λj=>oY Y (i+1) j (dI F (2*i+j)) (mI X0 c0 i j)) hb ay ay ay (AE _ _ _ _ _ _)
  (λj hj=>⟨_,⟨_,_,oY Y (i+1) (j+1) (dI F (2*i+j)) (mI X0 c0 i (j+1)),X.names U U (qX hj),.name (Wb he hk hX),.ml (h j _ hj) U (qV (Tt sx hj)) gK⟩,.refl⟩) (D.list hh U U U))
theorem Wo(hh:G.A.handled=none)(he:e'.locals=30)(hb:EB 31 e'=af)(I_:EB 33 e'=af)(hk:bB e' (So "low") .local=af)(Yf:bB e' X0 .local=af)(hX:(So "low"==X0)=false)
  (hY:dh Y 27=aa (.list xs)) (XQ:xs.length=2) (XP:∀i,i<2->xs[i]?=aa (c0 i))
  (hS:∀i k fr,gN 31 (O_ Y (i+1) (dI F k) fr) (PP (vY Y (i+1)) (dI F k) []))
  (h:∀i j out,i<2->j<2->a8 G e' elt (oY Y (i+1) (j+1) out (mI X0 c0 i (j+1))) (F (2*i+j)) (oY Y (i+1) (j+1) out (mI X0 c0 i (j+1)))):
  cI G 31 e' (λit acc env=>.compStart (.ListComp elt (dblG X0 i0 p1 p2 p3 p4 p6 k1 k2) scope pos) 0 it acc env) 28 29 (PP (vY Y 0) [] []) ((PP (vY Y 2) (dI F 4) []).del 28):=
 cI.sf (N:=29) (n:=2) (vY Y) c0 (λi=>dI F (2*i)) (λzz=>U) hb ay U U U (F1 _ _ _ _ _ _ _ _) (fE U)
  (λi sx=>⟨_,PP (vY Y (i+1)) (dI F (2*i)) (mI X0 c0 i 0),_,X.names U hY (XP i sx),.name (by
   have:=dJ.loc (G:=G) (c:=c0 i) (σ:=PP (vY Y (i+1)) (dI F (2*i)) []) (m':=[]) (he▸U) Yf;rw[he]at this;exact this),.next hh (.list (.cons .int (.cons .int .nil)) U) (dP U) (abx (i0:=i0) (p1:=p1) hh he I_ hk hX (λj out hj=>h i j out sx hj) sx),hS i _ _⟩) (D.list hh U hY XQ)
noncomputable abbrev vX(Y:List (Nat×AO))(i:Nat):St:=⟨(32,.ix 31 i)::Y,33⟩
noncomputable abbrev rV(Y:List (Nat×AO))(i j:Nat)(out:List CV)(fr:List (Str×CV)):St:=⟨[(36,.ix 35 j),(35,.list wx),(34,.frame fr),(33,.list out),(32,.ix 31 i)]++Y,37⟩
noncomputable abbrev O9(Y:List (Nat×AO))(i:Nat)(out:List CV)(fr:List (Str×CV)):St:=(rV Y i 2 out fr).del 36
theorem Wa(he:e'.locals=34)(hk:bB e' (So "low") .local=af)(hX:(So "low"==X0)=false):dJ G e' (So "low") (.int (jg j)) (rV Y i k out (mI X0 c0 a j)) (rV Y i k out (mI X0 c0 a (j+1))):=by
 have:=dJ.loc (G:=G) (c:=.int (jg j)) (σ:=rV Y i k out (mI X0 c0 a j)) (m':=mI X0 c0 a j) (he▸U) hk;rw[he,vZ hX]at this;exact this
theorem abw(hh:G.A.handled=none)(he:e'.locals=34)(hb:EB 37 e'=af)(hk:bB e' (So "low") .local=af)(hX:(So "low"==X0)=false)
  (h:∀j out,j<2->a8 G e' elt (rV Y (i+1) (j+1) out (mI X0 c0 i (j+1))) (F (2*i+j)) (rV Y (i+1) (j+1) out (mI X0 c0 i (j+1)))) (sx:i<2):
  cI G 35 e' (λit acc env=>.compStart (.ListComp elt (dblG X0 i0 p1 p2 p3 p4 p6 k1 k2) scope pos) 1 it acc env) 36 33 (rV Y (i+1) 0 (dI F (2*i)) (mI X0 c0 i 0)) (O9 Y (i+1) (dI F (2*i+2)) (mI X0 c0 i 2)):=
 cI.start U U (fE U) (cI.loop (m':=37) 2 (λj=>rV Y (i+1) j (dI F (2*i+j)) (mI X0 c0 i j)) hb ay ay ay (AE _ _ _ _ _ _)
  (λj hj=>⟨_,⟨_,_,rV Y (i+1) (j+1) (dI F (2*i+j)) (mI X0 c0 i (j+1)),X.names U U (qX hj),.name (Wa he hk hX),.ml (h j _ hj) U (qV (Tt sx hj)) gK⟩,.refl⟩) (D.list hh U U U))
theorem Wn(hh:G.A.handled=none)(he:e'.locals=34)(hb:EB 35 e'=af)(I_:EB 37 e'=af)(hk:bB e' (So "low") .local=af)(Yf:bB e' X0 .local=af)(hX:(So "low"==X0)=false)
  (hY:dh Y 31=aa (.list xs)) (XQ:xs.length=2) (XP:∀i,i<2->xs[i]?=aa (c0 i))
  (hS:∀i k fr,gN 35 (O9 Y (i+1) (dI F k) fr) (PP (vX Y (i+1)) (dI F k) []))
  (h:∀i j out,i<2->j<2->a8 G e' elt (rV Y (i+1) (j+1) out (mI X0 c0 i (j+1))) (F (2*i+j)) (rV Y (i+1) (j+1) out (mI X0 c0 i (j+1)))):
  cI G 35 e' (λit acc env=>.compStart (.ListComp elt (dblG X0 i0 p1 p2 p3 p4 p6 k1 k2) scope pos) 0 it acc env) 32 33 (PP (vX Y 0) [] []) ((PP (vX Y 2) (dI F 4) []).del 32):=
 cI.sf (N:=33) (n:=2) (vX Y) c0 (λi=>dI F (2*i)) (λzz=>U) hb ay U U U (F1 _ _ _ _ _ _ _ _) (fE U)
  (λi sx=>⟨_,PP (vX Y (i+1)) (dI F (2*i)) (mI X0 c0 i 0),_,X.names U hY (XP i sx),.name (by
   have:=dJ.loc (G:=G) (c:=c0 i) (σ:=PP (vX Y (i+1)) (dI F (2*i)) []) (m':=[]) (he▸U) Yf;rw[he]at this;exact this),.next hh (.list (.cons .int (.cons .int .nil)) U) (dP U) (abw (i0:=i0) (p1:=p1) hh he I_ hk hX (λj out hj=>h i j out sx hj) sx),hS i _ _⟩) (D.list hh U hY XQ)
noncomputable abbrev vW(Y:List (Nat×AO))(i:Nat):St:=⟨(30,.ix 26 i)::Y,31⟩
noncomputable abbrev sJ(Y:List (Nat×AO))(i j:Nat)(out:List CV)(fr:List (Str×CV)):St:=⟨[(34,.ix 33 j),(33,.list wx),(32,.frame fr),(31,.list out),(30,.ix 26 i)]++Y,35⟩
noncomputable abbrev O8(Y:List (Nat×AO))(i:Nat)(out:List CV)(fr:List (Str×CV)):St:=(sJ Y i 2 out fr).del 34
theorem V'(he:e'.locals=32)(hk:bB e' (So "low") .local=af)(hX:(So "low"==X0)=false):dJ G e' (So "low") (.int (jg j)) (sJ Y i k out (mI X0 c0 a j)) (sJ Y i k out (mI X0 c0 a (j+1))):=by
 have:=dJ.loc (G:=G) (c:=.int (jg j)) (σ:=sJ Y i k out (mI X0 c0 a j)) (m':=mI X0 c0 a j) (he▸U) hk;rw[he,vZ hX]at this;exact this
theorem abv(hh:G.A.handled=none)(he:e'.locals=32)(hb:EB 35 e'=af)(hk:bB e' (So "low") .local=af)(hX:(So "low"==X0)=false)
  (h:∀j out,j<2->a8 G e' elt (sJ Y (i+1) (j+1) out (mI X0 c0 i (j+1))) (F (2*i+j)) (sJ Y (i+1) (j+1) out (mI X0 c0 i (j+1)))) (sx:i<2):
  cI G 33 e' (λit acc env=>.compStart (.ListComp elt (dblG X0 i0 p1 p2 p3 p4 p6 k1 k2) scope pos) 1 it acc env) 34 31 (sJ Y (i+1) 0 (dI F (2*i)) (mI X0 c0 i 0)) (O8 Y (i+1) (dI F (2*i+2)) (mI X0 c0 i 2)):=
 cI.start U U (fE U) (cI.loop (m':=35) 2 (λj=>sJ Y (i+1) j (dI F (2*i+j)) (mI X0 c0 i j)) hb ay ay ay (AE _ _ _ _ _ _)
  (λj hj=>⟨_,⟨_,_,sJ Y (i+1) (j+1) (dI F (2*i+j)) (mI X0 c0 i (j+1)),X.names U U (qX hj),.name (V' he hk hX),.ml (h j _ hj) U (qV (Tt sx hj)) gK⟩,.refl⟩) (D.list hh U U U))
theorem Wm(hh:G.A.handled=none)(he:e'.locals=32)(hb:EB 33 e'=af)(I_:EB 35 e'=af)(hk:bB e' (So "low") .local=af)(Yf:bB e' X0 .local=af)(hX:(So "low"==X0)=false)
  (hY:dh Y 26=aa (.list xs)) (XQ:xs.length=2) (XP:∀i,i<2->xs[i]?=aa (c0 i))
  (hS:∀i k fr,gN 33 (O8 Y (i+1) (dI F k) fr) (PP (vW Y (i+1)) (dI F k) []))
  (h:∀i j out,i<2->j<2->a8 G e' elt (sJ Y (i+1) (j+1) out (mI X0 c0 i (j+1))) (F (2*i+j)) (sJ Y (i+1) (j+1) out (mI X0 c0 i (j+1)))):
  cI G 33 e' (λit acc env=>.compStart (.ListComp elt (dblG X0 i0 p1 p2 p3 p4 p6 k1 k2) scope pos) 0 it acc env) 30 31 (PP (vW Y 0) [] []) ((PP (vW Y 2) (dI F 4) []).del 30):=
 cI.sf (N:=31) (n:=2) (vW Y) c0 (λi=>dI F (2*i)) (λzz=>U) hb ay U U U (F1 _ _ _ _ _ _ _ _) (fE U)
  (λi sx=>⟨_,PP (vW Y (i+1)) (dI F (2*i)) (mI X0 c0 i 0),_,X.names U hY (XP i sx),.name (by
   have:=dJ.loc (G:=G) (c:=c0 i) (σ:=PP (vW Y (i+1)) (dI F (2*i)) []) (m':=[]) (he▸U) Yf;rw[he]at this;exact this),.next hh (.list (.cons .int (.cons .int .nil)) U) (dP U) (abv (i0:=i0) (p1:=p1) hh he I_ hk hX (λj out hj=>h i j out sx hj) sx),hS i _ _⟩) (D.list hh U hY XQ)
end
section
open PyProof
variable{G:Gv}{n m tk i j k a r q it:Nat}{e:Env}{σ σ1 σ2:St}{J:Nat->Nat->Int}{ro mi li ns:List Int}{out:List CV}{fr:List (Str×CV)}{g:k7}{x lo:Int}{b:Nat}{nm:Str}
noncomputable def sF:Nat->Nat
 |0=>57
 |_=>39
noncomputable abbrev Dz:List CV:=[.val (.ref 57),.val (.ref 39)]
theorem Cd(i:Nat)(h:i<2):Dz[i]?=aa (.val (.ref (sF i))):=by
 rcases i with _|_|i
 ·rfl
 ·rfl
 ·lia
noncomputable def Gn(J:Nat->Nat->Int)(ro:List Int)(q i:Nat)(lo:Int):Int:=match i with
 |0=>jD (λk=>!decide (J q (ro.getD k.toNat 0).toNat<0)) (lo+2-lo).toNat lo (lo+2)
 |_=>jD (λk=>decide (0<J q (ro.getD k.toNat 0).toNat)) (lo+2-lo).toNat lo (lo+2)
noncomputable def Gm(x:Int)(li:List Int)(i:Nat)(lo:Int):Int:=match i with
 |0=>jD (λk=>!decide (li.getD k.toNat 0<x)) (lo+2-lo).toNat lo (lo+2)
 |_=>jD (λk=>decide (x<li.getD k.toNat 0)) (lo+2-lo).toNat lo (lo+2)
noncomputable def fK(J:Nat->Nat->Int)(ro:List Int)(q k:Nat):Int:=Gn J ro q (k/2) (jg (k % 2))
noncomputable def fP(x:Int)(li:List Int)(k:Nat):Int:=Gm x li (k/2) (jg (k % 2))
theorem S7{γ:Type}(f:Nat->Nat->γ)(hi:i<2)(hj:j<2):f ((2*i+j)/2) ((2*i+j) % 2)=f i j:=by
 rcases i with _|_|i
 ·rcases j with _|_|j
  ·rfl
  ·rfl
  ·lia
 ·rcases j with _|_|j
  ·rfl
  ·rfl
  ·lia
 ·lia
theorem Iy(hj:j<2)(hl:ns.length=5):0<=jg j/\jg j<=jg j+2/\jg j+2<=ns.length:=by
 rw[hl];rcases j with _|_|j
 ·exact⟨by decide,by decide,by decide⟩
 ·exact⟨by decide,by decide,by decide⟩
 ·lia
theorem sm{f:Nat->Int}{r:Nat->Nat}:jt r (.list (dI (λk=>.int (f k)) n)) (.list (dI (λk=>.int (f k)) n)):=by
 have:∀l:List Nat,cK r (l.map λk=>CV.int (f k))=l.map λk=>CV.int (f k):=by
  intro l
  induction l with
  |nil=>rfl
  |cons k l ih=>exact congrArg (CV.int (f k)::·) ih
 exact congrArg AO.list (this _).symm
theorem wD{r:Nat->Nat}(K:jy g nm 9 7)(h:r 7=7)(h':r 9=9):jt r (.fn g) (.fn g):=lL (by rw[K.clos];show [(So "k",r 7),(So "judge",r 9)]=_;rw[h,h'])
noncomputable abbrev YA(J:Nat->Nat->Int)(ro mi li:List Int)(i:Nat)(g:k7):List (Nat×AO):=(wT J ro mi li i (aa (.ref 25)) [(So "ends",.ref 26)] ([(27,.list Dz)]++oE J i g) 28).objs
noncomputable abbrev YB(J:Nat->Nat->Int)(ro mi li:List Int)(i:Nat)(g:k7):List (Nat×AO):=(wT J ro mi li i (aa (.ref 25)) [(So "ends",.ref 26)] ([(31,.list Dz),(29,.list (dI (λk=>.int (fK J ro i k)) 4)),(27,.list Dz)]++oE J i g) 32).objs
theorem hSA{f:Nat->Int}(K:jy g nm 9 7):gN 31 (O_ (YA J ro mi li i g) (a+1) (dI (λk=>.int (f k)) n) fr) (PP (vY (YA J ro mi li i g) (a+1)) (dI (λk=>.int (f k)) n) []):=
 gN.mk [] U U ⟨⟨_,U,_,U,aE⟩,⟨_,U,sm⟩,aD,aD,aD,⟨_,U,wD K U U⟩,aD,aD,⟨_,U,aS⟩,⟨_,U,jr⟩,⟨_,U,aS⟩,⟨_,U,aS⟩,⟨_,U,aS⟩,aD,aD,aD,aD,aD,
  aD,aD,aD,aD,aD,aD,aD,⟨_,U,_,U,U,U,U,aE⟩,aD,aD,aD,aD,aE⟩
theorem hSB{f:Nat->Int}(K:jy g nm 9 7):gN 35 (O9 (YB J ro mi li i g) (a+1) (dI (λk=>.int (f k)) n) fr) (PP (vX (YB J ro mi li i g) (a+1)) (dI (λk=>.int (f k)) n) []):=
 gN.mk [] U U ⟨⟨_,U,_,U,aE⟩,⟨_,U,sm⟩,aD,aD,⟨_,U,sm⟩,aD,aD,⟨_,U,wD K U U⟩,aD,aD,⟨_,U,aS⟩,⟨_,U,jr⟩,⟨_,U,aS⟩,⟨_,U,aS⟩,⟨_,U,aS⟩,aD,aD,aD,aD,aD,
  aD,aD,aD,aD,aD,aD,aD,⟨_,U,_,U,U,U,U,aE⟩,aD,aD,aD,aD,aE⟩
theorem VX{f:List aq->List aq->Sem aq}{cs0: List CV}{r: Int}{r8: List (Str×CV)}(K:jy g nm 9 7){a: Nat}(spec:∀h₀,(∀b o,G.h₀.get? b=aa o->h₀.get? b=aa o)->SK (ext G h₀) f (.ref 0::cs0) [.ref 1] ⟨oJ (gS g) i J ro,10⟩ (.int r) (Zo (oJ (gS g) i J ro) 10 r8))(r6:∀r,cK r cs0=cs0):
  SK G f (.ref 17::cs0) [.ref 25] (oY (YA J ro mi li i g) a b out fr) (.int r) (oY (YA J ro mi li i g) a b out fr):=
 SK.m7 (σ':=oY (YA J ro mi li i g) a b out fr) (τ0:=⟨oJ (gS g) i J ro,10⟩) (l:=[(17,0),(25,1),(9,2),(7,3),(11,4),(12,5),(13,6),(14,7),(15,8),(16,9)]) (c:=.int r) (cs0:=.ref 0::cs0) (ks0:=[.ref 1]) U U U
  ⟨aD,aD,aD,aD,aD,aD,aD,aD,⟨_,U,CB K U U⟩,⟨_,U,aS⟩,aE⟩ U (λzz zz e zz=>e)
  ⟨⟨_,_,U,U,aS⟩,⟨_,_,U,U,wC K U U⟩,⟨_,_,U,U,U⟩,⟨_,_,U,U,U⟩,⟨_,_,U,U,U⟩,⟨_,_,U,U,U⟩,⟨_,_,U,U,U⟩,⟨_,_,U,U,U⟩,⟨_,_,U,U,U⟩,⟨_,_,U,U,U⟩,aE⟩
  spec (congrArg (CV.ref 17::·) (r6 _).symm) U U
theorem Xu(B:aO G 4)(K:jy g nm 9 7)(hq:q<5)(hd:∀x∈ro,0<=x/\x<5)(hl:ro.length=5)(hi:i<2)(hj:j<2){a b: Nat}:
  ∃fd,eZ G (sF i) fd/\SK G (λvs ws=>call (.ref (sF i)) vs ([So "key"].zip ws)) [.ref 17,.int 0,.int (jg j),.int (jg j+2)] [.ref 25] (oY (YA J ro mi li q g) a b out fr) (.int (fK J ro q (2*i+j))) (oY (YA J ro mi li q g) a b out fr):=by
 have h:=Iy (ns:=ro) hj hl;have xW:ro.length<2^20:=by rw[hl];decide
 rw[show fK J ro q (2*i+j)=Gn J ro q i (jg j)from S7 (λi j=>Gn J ro q i (jg j)) hi hj];rcases i with _|_|i
 ·exact⟨_,B.defAt qE qA,VX K (λh₀ k=>Qn (hi:=aa (jg j+2)) (x:=0) (B.le (m:=3) U |>.ext k) K.small hq hd xW h.1 h.2.1 h.2.2 U) λzz=>U⟩
 ·exact⟨_,B.defAt qF qB,VX K (λh₀ k=>Qo (hi:=aa (jg j+2)) (x:=0) (B.le (m:=3) U |>.ext k) K.small hq hd xW h.1 h.2.1 h.2.2 U) λzz=>U⟩
 ·lia
theorem Xt(B:aO G 4)(hl:li.length=5)(hi:i<2)(hj:j<2)(h0:σ.get 19=aa (.list (li.map .int))):
  ∃fd,eZ G (sF i) fd/\bM G (λvs=>call (.ref (sF i)) vs) [.ref 19,.int x,.int (jg j),.int (jg j+2)] σ (.int (fP x li (2*i+j))) σ:=by
 have h:=Iy (ns:=li) hj hl;have xW:li.length<2^60:=by rw[hl];decide
 rw[show fP x li (2*i+j)=Gm x li i (jg j)from S7 (λi j=>Gm x li i (jg j)) hi hj];rcases i with _|_|i
 ·exact⟨_,B.defAt qE qA,SK.sU (g:=λvs=>call (.ref 57) vs) (SK.CL h0 (λh₀ k=>Gp (hi:=aa (jg j+2)) (B.le (m:=1) U |>.ext k) xW h.1 h.2.1 h.2.2 U) U (λzz=>U) λzz=>U)⟩
 ·exact⟨_,B.defAt qF qB,SK.sU (g:=λvs=>call (.ref 39) vs) (SK.CL h0 (λh₀ k=>Gq (hi:=aa (jg j+2)) (B.le (m:=1) U |>.ext k) xW h.1 h.2.1 h.2.2 U) U (λzz=>U) λzz=>U)⟩
 ·lia
noncomputable def CP(J:Nat->Nat->Int)(ro li:List Int)(i:Nat):List Int:=[fK J ro i 0,fK J ro i 1,fK J ro i 2,fK J ro i 3,fP (lX J i) li 0,fP (lX J i) li 1,fP (lX J i) li 2,fP (lX J i) li 3]
noncomputable abbrev oH(J:Nat->Nat->Int)(ro li:List Int)(i:Nat)(g:k7):List (Nat×AO):=(27,.list ((CP J ro li i).map .int))::oE J i g
seal a8 cS SS eY bM dD bN eC cU cI ef eX cR gc dJ jK SK SF l5 pD kP uv pQ ia
unseal st in
theorem lk1(B:aO G 6)(hh:G.A.handled=none)(K:jy g nm 9 7)(hi:i<5)(hd:∀x∈ro,0<=x/\x<5)(hl:ro.length=5)(xW:li.length=5):
  SS G 24 (eL tk) (az mq 1) (wT J ro mi li i (aa (.ref 25)) [(So "ends",.ref 26)] (oE J i g) 27) .next (wT J ro mi li i (aa (.ref 25)) [(So "ends",.ref 26),(So "held",.ref 27)] (oH J ro li i g) 28):=by
 conv in az mq 1=>whnf
 refine .shp (.assign (.bin (.comp (mm:=[]) (it:=28) (c:=.ref 27) (σ1:=⟨YA J ro mi li i g,28⟩) (σ2:=vY (YA J ro mi li i g) 0) (σ3:=(PP (vY (YA J ro mi li i g) 2) (dI (λk=>.int (fK J ro i k)) 4) []).del 28) 31 (cl:=[(So "tell",8),(So "row",5)]) ak ak
   (.list (.cons (.glob (zi B)) (.cons (.glob (zj B)) .nil)) U) (dP U) (show 30<31 by decide) ?hA U)
  (.comp (mm:=[]) (it:=32) (c:=.ref 31) (σ1:=⟨YB J ro mi li i g,32⟩) (σ2:=vX (YB J ro mi li i g) 0) (σ3:=(PP (vX (YB J ro mi li i g) 2) (dI (λk=>.int (fP (lX J i) li k)) 4) []).del 32) 35 (cl:=[(So "ranks",10),(So "line",6),(So "k",7)]) ak ak
   (.list (.cons (.glob (zi B)) (.cons (.glob (zj B)) .nil)) U) (dP U) (show 34<35 by decide) ?hB U)
  (add_lists U U (show 4+4<=bC by decide))) (.loc (m':=fJ [(So "ends",.ref 26)]) U)) ?hs
 case hA =>
  refine Wo (c0:=λi=>.val (.ref (sF i))) (xs:=Dz) (X0:=So "search") hh U U U ak ak ak U U Cd (λzz zz zz=>hSA K) λa b out ha hb=>?_;refine aR (Xu (G:=G) (J:=J) (mi:=mi) (li:=li) (out:=out) (a:=a+1) (b:=b+1) (fr:=mI (So "search") (λi=>.val (.ref (sF i))) a (b+1)) (B.le (m:=4) U) K hi hd hl ha hb) λfd D L=>?_;exact .oM (names:=[So "key"]) D (.loc U U) (.cons (.cell U U) (.cons .int (.cons (.loc U U) (.cons (.bin (.loc U U) .int jq) .nil)))) (.cons (.cell U U) .nil) L
 case hB =>
  refine Wn (c0:=λi=>.val (.ref (sF i))) (xs:=Dz) (X0:=So "search") hh U U U ak ak ak U U Cd (λzz zz zz=>hSB K) λa b out ha hb=>?_;refine aR (Xt (σ:=rV (YB J ro mi li i g) (a+1) (b+1) out (mI (So "search") (λi=>.val (.ref (sF i))) a (b+1))) (x:=lX J i) (B.le (m:=4) U) xW ha hb U) λfd D L=>?_;exact .i_ D (.loc U U) (.cons (.cell U U) (.cons (.sub (.cell U U) (.cell U U) (cz U (aI _) (td J hi) (by show 5<2^62;decide))) (.cons (.loc U U) (.cons (.bin (.loc U U) .int jq) .nil)))) L
 case hs =>
  exact gN.mk [(25,25),(26,26),(27,35)] U U ⟨aD,aD,⟨_,U,wD K U U⟩,aD,aD,⟨_,U,aS⟩,⟨_,U,jr⟩,⟨_,U,aS⟩,⟨_,U,aS⟩,⟨_,U,aS⟩,aD,aD,aD,aD,aD,
   aD,aD,aD,aD,aD,aD,aD,⟨_,U,_,U,U,U,U,U,aE⟩,aD,aD,aD,aD,aE⟩
end
section
open PyProof
variable{G:Gv}{n m tk i k a r q it:Nat}{e:Env}{σ1 σ2:St}{J:Nat->Nat->Int}{ro mi li:List Int}{out:List CV}{ra:Option CV}{fr:List (Str×CV)}{g:k7}{x lo P:Int}{nm:Str}
section
variable{xs:List Int}{x r:Int}
theorem aaG(B:aO G 1)(dw:xs.length<2^60)(hr:jD (λk=>decide (x<xs.getD k.toNat 0)) ((xs.length:Int)-0).toNat 0 xs.length=r):
  SK G (λvs ws=>call (.ref 39) vs ([].zip ws)) [.ref 0,.int x] [] (sP xs) (.int r) (Zp xs (bF (.ref 0) (.int x) (.int r) (.int r) (.none))):=
 SK.fj (names:=[]) (m:=2) (f:=.ret (.int r)) (rb:=[(So "key",.none),(So "hi",.none),(So "lo",.int 0),(So "x",.int x),(So "a",.ref 0)]) B.cQ (B.defAt qF qB) B.cP (B.d5 rj) Lr (Et λα s va vx g ra rx=>⟨_,acr (i5 B.KS g) va vx,U,.aZ fo (.aZ fo (.aZ ni (.aZ rx (.aZ ra cy))))⟩) ak U ak λenv=>Vl B.deep dw (hi:=bz) (b_ 0) (aI _) (b_ _) hr
end
noncomputable def VW(J:Nat->Nat->Int)(ro:List Int)(q:Nat):Int:=jD (λk=>!decide (J q (ro.getD k.toNat 0).toNat<0)) ((ro.length:Int)-0).toNat 0 ro.length
noncomputable def VV(J:Nat->Nat->Int)(ro:List Int)(q:Nat):Int:=jD (λk=>decide (0<J q (ro.getD k.toNat 0).toNat)) ((ro.length:Int)-0).toNat 0 ro.length
noncomputable def Nw(x:Int)(li:List Int):Int:=jD (λk=>!decide (li.getD k.toNat 0<x)) ((li.length:Int)-0).toNat 0 li.length
noncomputable def Nv(x:Int)(li:List Int):Int:=jD (λk=>decide (x<li.getD k.toNat 0)) ((li.length:Int)-0).toNat 0 li.length
noncomputable def wo(J:Nat->Nat->Int)(ro li:List Int)(i:Nat):List Int:=[VW J ro i,VV J ro i,Nw (lX J i) li,Nv (lX J i) li]
noncomputable def BL(e lo:Int):Int:=if(if e<lo+2 then e else lo+2)>lo then(if e<lo+2 then e else lo+2)else lo
noncomputable def fC(J:Nat->Nat->Int)(i k:Nat):Int:=BL ([lX J i,Bv J i].getD (k/2) 0) (jg (k % 2))
noncomputable abbrev wH(J:Nat->Nat->Int)(ro mi li:List Int)(i:Nat)(g:k7):St:=wT J ro mi li i (aa (.ref 25)) [(So "ends",.ref 26),(So "held",.ref 27)] (oH J ro li i g) 28
noncomputable abbrev fZ:List (Str×CV):=[(So "ends",.ref 26),(So "held",.ref 27),(So "places",.ref 28)]
noncomputable abbrev oPl(J:Nat->Nat->Int)(ro li:List Int)(i:Nat)(g:k7):List (Nat×AO):=(28,.list ((wo J ro li i).map .int))::oH J ro li i g
theorem Nu{f:List aq->List aq->Sem aq}{cs0:List CV}{r:Int}{r8:List (Str×CV)}(K:jy g nm 9 7)(spec:∀h₀,(∀b o,G.h₀.get? b=aa o->h₀.get? b=aa o)->SK (ext G h₀) f (.ref 0::cs0) [.ref 1] ⟨oJ (gS g) i J ro,10⟩ (.int r) (Zo (oJ (gS g) i J ro) 10 r8))(r6:∀r,cK r cs0=cs0):
  SK G f (.ref 17::cs0) [.ref 25] (wH J ro mi li i g) (.int r) (wH J ro mi li i g):=
 SK.m7 (σ':=wH J ro mi li i g) (τ0:=⟨oJ (gS g) i J ro,10⟩) (l:=[(17,0),(25,1),(9,2),(7,3),(11,4),(12,5),(13,6),(14,7),(15,8),(16,9)]) (c:=.int r) (cs0:=.ref 0::cs0) (ks0:=[.ref 1]) U U U
  ⟨aD,aD,aD,aD,aD,aD,aD,aD,⟨_,U,CB K U U⟩,⟨_,U,aS⟩,aE⟩ U (λzz zz e zz=>e)
  ⟨⟨_,_,U,U,aS⟩,⟨_,_,U,U,wC K U U⟩,⟨_,_,U,U,U⟩,⟨_,_,U,U,U⟩,⟨_,_,U,U,U⟩,⟨_,_,U,U,U⟩,⟨_,_,U,U,U⟩,⟨_,_,U,U,U⟩,⟨_,_,U,U,U⟩,⟨_,_,U,U,U⟩,aE⟩
  spec (congrArg (CV.ref 17::·) (r6 _).symm) U U
noncomputable abbrev YC(J:Nat->Nat->Int)(ro mi li:List Int)(i:Nat)(g:k7):List (Nat×AO):=(wT J ro mi li i (aa (.ref 25)) fZ ([(29,.list (aw 2 ([lX J i,Bv J i].map CV.int)).flatten)]++oPl J ro li i g) 30).objs
theorem hSC{f:Nat->Int}(K:jy g nm 9 7):gN 33 (O8 (YC J ro mi li i g) (a+1) (dI (λk=>.int (f k)) n) fr) (PP (vW (YC J ro mi li i g) (a+1)) (dI (λk=>.int (f k)) n) []):=
 gN.mk [] U U ⟨⟨_,U,_,U,aE⟩,⟨_,U,sm⟩,aD,aD,⟨_,U,aS⟩,⟨_,U,aS⟩,aD,⟨_,U,wD K U U⟩,aD,aD,⟨_,U,aS⟩,⟨_,U,jr⟩,⟨_,U,aS⟩,⟨_,U,aS⟩,⟨_,U,aS⟩,aD,aD,aD,aD,aD,
  aD,aD,aD,aD,aD,aD,aD,⟨_,U,_,U,U,U,U,U,U,aE⟩,aD,aD,aD,aD,aE⟩
theorem FZ(J:Nat->Nat->Int)(q i:Nat)(h:i<2):([lX J q,Bv J q].map CV.int)[i]?=aa (.int ([lX J q,Bv J q].getD i 0)):=by
 rcases i with _|_|i
 ·rfl
 ·rfl
 ·lia
noncomputable def kc8:Nat->Option CV
 |0=>aa (.int 4)
 |i+1=>aa (.int i)
noncomputable def te8:Nat->Option CV
 |0=>none
 |_+1=>aa (.ref 24)
noncomputable abbrev Ui(J:Nat->Nat->Int)(ro mi li:List Int)(i:Nat):St:=wJ J ro mi li (fM 15) (kc8 i) (te8 i) (aa (.ref 21)) [] (pI J i) 25
structure xN(J:Nat->Nat->Int)(ro li:List Int):Prop where
 dom:∀x∈ro,0<=x/\x<5
 lr:ro.length=5
 ll:li.length=5
 place:∀i,i<5->wo J ro li i=[lX J i,Bv J i,lX J i,Bv J i]
 held:∀i,i<5->CP J ro li i=[fC J i 0,fC J i 1,fC J i 2,fC J i 3,fC J i 0,fC J i 1,fC J i 2,fC J i 3]
seal a8 cS SS eY bM dD bN eC cU cI ef eX cR gc dJ jK SK SF l5 pD kP uv pQ ia
unseal st in
theorem lk2(B:aO G 6)(K:jy g nm 9 7)(hi:i<5)(H:xN J ro li):
  SS G 24 (eL tk) (az mq 2) (wH J ro mi li i g) .next (wT J ro mi li i (aa (.ref 25)) fZ (oPl J ro li i g) 29):=by
 conv in az mq 2=>whnf
 have xW:ro.length<2^20:=by rw[H.lr];decide
 have hl3:li.length<2^60:=by rw[H.ll];decide
 exact .to (.assign (.list (.cons (.oM (names:=[So "key"]) (B.defAt qE qA) (.glob (zi B)) (.cons (.cell U U) (.cons .int .nil)) (.cons (.cell U U) .nil) (Nu K (λh₀ k=>aaI (x:=0) (r:=VW J ro i) (B.le (m:=3) U |>.ext k) K.small hi H.dom xW U) λzz=>U))
  (.cons (.oM (names:=[So "key"]) (B.defAt qF qB) (.glob (zj B)) (.cons (.cell U U) (.cons .int .nil)) (.cons (.cell U U) .nil) (Nu K (λh₀ k=>aaK (x:=0) (r:=VV J ro i) (B.le (m:=3) U |>.ext k) K.small hi H.dom xW U) λzz=>U))
  (.cons (.i_ (B.defAt qE qA) (.glob (zi B)) (.cons (.cell U U) (.cons (.sub (.cell U U) (.cell U U) (cz U (aI _) (td J hi) (by show 5<2^62;decide))) .nil)) (SK.sU (g:=λvs=>call (.ref 57) vs) (SK.CL U (λh₀ k=>aaE (r:=Nw (lX J i) li) (B.le (m:=1) U |>.ext k) hl3 U) U (λzz=>U) λzz=>U)))
  (.cons (.i_ (B.defAt qF qB) (.glob (zj B)) (.cons (.cell U U) (.cons (.sub (.cell U U) (.cell U U) (cz U (aI _) (td J hi) (by show 5<2^62;decide))) .nil)) (SK.sU (g:=λvs=>call (.ref 39) vs) (SK.CL U (λh₀ k=>aaG (r:=Nv (lX J i) li) (B.le (m:=1) U |>.ext k) hl3 U) U (λzz=>U) λzz=>U))) .nil)))) U) (.loc (m':=fJ [(So "ends",.ref 26),(So "held",.ref 27)]) U)) U
unseal st in
theorem lk3(B:aO G 6)(hh:G.A.handled=none)(K:jy g nm 9 7)(hi:i<5)(H:xN J ro li):
  SS G 24 (eL tk) (az mq 3) (wT J ro mi li i (aa (.ref 25)) fZ (oPl J ro li i g) 29) .next (Ui J ro mi li (i+1)):=by
 conv in az mq 3=>whnf
 refine .shp (.js (b:=false) (.G8 (.cmp (.loc U U) (.bin (.loc U U) .int (fG (k:=2) U U (by show 2*2<=_;decide) ay ay U)) (iX (n:=1) (d:=.list ((wo J ro li i).map .int)) .ints (Rd.ints U) (H.place i hi▸Rd.ints (l:=[lX J i,Bv J i,lX J i,Bv J i]) U) (B.hn ay)))
  (.QQ (.cmp (.loc U U) (.bin (.comp (mm:=[]) (it:=30) (c:=.ref 26) (σ1:=⟨YC J ro mi li i g,30⟩) (σ2:=vW (YC J ro mi li i g) 0) (σ3:=(PP (vW (YC J ro mi li i g) 2) (dI (λk=>.int (fC J i k)) 4) []).del 30) 33 (cl:=[]) ak ak
   (.loc U U) (dP U) (show 32<33 by decide) ?hC U) .int (fG (k:=2) U U (by show 4*2<=_;decide) ay ay U))
   (iX (n:=1) (d:=.list ((CP J ro li i).map .int)) .ints (Rd.ints U) (H.held i hi▸Rd.ints (l:=[fC J i 0,fC J i 1,fC J i 2,fC J i 3,fC J i 0,fC J i 1,fC J i 2,fC J i 3]) U) (B.hn ay))))) .nil) ?hs
 case hC =>
  refine Wm (c0:=λk=>.int ([lX J i,Bv J i].getD k 0)) (xs:=[lX J i,Bv J i].map .int) (X0:=So "end") hh U U U ak ak ak U U (FZ J i) (λzz zz zz=>hSC K) λa b out ha hb=>?_;rw[show fC J i (2*a+b)=BL ([lX J i,Bv J i].getD a 0) (jg b)from S7 (λa b=>BL ([lX J i,Bv J i].getD a 0) (jg b)) ha hb];exact .mn (.glob (MT B)) (.cons (.loc U U) (.cons (.mn (.glob (MS B)) (.cons (.bin (.loc U U) .int jq) (.cons (.loc U U) .nil)) (min2 hh)) .nil)) (max2 hh)
 case hs =>
  exact gN.mk [(24,25)] U U ⟨aD,aD,⟨_,U,aS⟩,⟨_,U,jr⟩,⟨_,U,aS⟩,⟨_,U,aS⟩,⟨_,U,aS⟩,aD,aD,aD,aD,aD,
   aD,aD,aD,aD,aD,aD,aD,⟨_,U,_,U,U,U,aE⟩,aD,aD,aD,aD,aE⟩
unseal st in
theorem lw8(B:aO G 6)(hh:G.A.handled=none)(A:iA G.h₀ 247 245)(H:xN J ro li):
  SS G 11 (eL tk) (az (fB (st 21)) 8) (wP J P ro mi li [] 22) .next ((Ui J ro mi li 5).del 23):=by
 obtain⟨g,K,b0⟩:=lb0 tk;have body:∀i,i<5->eY G 24 (eL tk) mq (wT J ro mi li i (te8 i) [] [] 25) .next (Ui J ro mi li (i+1)):=λi hi=>by
  rw[show mq=[az mq 0,az mq 1,az mq 2,az mq 3] by kernel_rfl];exact .cons (b0 G J ro mi li i _ B hh A hi) (.cons (lk1 B hh K hi H.dom H.lr H.ll) (.cons (lk2 B K hi H) (.cons (lk3 B hh K hi H) .nil U) U) U) U
 conv in az (fB (st 21)) 8=>whnf
 refine .for (m':=24) (it:=23) 5 (Ui J ro mi li) U ay ay (.jS (.glob (jb B)) (.cons .int .nil) qT) (.shp (m:=24) (i6 (n:=5) U ak ak) (gN.mk [] U U ?h1) U U) (λi hi=>?_) (D.kU hh U)
 case h1 =>
  exact⟨aD,aD,⟨_,U,aS⟩,⟨_,U,jr⟩,⟨_,U,aS⟩,⟨_,U,aS⟩,⟨_,U,aS⟩,aD,aD,aD,aD,aD,
   aD,aD,aD,aD,aD,aD,aD,⟨_,U,_,U,U,U,aE⟩,aD,aD,aD,aD,aE⟩
 exact⟨_,⟨_,_,_,X.GO U hi,.name (.cell (o:=kc8 i) U U),body i hi⟩,.refl⟩
end
section
open PyProof
variable{G:Gv}{n m tk i j k r q:Nat}{e:Env}{p:Pos}{σ σ1:St}{J:Nat->Nat->Int}{ro mi li aX:List Int}{g:k7}{x y:Int}{nm:Str}
structure J4(g:k7)(nm:Str)(c:Nat):Prop where
 lam:z7 g nm
 body:∃p1 p2 p3,g.body=.Subscript (.Name (So "ranks") p1) (.Name nm p2) p3
 clos:g.clos=[(So "ranks",c)]
 free:g.scope.names.lookup (So "ranks")=aa .free
theorem J4.call{c l:Nat}{rs:List CV}(K:J4 g nm c)(room:G.A.depth<bA)(gV:G.h₀.NoLimit)(hn:σ.get n=aa (.fn g))(e1:σ.get c=aa (.cell (aa (.ref l))))(e2:σ.get l=aa (.list rs))(h1:c<σ.n)(h2:l<σ.n)(hx:0<=x)(e3:rs[x.toNat]?=aa (.int y))(hl:rs.length<2^62):
  SF G n [.int x] σ (.int y) (σ.push (.frame [(nm,.int x)])):=
 K.lam.call room gV hn λenv cv=>by
  obtain⟨p1,p2,p3,e⟩:=K.body;have kl:∀x k,g.scope.names.lookup x=aa k->bB (Ee g σ.n cv) x k=af:=λx k h=>vL (e:=Ee g σ.n cv) K.lam.kind h;have top:(σ.push (.frame [(nm,CV.int x)])).get σ.n=aa (.frame [(nm,.int x)]):=gG;have lk:([(nm,CV.int x)]:List (Str×CV)).lookup nm=aa (.int x):=by simp[jx]
  rw[e];refine .sub (.free (k:=c) (kl _ _ K.free) ?_ ((lb h1).trans e1)) (.loc top lk (kl _ _ K.lam.loc) K.lam.C4) (cz ((lb h2).trans e2) hx e3 hl);show g.clos.lookup (So "ranks")=aa c;rw[K.clos];rfl
theorem AZ:bM G (λvs=>call (.type "range") vs) [.int 4,.int (-1),.int (-1)] σ (.ref σ.n) (σ.push (.n5 4 (-1) (-1))):=by
 rintro α s _ E g ⟨_,_,rfl,⟨t,rfl⟩,_,_,rfl,⟨u,rfl⟩,_,_,rfl,⟨v,rfl⟩,rfl⟩;exact call_range_3 ay (g.tH (ao:=.n5 4 (-1) (-1)) (λzz=>⟨_,_,_,aJ _ U⟩) _)
noncomputable def NX(J:Nat->Nat->Int):List Int:=[lX J 4,lX J 3,lX J 2,lX J 1,lX J 0]
noncomputable def pM(mi:List Int):List Nat:=mi.map λx=>(4-x).toNat
structure uo(J:Nat->Nat->Int)(mi:List Int):Prop where
 run:runK 5 (λi j=>decide ((NX J).getD i 0<(NX J).getD j 0)) (kas_sort 5)=aa (pM mi).toArray
 out:(pM mi).map (λi:Nat=>(4:Int)+i*(-1))=mi
 bnd:∀i∈pM mi,i<5
 len:(pM mi).length<64
theorem uo.list(H:uo J mi):(pM mi).map (λi=>(lH 4 (-1) 5).getD i .none)=mi.map .int:=by
 have h:∀l:List Nat,(∀i∈l,i<5)->l.map (λi=>(lH 4 (-1) 5).getD i .none)=(l.map (λi:Nat=>(4:Int)+i*(-1))).map CV.int:=by
  intro l
  induction l with
  |nil=>exact λzz=>U
  |cons i l ih =>
   intro hb;rw[cn,cn,cn,ih λk hk=>hb k (.tail _ hk)]
   congr 1
   have hi:=hb i (.head _)
   match i,hi with
   |0,_=>rfl
   |1,_=>rfl
   |2,_=>rfl
   |3,_=>rfl
   |4,_=>rfl
 rw[h _ H.bnd,H.out]
noncomputable abbrev Z7(J:Nat->Nat->Int)(ro mi li:List Int)(g:k7):St:=wJ J ro mi li (fM 15) (kc8 5) (te8 5) (aa (.ref 21)) [] [(26,.fn g),(25,.n5 4 (-1) (-1)),(22,.n5 0 5 1),(21,.list ((GH J).map .int))] 27
noncomputable abbrev K8(J:Nat->Nat->Int)(ro mi li:List Int)(g:k7):St:=⟨(27,.list ((pM mi).map λi=>(lH 4 (-1) 5).getD i .none))::(Z7 J ro mi li g).objs,27+3+5⟩
theorem abt(B:aO G 3)(K:J4 g (So "k") 10)(h:i<5):SF (om (om G)) 26 [.int (4+i*(-1))] (nT (Z7 J ro mi li g) (NX J) i) (.int ((NX J).getD i 0)) ((nT (Z7 J ro mi li g) (NX J) i).push (.frame [(So "k",.int (4+i*(-1)))])):=by
 have B2:aO (om (om G)) 1:=aO.in1 (aO.in1 B);refine K.call (l:=21) (rs:=(GH J).map .int) B2.cQ B2.cP (tO (show 26<27 by decide) U) (tO (show 10<27 by decide) U) (tO (show 21<27 by decide) U) ?_ ?_ ?_ ?_ (by show 5<2^62;decide)
 ·show 10<27+3+i;lia
 ·show 21<27+3+i;lia
 ·lia
 ·match i,h with
  |0,_=>rfl
  |1,_=>rfl
  |2,_=>rfl
  |3,_=>rfl
  |4,_=>rfl
seal a8 cS SS eY bM dD bN eC cU cI ef eX cR gc dJ jK SK SF l5 pD kP uv pQ ia
unseal st in
theorem lw9(tk:Nat):∃g,∀(G:Gv)(J:Nat->Nat->Int)(ro mi li:List Int),aO G 6->G.A.handled=none->iA G.h₀ 247 245->uo J mi ->
  eY G 11 (eL tk) [az (fB (st 21)) 9] ((Ui J ro mi li 5).del 23) (.ret (.bool af)) (K8 J ro mi li g):=by
 have KE:∃g,J4 g (So "k") 10/\∀(G:Gv)(J:Nat->Nat->Int)(ro mi li:List Int),aO G 6->G.A.handled=none->iA G.h₀ 247 245->uo J mi->J4 g (So "k") 10 ->
   eY G 11 (eL tk) [az (fB (st 21)) 9] ((Ui J ro mi li 5).del 23) (.ret (.bool af)) (K8 J ro mi li g):=by
  conv in az (fB (st 21)) 9=>whnf
  apply Exists.intro;refine⟨?K,?main⟩
  case main =>
   intro G J ro mi li B hh A H K;refine aR (B.mods 245 ay) λmg sv mH=>?_;exact .stop (.ret (.cmp (.loc U U) (.Tz (names:=[So "key"]) (.glob (ue B)) (.cons (.jS (.glob (jb B)) (.cons .int (.cons (.un .int iu) (.cons (.un .int iu) .nil))) AZ) .nil)
    (.cons (.nz (c:=247) (P:=245) (clos:=[(So "ranks",10)]) U U sv U A mH (k:=0) U U) .nil)
    (qN (σ:=Z7 J ro mi li _) (r:=25) (n:=26) (L:=5) (kz:=NX J) (p:=pM mi) (frs:=λi=>[(So "k",.int (4+i*(-1)))]) hh U ak ak ay ay U (λi hi=>abt (B.le (m:=3) U) K hi) H.run H.len))
    (nx (n:=1) (d:=.list (mi.map .int)) .ints (Rd.ints U) (Rd.ints (congrArg (λl=>aa (AO.list l)) H.list)) (B.hn ay)))) U
  case K=>exact⟨⟨λzz zz zz zz zz=>U,U,U,U,U,U,U⟩,⟨_,_,_,U⟩,U,U⟩
 obtain⟨g,K,h⟩:=KE;exact⟨g,λG J ro mi li B hh A H=>h G J ro mi li B hh A H K⟩
structure ur(aX:List Int)(J:Nat->Nat->Int):Prop where
 wds:OE (((iL aX).getD 3 0).fmod 3) (λk=>P.dN (wW aX k)) (wW aX)
 typ:JZ (wW aX) ((iL aX).getD 3 0) ((iL aX).getD 4 0)
 tab:∀i,i<5->e_ (fN (λk=>P.dN (wW aX k)) 5 0) i=e_ J i
 laid:J3 J
 told:xN J (o6 J 5) (o8 J 5)
 p0:0<=Wk J
 due:o6 J 5=Jt (Wk J)
 perm:(o8 J 5).Perm (GH J)
 asc:(o8 J 5).Pairwise (·<=·)
 sort:uo J (o7 J 5)
theorem JJ(tk:Nat):∃g,∀(G:Gv)(aX:List Int)(r:Nat)(J:Nat->Nat->Int),aO G 9->G.A.handled=none->iA G.h₀ 247 245->(∃vs n,G.h₀.get? r=aa (fg vs n)/\IntsAre vs aX)->aX.length<=1000->ur aX J ->
  kP G [4] 11 (eL tk) (fB (st 21)) (wZ [(So "script",.val (.ref r))] [] 11) (.ret (.bool af)) (K8 J (o6 J 5) (o7 J 5) (o8 J 5) g):=by
 obtain⟨g,h9⟩:=lw9 tk;refine⟨g,λG aX r J B hh A hr hl F=>?_⟩;have B6:=B.le (m:=6) U;rw[show fB (st 21)=[az (fB (st 21)) 0,az (fB (st 21)) 1,az (fB (st 21)) 2,az (fB (st 21)) 3,az (fB (st 21)) 4,az (fB (st 21)) 5,az (fB (st 21)) 6,az (fB (st 21)) 7,az (fB (st 21)) 8,az (fB (st 21)) 9] by kernel_rfl];exact .cons (.of (lw0 B6 hh hr hl U U U)) (.cons (.of (lw1 B6 hh F.typ)) (.cons (.of (lw2 B hh F.wds F.tab)) (.cons (.of (lw3 B6)) (.cons (.of (lw4 B6 hh)) (.cons (.of (lw5 B6 hh A F.laid)) (.cons (.of (lw6 B6))
  (.cons (lw7 B6 hh F.p0 F.due (by rw[F.told.lr];decide) (by rw[F.told.lr];decide) F.perm F.asc) (.cons (.of (lw8 B6 hh A F.told)) (.of (h9 G J _ _ _ B6 hh A F.sort)) U U) U U) U U) U U) U U) U U) U U) U U) U U
theorem VH:∀tk,∃g,∀(G:Gv)(aX:List Int)(r:Nat)(J:Nat->Nat->Int),aO G 10->G.A.handled=none->eZ G 248 (nE 21 wI tk 247)->G.h₀.CodeRec (R 247) wI->iA G.h₀ 247 245->(∃vs n,G.h₀.get? r=aa (fg vs n)/\IntsAre vs aX)->aX.length<=1000->ur aX J ->
  rU G (Nf G []) (λvs ws=>call (.ref 248) vs ([].zip ws)) [.val (.ref r)] [] XA (.bool af) (K8 J (o6 J 5) (o7 J 5) (o8 J 5) g):=by
 intro tk;obtain⟨g,h⟩:=JJ tk;refine⟨g,λG aX r J B hh D C A hr hl F=>?_⟩;exact rU.Jp (names:=[]) (m:=11) (f:=.ret (.bool af)) (σ1:=wZ [(So "script",.val (.ref r))] [] 11) (rb:=[(So "script",.val (.ref r))]) B.cQ D B.cP C (WA tk) (zg λα s u g q=>⟨_,ZG u,U,.aZ q cy⟩) ak U ak λenv=>h _ aX r J B.deep hh A hr hl F
end
section
open PyProof
variable{ao:AO}{G:Gv}{a k:Nat}
def z_:Prop:=∀aX:List Int,∃J,ur aX J
theorem PV(P:ag)(f:Nat->Obj)(kt tk:Nat):(fq P f kt tk).get? 245=aa ⟨.none,none,.fields #[],#[]⟩:=by kernel_rfl
theorem VD(P:ag)(f:Nat->Obj)(kt tk:Nat):(fq P f kt tk).get? mA=aa ⟨.none,none,.fields #[],#[]⟩:=by kernel_rfl
theorem PY(P:ag)(f:Nat->Obj)(kt tk:Nat):(fq P f kt tk).get? qb=aa ⟨.none,none,.fields #[],#[]⟩:=by kernel_rfl
theorem PW(P:ag)(f:Nat->Obj)(kt tk:Nat):(fq P f kt tk).get? 238=aa ⟨.none,none,.fields #[],#[]⟩:=by kernel_rfl
theorem PZ(P:ag)(f:Nat->Obj)(kt tk:Nat):(fq P f kt tk).get? 103=aa (vw P):=by kernel_rfl
theorem PX(P:ag)(f:Nat->Obj)(kt tk:Nat):(fq P f kt tk).get? 110=aa (vt P):=by kernel_rfl
noncomputable def fL:Nat->Option Nat
 |0=>aa 245
 |1=>aa 238
 |2=>aa mA
 |3=>aa qb
 |_=>none
def OL(a:Nat):Prop:=a=245∨a=238∨a=mA∨a=qb
noncomputable abbrev aL:AM:=⟨fL,OL,λzz=>False⟩
theorem OI.empty{α: AM}{h: Heap}{q:Nat->Nat->Str}(e:h.get? a=aa ⟨.none,none,.fields #[],#[]⟩):OI G α h a (.tab a q):=
 ⟨U,#[],e,by simp[TriplesOk],λpos cv h=>by simp[iq]at h⟩
theorem Ef(h:XA.get k=aa ao):(k=0/\ao=.tab 245 qW)∨(k=1/\ao=.tab 238 qH)∨(k=2/\ao=.tab mA yz)∨(k=3/\ao=.tab qb GU):=by
 rcases k with _|_|_|_|k
 ·cases h;exact .inl ⟨U,U⟩
 ·cases h;exact .inr (.inl ⟨U,U⟩)
 ·cases h;exact .inr (.inr (.inl ⟨U,U⟩))
 ·cases h;exact .inr (.inr (.inr ⟨U,U⟩))
 ·cases h
noncomputable def gL(a:Nat):Nat:=bif a==245 then 0 else bif a==238 then 1 else bif a==mA then 2 else 3
theorem Jm(h:fL k=aa a):gL a=k:=by
 rcases k with _|_|_|_|k
 ·cases h;rfl
 ·cases h;rfl
 ·cases h;rfl
 ·cases h;rfl
 ·cases h
theorem Ta{j: Nat}(h1:fL j=aa a)(h2:fL k=aa a):j=k:=(Jm h1).symm.trans (Jm h2)
theorem II(h:XA.get k=aa ao):∃a q,fL k=aa a/\ao=.tab a q/\OL a:=by
 rcases Ef h with⟨rfl,rfl⟩|⟨rfl,rfl⟩|⟨rfl,rfl⟩|⟨rfl,rfl⟩
 ·exact⟨_,_,U,U,.inl U⟩
 ·exact⟨_,_,U,U,.inr (.inl U)⟩
 ·exact⟨_,_,U,U,.inr (.inr (.inl U))⟩
 ·exact⟨_,_,U,U,.inr (.inr (.inr U))⟩
theorem Gi{G: Gv}{s: aA}(ht:∀a,OL a->s.heap.get? a=aa ⟨.none,none,.fields #[],#[]⟩)
  (hb:G.h₀=pO s.heap OL) (ho:s.os=G.os) (hg:AllBare s.gens):GS G aL XA s:=by
 refine⟨λk ao e=>?_,λk ao a e ha=>?_,λb o e=>fk.mp (hb▸e),λj k o1 o2 a e1 e2 f1 f2=>Ta f1 f2,λk hk=>?_,λa h=>⟨_,ht a h⟩,λa h=>h.elim,ho,hg⟩
 ·obtain⟨a,q,h1,rfl,h2⟩:=II e
  exact⟨a,h1,.empty (ht a h2)⟩
 ·obtain⟨b,q,h1,rfl,h2⟩:=II e
  cases h1.symm.trans ha;exact h2
 ·rcases k with _|_|_|_|k
  ·exact absurd hk ay
  ·exact absurd hk ay
  ·exact absurd hk ay
  ·exact absurd hk ay
  ·rfl
theorem D9(AF:z_):uq:=by
 intro w f kt tk es ep he h0 s ns vs dw hi Oe Yh;obtain⟨J,F⟩:=AF ns;have xk:∀{b:Nat}{ob:Obj},(fq w.params f kt tk).get? b=aa ob->s.heap.get? b=aa ob:=λe=>by rw[Oe];exact aC _ e
 let G:Gv:=⟨pw,w,callerA,pO s.heap OL,s.os⟩
 have off:∀{b:Nat},nk.contains b=false->¬OL b:=λhb h=>by rcases h with rfl|rfl|rfl|rfl<;>exact absurd hb ay
 have B:aO G 10:=⟨(by decide:callerA.depth+10<bA),U,U,(by decide:callerA.units+10*10<9000),f,kt,tk,es,ep,he,h0,λb o hb e=>fk.mpr ⟨off hb,xk e⟩⟩;have VC:∀a,OL a->s.heap.get? a=aa ⟨.none,none,.fields #[],#[]⟩:=λa h=>by
  rcases h with rfl|rfl|rfl|rfl
  ·exact xk (PV w.params f kt tk)
  ·exact xk (PW w.params f kt tk)
  ·exact xk (VD w.params f kt tk)
  ·exact xk (PY w.params f kt tk)
 have gs:GS G aL XA s:=Gi VC U U (by rw[Yh];intro g hg;simp at hg);have su:G.h₀.get? ne=aa (fg vs 0):=by
  refine fk.mpr ⟨off ay,?_⟩;rw[Oe];have:=aJ (fq w.params f kt tk) (o:={cls:=.type "list",data:=.seq vs.toArray}) U;rw[y_]at this;exact this
 obtain⟨AG,D,C,A⟩:=B.JV;obtain⟨g,sp⟩:=VH AG;refine wQ (sp G ns ne J B U D C A ⟨vs,0,su,hi⟩ (au dw ay) F aL s [.ref ne] [] _ ⟨[],U,U⟩ gs ⟨_,_,U,U,U⟩ U) ?_;rintro v s' ⟨β,le,g',rfl⟩;have Mt:∀{k b c:Nat}{q:Nat->Nat->Str}{oc:Obj}{cs:Array aq}{ob:Obj}{σ:St},GS G β σ s'->σ.get k=aa (.tab b q)->aL.f k=aa b->OL b->s.heap.get? c=aa oc->oc.cls=.type "code"->oc.data=.fields cs->cs[11]?=aa (.ref b)->s.heap.get? b=aa ob->asItWas s.heap s'.heap b ob:=by
  intro k b c q oc cs ob σ g hk hf hob ec h1 h2 h3 eb;rw[VC b hob]at eb;cases eb;refine dH λM' up1=>?_;obtain⟨a,ha,_,ps,e',_⟩:=g.own _ _ hk;cases(le.le k aE b hf).symm.trans ha;refine up1 ?_;exact .inr (.inl ⟨⟨c,oc,cs,ec,h1,h2,h3⟩,U,#[],ps,U,by simpa using e'⟩)
 have old:∀b ob,s.heap.get? b=aa ob->asItWas s.heap s'.heap b ob:=by
  intro b ob eb;by_cases hm:OL b
  ·rcases hm with rfl|rfl|rfl|rfl
   ·exact Mt (k:=0) (c:=247) (q:=qW) g' U U (.inl U) (xk (OA w.params f kt tk)) U U U eb
   ·exact Mt (k:=1) (c:=242) (q:=qH) g' U U (.inr (.inl U)) (xk (OB w.params f kt tk)) U U U eb
   ·exact Mt (k:=2) (c:=103) (q:=yz) g' U U (.inr (.inr (.inl U))) (xk (PZ w.params f kt tk)) U U U eb
   ·exact Mt (k:=3) (c:=110) (q:=GU) g' U U (.inr (.inr (.inr U))) (xk (PX w.params f kt tk)) U U U eb
  ·exact .inl (g'.base b ob (fk.mpr ⟨hm,eb⟩)).2
 refine⟨U,⟨old,λb ob eb=>?_⟩,g'.os,g'.bare⟩;rcases old b ob eb with x|⟨_,_,vs,more,_,x⟩|⟨_,_,⟨o',es,n,x,_⟩,_⟩
 ·exact⟨_,x⟩
 ·exact⟨_,x⟩
 ·exact⟨_,x⟩
end
end Mine.Internal
namespace Mine.Internal.T
noncomputable def nh(p:Int×Int×Int):Nat->Nat->Int:=λi j=>((P.abo p.1 p.2.1 p.2.2).getD i []).getD j 0
theorem q1:∀p∈P.mE,∀i,i<6->(o6 (nh p) i).length<=5/\∀x∈o6 (nh p) i,0<=x/\x<5:=by decide +kernel
theorem q2:∀p∈P.mE,∀i,i<6->(o7 (nh p) i).length<=5/\∀x∈o7 (nh p) i,0<=x/\x<5:=by decide +kernel
theorem q3:∀p∈P.mE,∀i,i<6->(o8 (nh p) i).length<=5:=by decide +kernel
theorem q4:∀p∈P.mE,(o6 (nh p) 5).length=5/\(o8 (nh p) 5).length=5/\0<=Wk (nh p)/\o6 (nh p) 5=Jt (Wk (nh p))/\(o8 (nh p) 5).Perm (GH (nh p))/\(o8 (nh p) 5).Pairwise (·<=·):=by decide +kernel
theorem q5:∀p∈P.mE,∀i,i<5->wo (nh p) (o6 (nh p) 5) (o8 (nh p) 5) i=[lX (nh p) i,Bv (nh p) i,lX (nh p) i,Bv (nh p) i]:=by decide +kernel
theorem q6:∀p∈P.mE,∀i,i<5->CP (nh p) (o6 (nh p) 5) (o8 (nh p) 5) i=[fC (nh p) i 0,fC (nh p) i 1,fC (nh p) i 2,fC (nh p) i 3,fC (nh p) i 0,fC (nh p) i 1,fC (nh p) i 2,fC (nh p) i 3]:=by decide +kernel
theorem q7:∀p∈P.mE,runK 5 (λi j=>decide ((NX (nh p)).getD i 0<(NX (nh p)).getD j 0)) (kas_sort 5)=aa (pM (o7 (nh p) 5)).toArray:=by decide +kernel
theorem q8:∀p∈P.mE,(pM (o7 (nh p) 5)).map (λi:Nat=>(4:Int)+i*(-1))=o7 (nh p) 5/\(∀i∈pM (o7 (nh p) 5),i<5)/\(pM (o7 (nh p) 5)).length<64:=by decide +kernel
end Mine.Internal.T
section
namespace Mine.Internal.T
variable{s w:List Nat}{B a i n:Nat}{x y:Int}
open P (T4 Wd Lt dN act)
seal P.stepT
theorem mj(k:Nat):Lt (px.getD (k % 4) 0):=by
 have h:k % 4<4:=jv _ ay;generalize k % 4=j at h
 match j,h with
 |0,_=>exact .inl U
 |1,_=>exact .inr (.inl U)
 |2,_=>exact .inr (.inr (.inl U))
 |3,_=>exact .inr (.inr (.inr U))
theorem qd(n:Nat):lD n∈P.mC:=by
 have h:n % 6<P.mC.length:=jv _ ay;unfold lD;rw[aU,aP h];exact ew h
theorem n0:∀q∈P.mC,q.1.length=3/\q.2.length=3:=by decide
theorem B5(h:Wd s):Wd (rt n s):=P.mx (P.mx (P.qI (mj _)) h) (P.qI (mj _))
theorem nX(h:s.length=3):(rt n s).length=5:=by
 unfold rt;rw[aB,aB,h];rfl
theorem mr(n:Nat):Wd (pB n)/\(pB n).length=5:=⟨B5 (P.ta _ (qd n)).2.1,nX (n0 _ (qd n)).1⟩
theorem l6(n:Nat):Wd (pf n)/\(pf n).length=5:=⟨B5 (P.ta _ (qd n)).2.2,nX (n0 _ (qd n)).2⟩
theorem DB(n:Nat):dN (pB n)=dN (pf n):=P.LQ (P.ta _ (qd n)).1 (P.qI (mj _))
theorem wb(h:Wd w)(k:Nat):Wd (w.take k):=λa ha=>h a (List.mem_of_mem_take ha)
theorem xt(h:Wd w)(k:Nat):Wd (w.drop k):=λa ha=>h a (List.mem_of_mem_drop ha)
theorem A0(w:List Nat)(k a:Nat):DU w k a=w.take k++a::w.drop k:=by unfold DU;rw[bh];rfl
theorem wm{k: Nat}(h:Wd w)(ha:Lt a)(hl:w.length=5):Wd (DU w k a)/\(DU w k a).length=6:=by
 rw[A0];refine⟨P.mx (wb h k) λb hb=>?_,?_⟩
 ·rcases List.mem_cons.mp hb with rfl|hb
  ·exact ha
  ·exact xt h k b hb
 ·rw[aB,cL,←gq,←aB,hG,hl]
theorem AB(k:Nat):[102,105].getD (k % 2) 0=102∨[102,105].getD (k % 2) 0=105:=by
 rcases Nat.mod_two_eq_zero_or_one k with h|h
 ·rw[h];exact .inl U
 ·rw[h];exact .inr U
theorem AD(k:Nat):[70,73].getD (k % 2) 0=70∨[70,73].getD (k % 2) 0=73:=by
 rcases Nat.mod_two_eq_zero_or_one k with h|h
 ·rw[h];exact .inl U
 ·rw[h];exact .inr U
theorem lt_fi(h:a=102∨a=105):Lt a:=h.elim .inl λh=>.inr (.inr (.inl h))
theorem NW(h:a=70∨a=73):Lt a:=h.elim (λh=>.inr (.inl h)) λh=>.inr (.inr (.inr h))
theorem Lm(n1 n2:Nat):P.Gt (dN (pB n1)) (dN (Cy n1 n2)):=by
 have h:=P.Sz (a:=[102,105].getD (n2 % 2) 0) (wb (mr n1).1 (n2/2 % 6)) (xt (mr n1).1 (n2/2 % 6)) (AB n2);rw[hG]at h;unfold Cy;rw[A0];exact h
theorem FU(n1 n2:Nat):P.Gt (dN (v5 n1 n2)) (dN (pf n1)):=by
 have h:=P.Sy (a:=[70,73].getD (n2/12 % 2) 0) (wb (l6 n1).1 (n2/24 % 6)) (xt (l6 n1).1 (n2/24 % 6)) (AD _);rw[hG]at h;unfold v5;rw[A0];exact h
theorem CS(n:Nat):Wd (zl n)/\(zl n).length=4:=by
 refine⟨λa ha=>?_,by unfold zl;rw[aG,dY]⟩;obtain⟨k,_,rfl⟩:=List.mem_map.mp ha;exact mj _
theorem lB(aX:List Int)(k:Nat)(hk:k<5):Wd (wW aX k)/\(wW aX k).length<=10:=by
 match k,hk with
 |0,_=>exact⟨(mr _).1,au (d3 (mr _).2) ay⟩
 |1,_=>exact⟨(wm (mr _).1 (lt_fi (AB _)) (mr _).2).1,au (d3 (wm (mr _).1 (lt_fi (AB _)) (mr _).2).2) ay⟩
 |2,_=>exact⟨(CS _).1,au (d3 (CS _).2) ay⟩
 |3,_=>exact⟨(l6 _).1,au (d3 (l6 _).2) ay⟩
 |4,_=>exact⟨(wm (l6 _).1 (NW (AD _)) (l6 _).2).1,au (d3 (wm (l6 _).1 (NW (AD _)) (l6 _).2).2) ay⟩
def Sm(B:Nat)(v:T4):Prop:=v.2.1.natAbs<=B/\v.2.2.1.natAbs<=B
theorem sH(h1:x.natAbs<=B)(h2:y.natAbs<=B):(x+y).natAbs<=B+B:=au (Int.natAbs_add_le x y) (cF h1 h2)
theorem xK(h1:x.natAbs<=B)(h2:y.natAbs<=B):(x-y).natAbs<=B+B:=by
 rw[mN];exact sH h1 (by rw[Int.natAbs_neg];exact h2)
theorem K3{v:T4}(h:Sm B v)(ha:Lt a):Sm (B+B) (P.stepT v a):=by
 obtain⟨s,x,y,n⟩:=v;obtain⟨h1,h2⟩:=h;have hB:B<=B+B:=f7 _ _;rcases ha with rfl|rfl|rfl|rfl
 ·rw[P.DJ]
  split
  ·exact⟨by show(-(x+y)).natAbs<=_;rw[Int.natAbs_neg];exact sH h1 h2,by show(-y).natAbs<=_;rw[Int.natAbs_neg];exact au h2 hB⟩
  ·exact⟨sH h1 h2,au h2 hB⟩
 ·rw[P.Gl]
  split
  ·exact⟨by show(-(x-y)).natAbs<=_;rw[Int.natAbs_neg];exact xK h1 h2,by show(-y).natAbs<=_;rw[Int.natAbs_neg];exact au h2 hB⟩
  ·exact⟨xK h1 h2,au h2 hB⟩
 ·rw[P.mB];exact⟨au h1 hB,xK h2 h1⟩
 ·rw[P.AK];exact⟨au h1 hB,sH h2 h1⟩
theorem K2(hw:Wd w):Sm (2^w.length) (dN w):=by
 unfold dN
 induction w with
 |nil=>exact⟨by decide,by decide⟩
 |cons a w ih =>
  have ih:=ih λb hb=>hw b (.tail _ hb);rw[P.oU,cL,Nat.pow_succ,Nat.mul_two];exact K3 ih (hw a (.head _))
theorem PD(aX:List Int):OE (((iL aX).getD 3 0).fmod 3) (λk=>dN (wW aX k)) (wW aX):=
 ⟨⟨gX _ ay,Int.lt_trans (mP _ ay) ay⟩,lB aX,λzz zz=>U,λk hk =>
  aY (K2 (lB aX k hk).1).1 (aY (Nat.pow_le_pow_right ay (lB aX k hk).2) ay)⟩
theorem z8{u v:T4}(h:P.Gt u v):P.J u v=1/\P.J v u=-1:=⟨P.nL h,P.nK h⟩
theorem gi{V:Nat->T4}{j: Nat}(h:(i<j/\j<5)∨(j<i/\i<5)):fN V 5 0 i j=P.J (V i) (V j):=if_pos (by unfold qz;lia)
theorem tJ{V:Nat->T4}:fN V 5 0 i i=0:=if_neg (by unfold qz;lia)
theorem PU(aX:List Int):∃p∈P.mE,∀i,i<5->e_ (fN (λk=>dN (wW aX k)) 5 0) i=e_ (nh p) i:=by
 let V:Nat->T4:=λk=>dN (wW aX k)
 have ok:∀k,k<5->P.Ok (V k):=λk hk=>P.iw (lB aX k hk).1 P.uB;have g1:P.Gt (V 0) (V 1):=Lm _ _;have e3:V 3=V 0:=(DB _).symm;have g2:P.Gt (V 4) (V 0):=e3▸FU _ _;have g3:P.Gt (V 4) (V 1):=P.Jd (ok 4 ay) (ok 0 ay) (ok 1 ay) g2 g1;refine⟨_,P.VU (ok 0 ay) (ok 1 ay) (ok 2 ay) (ok 4 ay) g1 g2,λi hi=>?_⟩;have s0:P.J (V 2) (V 0)=-P.J (V 0) (V 2):=P.xQ _ _;have s1:P.J (V 2) (V 1)=-P.J (V 1) (V 2):=P.xQ _ _;have s4:P.J (V 2) (V 4)=-P.J (V 4) (V 2):=P.xQ _ _;have z:P.J (V 0) (V 0)=0:=P.rA (P.Mx _);have row:∀i,e_ (fN V 5 0) i=[.int (fN V 5 0 i 0),.int (fN V 5 0 i 1),.int (fN V 5 0 i 2),.int (fN V 5 0 i 3),.int (fN V 5 0 i 4)]:=λzz=>U;show e_ (fN V 5 0) i=_;rw[row]
 match i,hi with
 |0,_=>rw[tJ,gi ay,gi ay,gi ay,gi ay,e3,z,(z8 g1).1,(z8 g2).2];rfl
 |1,_=>rw[tJ,gi ay,gi ay,gi ay,gi ay,e3,(z8 g1).2,(z8 g3).2];rfl
 |2,_=>rw[tJ,gi ay,gi ay,gi ay,gi ay,e3,s0,s1,s4];rfl
 |3,_=>rw[tJ,gi ay,gi ay,gi ay,gi ay,e3,z,(z8 g1).1,(z8 g2).2];rfl
 |4,_=>rw[tJ,gi ay,gi ay,gi ay,gi ay,e3,(z8 g2).1,(z8 g3).1];rfl
end Mine.Internal.T
end
section
namespace Mine.Internal.T
variable{place:Nat}{kind:Int}{l:List Nat}
noncomputable def Tf:List Nat:=[102,70,8497,119813,119865,119917,120021,120177,120229,120281,120333,120385,120437]
noncomputable def kN(c:Nat):List Nat:=bif c==64256 then [102,102]else bif c==64257 then [102,105]else bif c==64259 then [102,102,105]else bif Tf.contains c then [102]else [105]
structure Rd1(c:Nat):Prop where
 ok:uu c (tx (kN c))
 low:Txt.lower (tx (kN c))=tx (kN c)
 len:(kN c).length<=1000
 Vu:(Nn (kN c)).length<=1000
structure OkC(c:Nat)(z:List Nat):Prop extends Rd1 c where
 b1:sG (c:Nat)=false
 Wl:h8 kN c=z
noncomputable def Uc(c:Nat)(z:List Nat):Bool:=!sG c&&((m9.lookup (c:Int)==aa (tx (kN c))) || ((m9.lookup (c:Int)==none)&&(Txt.lower (tx [c])==tx (kN c))))&&(Txt.lower (tx (kN c))==tx (kN c))&&dM (kN c).length 10&&dM (Nn (kN c)).length 10&&(h8 kN c==z)
theorem ok1:((bc 16).all λk=>[102,70,105,73].all λl=>Uc (oI (k:Nat) l).toNat [l])=af:=by kernel_rfl
theorem ok2:Uc 64256 [70,70]=af/\Uc 64257 [70,73]=af/\Uc 64259 [70,70,73]=af:=⟨ak,ak,ak⟩
theorem ok3:((bc 27).all λj=>sG ((nS.getD j 0).toNat:Nat))=af:=by kernel_rfl
theorem wA{c: Nat}{z: List Nat}(h:Uc c z=af):OkC c z:=by
 unfold Uc at h;simp only[aV,Bool.or_eq_true,Bool.not_eq_true',beq_iff_eq]at h;obtain⟨⟨⟨⟨⟨h1,h2⟩,h3⟩,h4⟩,h5⟩,h6⟩:=h;have h4:=bw h4;have h5:=bw h5;refine⟨⟨?_,h3,au h4 ay,au h5 ay⟩,h1,h6⟩;rcases h2 with h|h
 ·exact .inl h
 ·exact .inr ⟨h.1,h.2,tD (au h4 ay)⟩
def ZP(c:Nat):Prop:=c=102∨c=70∨c=105∨c=73
theorem D3{l: Nat}(h0:0<=kind)(h1:kind<16)(hl:ZP l):OkC (oI kind l).toNat [l]:=by
 refine wA ?_;have h:=List.all_eq_true.mp ok1 kind.toNat (List.mem_range.mpr (by lia));have h2:=List.all_eq_true.mp h l (by rcases hl with rfl|rfl|rfl|rfl<;>decide);rw[show((kind.toNat:Nat):Int)=kind by lia]at h2;exact h2
theorem AA{a b: List Nat}(h:tx a=tx b):a=b:=by
 have:=congrArg (λs:Str=>s.cps.toList) h;simpa using this
theorem Kx{x: List Nat}{v: Int}(h:rz (tx x)=aa v):OkC v.toNat x:=by
 have e1:T7=tx [70,70]:=by kernel_rfl
 have e2:T6=tx [70,73]:=by kernel_rfl
 have e3:Dv=tx [70,70,73]:=by kernel_rfl
 unfold rz at h;rw[e1,e2,e3]at h
 split at h
 ·rename_i e;cases h;rw[AA e];exact wA ok2.1
 ·split at h
  ·rename_i e;cases h;rw[AA e];exact wA ok2.2.1
  ·split at h
   ·rename_i e;cases h;rw[AA e];exact wA ok2.2.2
   ·cases h
def BP(l:List Nat)(place:Nat)(cs:Int×Int):Prop:=OkC cs.1.toNat ((l.drop place).take cs.2.toNat)/\1<=cs.2.toNat
theorem CK{rX: Nat}{cs: Int×Int}(hm:1<=rX)(h:BP l place cs):BP l place (kI kind l place rX cs):=by
 unfold kI
 split
 ·split
  ·rename_i v hv
   exact⟨by simpa using Kx hv,by simpa using hm⟩
  ·exact h
 ·exact h
theorem MK(dress pace:Int)(hp:place<l.length)(hl:∀c∈l,ZP c):BP l place (iM dress pace l place):=by
 unfold iM;refine CK ay (CK ay ⟨?_,by simp⟩);have hk:=yZ dress pace place;have hg:l.getD place 0∈l:=getD_in hp;have:=D3 hk.1 hk.2 (hl _ hg);have e:(l.drop place).take ((1:Int).toNat)=[l.getD place 0]:=by
  rw[show(1:Int).toNat=1 from U];rw[List.take_one,List.head?_drop];simp[hp]
 dsimp only;rw[e];exact this
theorem PG(dress pace:Int)(place:Nat):sG ((nS.getD (((qm dress pace place).fdiv 3).fmod 27).toNat 0).toNat:Nat)=af:=by
 have hr:(((qm dress pace place).fdiv 3).fmod 27).toNat<27:=by
  have a:=gX ((qm dress pace place).fdiv 3) (b:=27) ay;have b:=mP ((qm dress pace place).fdiv 3) (b:=27) ay;lia
 exact List.all_eq_true.mp ok3 _ (List.mem_range.mpr hr)
theorem Bm{dress pace: Int}(hb:sG ((iM dress pace l place).1.toNat:Nat)=false):cT (lC dress pace l place)=[(iM dress pace l place).1.toNat]:=by
 unfold cT lC;rw[mv];have h2:[(iM dress pace l place).1.toNat].filter (λ(c:Nat)=>!sG c)=[(iM dress pace l place).1.toNat]:=by rw[List.filter_cons_of_pos (by rw[hb];rfl)];rfl
 rw[h2]
 split
 ·rw[List.filter_cons_of_neg (by rw[PG];decide)];rfl
 ·rfl
structure Good(l c8:List Nat)(place:Nat):Prop where
 ok:∀c∈cT c8,Rd1 c
 back:((cT c8).map (h8 kN)).flatten=l.drop place
theorem yX(a b:List Nat):cT (a++b)=cT a++cT b:=mv ..
theorem Az(dress pace:Int)(hl:∀c∈l,ZP c):∀(n place:Nat)(acc:List Nat),l.length-place<=n->∃c8,k9 dress pace l n place acc=acc++c8/\Good l c8 place:=by
 intro n
 induction n with
 |zero =>
  intro place acc h;exact⟨[],(bV _).symm,λc hc=>(nomatch hc),(List.drop_eq_nil_of_le (Nat.sub_eq_zero_iff_le.mp (Nat.le_zero.mp h))).symm⟩
 |succ n ih =>
  intro place acc h;unfold k9;by_cases hp:place<l.length
  ·rw[if_pos hp]
   obtain⟨ok,h1⟩:=MK dress pace hp hl;obtain⟨c8,e,g⟩:=ih (place+(iM dress pace l place).2.toNat) (acc++lC dress pace l place) (by lia);have hf:=Bm ok.b1;refine⟨lC dress pace l place++c8,by rw[e,bh],?_,?_⟩
   ·intro c hc
    rw[yX,hf]at hc;rcases List.mem_append.mp hc with hc|hc
    ·rw[List.mem_singleton.mp hc];exact⟨ok.ok,ok.low,ok.len,ok.Vu⟩
    ·exact g.ok c hc
   ·rw[yX,hf,bG,List.flatten_append,g.back]
    show h8 kN _++[]++_=_;rw[bV,ok.Wl,←List.drop_drop,hG]
  ·rw[if_neg hp]
   exact⟨[],(bV _).symm,λc hc=>(nomatch hc),(List.drop_eq_nil_of_le (dm hp)).symm⟩
theorem Kw(dress pace:Int)(hl:∀c∈l,ZP c):xM l (kT dress pace l) kN:=by
 obtain⟨c8,e,g⟩:=Az dress pace hl l.length 0 [] (Nat.sub_le _ _);have e2:kT dress pace l=c8:=by unfold kT;rw[e];rfl
 rw[e2];exact⟨λc hc=>⟨(g.ok c hc).ok,(g.ok c hc).low,(g.ok c hc).len,(g.ok c hc).Vu⟩,g.back⟩
end Mine.Internal.T
end
namespace Mine.Internal.T
theorem L5{c:Nat}(h:ZP c):32<=c/\c<=200:=by
 rcases h with rfl|rfl|rfl|rfl<;>decide
theorem EX:z_:=by
 intro aX;obtain⟨p,hp,tab⟩:=PU aX;refine⟨nh p,PD aX,⟨λk hk=>(lB aX k hk).2,λk hk c hc=>L5 ((lB aX k hk).1 c hc),λk hk=>⟨kN,Kw _ _ (lB aX k hk).1⟩⟩,tab,⟨q1 p hp,q2 p hp,q3 p hp⟩,?_,?_,?_,?_,?_,?_⟩
 ·exact⟨(q1 p hp 5 ay).2,(q4 p hp).1,(q4 p hp).2.1,q5 p hp,q6 p hp⟩
 ·exact(q4 p hp).2.2.1
 ·exact(q4 p hp).2.2.2.1
 ·exact(q4 p hp).2.2.2.2.1
 ·exact(q4 p hp).2.2.2.2.2
 ·exact⟨q7 p hp,(q8 p hp).1,(q8 p hp).2.1,(q8 p hp).2.2⟩
theorem law_holds:PySem.Challenge.rw_wc0021_02.Holds:=I3 (D9 EX)
end Mine.Internal.T

theorem PySem.Challenge.cw_wc0021_02_holds : PySem.Challenge.rw_wc0021_02.Holds :=
 Mine.Internal.T.law_holds
