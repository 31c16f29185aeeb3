import PyProof.Rows.All
import PyProof.MinMaxWalk
import PyProof.SumAny
import PyProof.StrReplace2
import KE.KSortTup
import Wide.FinOn
import OpenK.AllK
import Wide.All
import PySem.Challenge.RW_oh0120_01
set_option Elab.async false
open PySem renaming wpAny_bind->Af,Shared->Ab,World->Aa,wpAny_pure->Aq,Params->Aj,Fin->AA,Around->Al,codeAny_mono->B4,codeAny_call_builtin->DT,wpAny_seqItems->C1,wpAny_holding->Di,wpAny_standAt->Ds,wpAny_mono->CA,codeAny_builtin->EG,wpAny_onRaise->Fp,codeAny_of_tree->Ho,wpAny_rule->FH,wpAny_of_eq->GH,wpAny_load->Jr
open Nat renaming le_trans->Ay,le_refl->A7,add_le_add_right->Cz,le_of_lt->Bw,lt_of_le_of_lt->CM,le_of_ble_eq_true->Ef,zero_le->B7,lt_of_lt_of_le->DV,ne_of_lt->CN,le_of_lt_succ->Eg,succ_le_succ->Eu,lt_trans->Dz,le_of_not_lt->FG,lt_succ_of_le->F8,ne_of_gt->EY,le_add_right->GF,eq_of_beq_eq_true->Jd,lt_succ_self->Hm,lt_of_le_of_ne->Io,le_succ_of_le->Iq,sub_lt_sub_left->Jf,zero_add->Ga,succ_pos->Gb,lt_or_eq_of_le->Jg,lt_trichotomy->Jh,exists_eq_add_of_le'->Lg,zero_lt_succ->Jk,not_lt_of_le->Jl,lt_add_of_pos_right->Lh,add_sub_cancel_left->Li,lt_of_succ_lt_succ->Lj,le_antisymm->Jn,lt_irrefl->It,mod_lt->GI,not_lt_zero->Ka,add_right_comm->Lo,le_of_eq->Jp,le_succ->Jq,add_sub_cancel'->NG,sub_zero->Kd,add_sub_cancel->NH,lt_succ_of_lt->NI,add_assoc->Lv,succ_ne_self->NK,lt_or_ge->Ly,add_zero->Lz
open List renaming mem_cons_self->Bj,mem_append_right->BG,mem_cons_of_mem->BB,map_append->BC,mem_map_of_mem->B6,append_nil->BV,length_map->BY,mem_append_left->Dh,replicate->Cc,map_map->BZ,getElem?_eq_getElem->Et,getElem_mem->C0,append_assoc->Dr,map_congr_left->DU,sublist_append_left->EW,perm_append_comm->ED,pairwise_iff_getElem->F6,nodup_iff_pairwise_ne->GC,length_append->EX,perm_middle->EF,nodup_append->Fn,map_cons->Eh,getElem_of_mem->F7,length_range->F9,range_eq_range'->Hk,mem_of_mem_take->Hl,reverse_perm->GD,pairwise_map->GE,getElem?_append_left->J6,getElem?_eq_none->Je,mem_singleton->Ip,ext_getElem->Hn,length_cons->Ir,take_add_one->Ji,getElem?_map->Jj,not_mem_nil->Jm,perm_ext_iff_of_nodup->Nw,getElem?_append_right->Nx,nodup_range->J8,getElem_map->J9,sublist_append_right->Nz,drop_eq_getElem_cons->NA,getElem?_range->Ll,mem_cons->Jo,range_succ->Kb,length->Iu,filter_cons_of_pos->NC,filter_cons_of_neg->ND,take_of_length_le->NE,getElem_take->Lp,take_append_drop->NF,getElem_inj->Ls,eq_nil_of_length_eq_zero->Px,nodup_cons->Lu,count_append->NJ,take_length->NL,range'_succ->NM,length_take->NN,sublist_cons_self->Pz,range_succ_eq_map->PB
open List.Perm renaming refl->AW,append_right->FF
open Bool renaming false_eq_true->CZ,false_ne_true->Fm,and_eq_true->Fo,not_eq_true'->Lq,or_false->Lw,not_true->Lx
open PyProof.Rows renaming IntsAre->AX
open PySem.Around renaming under_plainId->EE,under_of_weight->Lk
open PySem.Flow.ret renaming inj->CU
open Option.some renaming inj->GG
open Int renaming toNat_natCast->J7,fmod_eq_emod_of_nonneg->Ny
open Array renaming length_toList->Lm,getElem?_eq_getElem->Py
open List.cons renaming inj->Kc
open PySem PySem.W PySem.W.X PyProof.Rows PySem.SeqAt PySem.W.Fast PySem.W.SL
set_option maxRecDepth 100000
set_option linter.all false
set_option genInjectivity false
set_option compiler.extract_closed false
set_option genSizeOf false
set_option bootstrap.genMatcherCode false
namespace Mine
noncomputable section
set_option maxHeartbeats 400000
noncomputable abbrev Ai:= @congrFun
noncomputable abbrev Am:= @congrArg
noncomputable abbrev BQ:= @decide_eq_false
noncomputable abbrev AH:= @if_neg
noncomputable abbrev AS:= @if_pos
noncomputable abbrev C3:= @decide_eq_true
inductive B5 {A0 A1:Type} (P:A0→A1→Prop):Prop
 |mk (a0:A0) (a1:A1) (h:P a0 a1):B5 P
inductive Ei {A0 A1 A2:Type} (P:A0→A1→A2→Prop):Prop
 |mk (a0:A0) (a1:A1) (a2:A2) (h:P a0 a1 a2):Ei P
inductive Ke {A0 A1 A2 A3:Type} (P:A0→A1→A2→A3→Prop):Prop
 |mk (a0:A0) (a1:A1) (a2:A2) (a3:A3) (h:P a0 a1 a2 a3):Ke P
inductive LA {A0 A1 A2 A3 A4:Type} (P:A0→A1→A2→A3→A4→Prop):Prop
 |mk (a0:A0) (a1:A1) (a2:A2) (a3:A3) (a4:A4) (h:P a0 a1 a2 a3 a4):LA P
inductive SA {A0 A1 A2 A3 A4 A5:Type} (P:A0→A1→A2→A3→A4→A5→Prop):Prop
 |mk (a0:A0) (a1:A1) (a2:A2) (a3:A3) (a4:A4) (a5:A5) (h:P a0 a1 a2 a3 a4 a5):SA P
inductive SB {A0 A1 A2 A3 A4 A5 A6:Type} (P:A0→A1→A2→A3→A4→A5→A6→Prop):Prop
 |mk (a0:A0) (a1:A1) (a2:A2) (a3:A3) (a4:A4) (a5:A5) (a6:A6) (h:P a0 a1 a2 a3 a4 a5 a6):SB P
set_option maxHeartbeats 8000000
noncomputable def SC(b:Type)(a:Array b)(p:b→Bool)(i j:Nat):Bool:=
 match Nat.beq i 0&&Nat.beq j a.size with
 |true=>a.toList.any p
 |false=>a.any p i j
theorem XM:SC= @Array.any.{0}:=by
 funext α as p i j;unfold SC
 split
 ·rename_i h
  rw[Fo]at h;have a:=Jd h.1;have b:=Jd h.2;subst a b;rw[Array.any_toList]
 ·rfl
noncomputable def PC(b:Builtin)(a:String):Option Builtin:=
 match decide (a="type.__new__")with
 |true=>some b
 |false=>treeTable a
theorem XN:treeTable=PC Builtin.«type.__new__»:=by
 funext id;unfold PC
 by_cases h:id="type.__new__"
 ·subst h
  rw[C3 rfl];exact(by kernel_rfl)
 ·rw[BQ h]
noncomputable def LB(a:String→Option Builtin)(p:Program)(w:Aa):Nat→SharedT→Thread→Option SharedT
 |0,_,_=>none
 |n+1,s,t=>match t.atExitBegin with
  |some l=>(match l with|[]=>some s|_::_=>none)
  |none=>match stepT (denote a) p w s t with
   |some (b,c)=>LB a p w n b c
   |none=>none
theorem SD{c:String→Option Builtin}{p:Program}{w:Aa}: ∀{n:Nat} {s d:SharedT} {t:Thread},LB c p w n s t=some d→importEnds c p w n s.abs t=some d.abs
 |0,_,_,_,h=>by cases h
 |n+1,s,d,t,h=>by
  unfold LB at h;unfold importEnds;cases g:t.atExitBegin with
  |some l=>
   rw[g]at h;cases l with
   |nil=>cases h;rfl
   |cons a b=>cases h
  |none=>
   rw[g]at h;cases e:stepT (denote c) p w s t with
   |none=>rw[e]at h;cases h
   |some r=>obtain⟨i,j⟩:=r;rw[e]at h;dsimp only;rw[stepT_spec e];exact SD h
noncomputable def LC(c:String→Option Builtin)(p:Program)(w:Aa)(a:Nat)(b:Option Value):Nat→SharedT→Thread→Option SharedT
 |0,_,_=>none
 |n+1,s,t=>match through t with
  |true=>some s
  |false=>match stepOk a b t with
   |false=>none
   |true=>match stepT (denote c) p w s t with
    |some (d,e)=>LC c p w a b n d e
    |none=>none
theorem SE{c:String→Option Builtin}{p:Program}{w:Aa}{a:Nat}{b:Option Value}: ∀{n:Nat} {s d:SharedT} {t:Thread},LC c p w a b n s t=some d→topRun c p w a b n s.abs t=some d.abs
 |0,_,_,_,h=>by cases h
 |n+1,s,d,t,h=>by
  unfold LC at h;unfold topRun;cases g:through t with
  |true=>rw[g]at h;cases h;rfl
  |false=>
   rw[g]at h;cases i:stepOk a b t with
   |false=>rw[i]at h;cases h
   |true=>
    rw[i]at h;cases e:stepT (denote c) p w s t with
    |none=>rw[e]at h;cases h
    |some r=>obtain⟨j,k⟩:=r;rw[e]at h;dsimp only;rw[stepT_spec e];exact SE h
noncomputable def LD:List Obj→Nat→BT→BT
 |[],_,t=>t
 |o::l,n,t=>LD l (n+1) (t.ins n o)
noncomputable def Kg:List Obj→Nat→BT→Bool
 |[],_,_=>true
 |o::l,n,t=>((t.ins n o).get n).isSome&&Kg l (n+1) (t.ins n o)
theorem SF{life:Life}: ∀{l:List Obj} {n:Nat} {t:BT} {os:Array Obj},Kg l n t=true→absHeap t n life=⟨os,life⟩→absHeap (LD l n t) (n+l.length) life=⟨os++l.toArray,life⟩
 |[],n,t,os,_,e=>by
  refine (?_:absHeap t (n+0) life=_);rw[Lz,e];simp
 |o::l,n,t,os,h,e=>by
  unfold Kg at h;rw[Fo]at h;have a:=absHeap_ins (life:=life) h.1;rw[e]at a;have b:=SF (l:=l) h.2 (a.trans (show Heap.push ⟨os,life⟩ o=⟨os.push o,life⟩from rfl));refine (?_:absHeap (LD l (n+1) (t.ins n o)) (n+(l.length+1)) life=_);rw[show n+(l.length+1)=n+1+l.length by (first|lia|omega),b];congr 1;apply Array.ext';simp
noncomputable def PD(s:Ab):SharedT:=⟨LD s.heap.objs.toList 0 .nil,s.heap.objs.size,s.heap.life,s.gens,s.drawn,s.toks,s.os⟩
theorem XO{s:Ab}(h:Kg s.heap.objs.toList 0 .nil=true):(PD s).abs=s:=by
 obtain⟨⟨a,b⟩,g,d,t,os⟩:=s;have e:=SF (life:=b) (os:= #[]) h (by
  unfold absHeap BT.list;rfl)
 rw[Ga]at e;refine (?_:Shared.mk (absHeap (LD a.toList 0 .nil) a.size b) g d t os=_);have c:a.toList.length=a.size:=rfl;rw[←c,e];congr 1;congr 1;simp
noncomputable def NO(c:String→Option Builtin)(p:Program)(w:Aa)(N:Nat):Option Ab:=
 match LB c (opening p) w N ⟨.nil,0,{},#[],{},1,(start (opening p)).1.os⟩ (start (opening p)).2 with
 |none=>none
 |some sT=>match fenceModules? p sT.abs with
  |none=>none
  |some a=>match a.heap.isNs mainGlobals&&a.gens.size==0&&Kg a.heap.objs.toList 0 .nil with
   |false=>none
   |true=>match LC c p w a.heap.objs.size (a.heap.nsMap mainGlobals "__annotations__") N (PD a) (topStub p)with
    |none=>none
    |some b=>match staticsOk (importedModules p.main.body) a.heap b.abs.heap&&namesBound p b.abs.heap&&gensDone b.abs&&laidKept a.heap b.abs.heap with
     |true=>some b.abs
     |false=>none
theorem XQ{b:String→Option Builtin}{p:Program}{w:Aa}{N:Nat}{s:Ab}(h:NO b p w N=some s):openEnds b p w N=some s:=by
 unfold NO at h;cases c:LB b (opening p) w N ⟨.nil,0,{},#[],{},1,(start (opening p)).1.os⟩ (start (opening p)).2 with
 |none=>rw[c]at h;cases h
 |some sT=>
  rw[c]at h;dsimp only at h;have m:importEnds b (opening p) w N (start (opening p)).1 (start (opening p)).2=some sT.abs:=by
   have:=SD c;exact this
  cases d:fenceModules? p sT.abs with
  |none=>rw[d]at h;cases h
  |some a=>
   rw[d]at h;dsimp only at h;cases e:(a.heap.isNs mainGlobals&&a.gens.size==0&&Kg a.heap.objs.toList 0 .nil)with
   |false=>rw[e]at h;cases h
   |true=>
    rw[e]at h;dsimp only at h;obtain⟨i,j⟩:=Bool.and_eq_true_iff.mp e;cases g:LC b p w a.heap.objs.size (a.heap.nsMap mainGlobals "__annotations__") N (PD a) (topStub p)with
    |none=>rw[g]at h;cases h
    |some l=>
     rw[g]at h;dsimp only at h;have k:=SE g;rw[XO j]at k;unfold openEnds fencedOpening topFrom;rw[m];show(Option.bind (some sT.abs) (fenceModules? p)).bind _=_;rw[Option.bind_some,d,Option.bind_some,i];dsimp only;rw[k,Option.bind_some];exact h
noncomputable def XR:Stmt:=.Pass ⟨0,0,0,0⟩
noncomputable def AB:List Stmt→Nat→Stmt
 |[],_=>XR
 |s::_,0=>s
 |_::l,n+1=>AB l n
noncomputable def SG:Arguments:={posonlyargs:=[],args:=[],vararg:=none,kwonlyargs:=[],kw_defaults:=[],kwarg:=none,defaults:=[]}
noncomputable def PE:Scope:={kind:=.function,names:=[],isGenerator:=false,isCoroutine:=false,more:=[]}
noncomputable def PF:Expr:=.Name ⟨⟨[]⟩⟩ ⟨0,0,0,0⟩
noncomputable def A9:List Expr→Nat→Expr
 |[],_=>PF
 |s::_,0=>s
 |_::l,n+1=>A9 l n
noncomputable def PG:List Comprehension→List Expr
 |[]=>[]
 |g::l=>g.target::g.iter::(g.ifs++PG l)
noncomputable def SH:List Keyword→List Expr
 |[]=>[]
 |k::l=>k.value::SH l
structure EI where
 k:List Expr:=[]
 p:Pos:=⟨0,0,0,0⟩
 s:Scope:=PE
 n:Str:=⟨⟨[]⟩⟩
 a:Arguments:=SG
 c:Nat:=0
 g:List Comprehension:=[]
noncomputable def eI:Expr→EI
 | .BoolOp _ h _=>{k:=h}
 | .BinOp l _ r _=>{k:=[l,r]}
 | .UnaryOp _ o _=>{k:=[o]}
 | .Lambda a b s _=>{k:=[b],s:=s,a:=a}
 | .IfExp t b o p=>{k:=[t,b,o],p:=p}
 | .ListComp e g s p=>{k:=e::PG g,s:=s,p:=p,g:=g}
 | .GeneratorExp e g s p=>{k:=e::PG g,s:=s,p:=p,g:=g}
 | .Compare l _ r p=>{k:=l::r,p:=p}
 | .Call f a k p=>{k:=f::(a++SH k),p:=p}
 | .Attribute v _ p=>{k:=[v],p:=p}
 | .Subscript v s p=>{k:=[v,s],p:=p}
 | .List d p=>{k:=d,p:=p}
 | .Tuple d c p=>{k:=d,c:=c,p:=p}
 | .Name n p=>{n:=n,p:=p}
 | .Constant (.str s) _ _=>{n:=s}
 |_=>{}
noncomputable def Br(e:Expr):List Expr:=(eI e).k
noncomputable def Fq(e:Expr):Scope:=(eI e).s
noncomputable def gP(e:Expr):Pos:=(eI e).p
noncomputable def PH(e:Expr):Str:=(eI e).n
noncomputable def XS(e:Expr):Arguments:=(eI e).a
noncomputable def tK(e:Expr):Nat:=(eI e).c
noncomputable def eE(e:Expr)(i:Nat):Expr:=A9 (eI e).k i
structure SI where
 k:List Expr:=[]
 b:List Stmt:=[]
 e:List Stmt:=[]
 f:List Stmt:=[]
 h:List ExceptHandler:=[]
 p:Pos:=⟨0,0,0,0⟩
noncomputable def sI:Stmt→SI
 | .Return (some v) p=>{k:=[v],p:=p}
 | .Assign a v p=>{k:=v::a,p:=p}
 | .AugAssign t _ v p=>{k:=[t,v],p:=p}
 | .For t i b e p=>{k:=[t,i],b:=b,e:=e,p:=p}
 | .While t b e p=>{k:=[t],b:=b,e:=e,p:=p}
 | .If t b e p=>{k:=[t],b:=b,e:=e,p:=p}
 | .Expr v p=>{k:=[v],p:=p}
 | .Try b h e f p=>{b:=b,h:=h,e:=e,f:=f,p:=p}
 | .FunctionDef _ _ b _ _ _ _ _ _ _=>{b:=b}
 | .ClassDef _ _ _ b _ _ _ _ _ _ _=>{b:=b}
 |_=>{}
noncomputable def Kh(s:Stmt):List Expr:=(sI s).k
noncomputable def AN(s:Stmt):List Stmt:=(sI s).b
noncomputable def Dt(s:Stmt):List Stmt:=(sI s).e
noncomputable def LE(s:Stmt):List Stmt:=(sI s).f
noncomputable def LF(s:Stmt):List ExceptHandler:=(sI s).h
noncomputable def sP(s:Stmt):Pos:=(sI s).p
noncomputable def sT(s:Stmt):Expr:=A9 (sI s).k 0
noncomputable def Ev(s:Stmt):Expr:=A9 (sI s).k 1
noncomputable def Hp(e:Expr):Comprehension:=(eI e).g.headD ⟨PF,PF,[],0⟩
noncomputable def XT(l:List Stmt):Str:=(eI (sT (AB l 0))).n
noncomputable abbrev SJ{a:Type}(_:a):Prop:=True
theorem Bc{b:Type}{a s:b}(h:a=s):SJ s:=trivial
noncomputable def Be{a:Type}(s:a)(_:SJ s):a:=s
noncomputable abbrev NP:Program:=PySem.Challenge.pw_oh0120_01
noncomputable def pzD:Str:=Str.ofString "x"
theorem pzE:pzD=pzD:=rfl
name_quick tw749736533983998154 for pzD by pzE
noncomputable def XU:Stmt→Stmt→Stmt
 | .FunctionDef a b _ c d e _ g h i,.FunctionDef _ _ l _ _ _ s _ _ _=>.FunctionDef a b l c d e s g h i
 |s,_=>s
noncomputable def B0:Stmt→Stmt
 | .FunctionDef a b _ c d e _ g h i=>.FunctionDef a b [] c d e PE g h i
 |s=>s
noncomputable def Ki:Stmt→List Stmt→Stmt
 | .ClassDef a b c _ d e f g h i j,l=>.ClassDef a b c l d e f g h i j
 |s,_=>s
noncomputable def tp(i:Nat):Stmt:=AB NP.main.body i
noncomputable def mm(i:Nat):Stmt:=AB (AN (tp 6)) i
noncomputable def B1(s r:Stmt):Stmt:=XU s r
noncomputable def XV:Stmt:=Be _ (Bc (a:=tp 0) (by conv=>lhs;whnf))
noncomputable def XW:Stmt:=B1 (Be _ (Bc (a:=B0 (tp 1)) (by conv=>lhs;whnf))) (tp 1)
noncomputable def XX:Stmt:=Be _ (Bc (a:=tp 2) (by conv=>lhs;whnf))
noncomputable def m3(i:Nat):Stmt:=AB (AN (tp 3)) i
noncomputable def XY:Stmt:=B1 (Be _ (Bc (a:=B0 (m3 0)) (by conv=>lhs;whnf))) (m3 0)
noncomputable def XZ:Stmt:=B1 (Be _ (Bc (a:=B0 (m3 1)) (by conv=>lhs;whnf))) (m3 1)
noncomputable def X2:Stmt:=B1 (Be _ (Bc (a:=B0 (m3 2)) (by conv=>lhs;whnf))) (m3 2)
noncomputable def X3:Stmt:=B1 (Be _ (Bc (a:=B0 (m3 3)) (by conv=>lhs;whnf))) (m3 3)
noncomputable def X4:Stmt:=Be _ (Bc (a:=Ki (tp 3) []) (by conv=>lhs;whnf))
noncomputable def X5:Stmt:=Ki X4 [XY,XZ,X2,X3]
noncomputable def m4(i:Nat):Stmt:=AB (AN (tp 4)) i
noncomputable def X6:Stmt:=Be _ (Bc (a:=m4 0) (by conv=>lhs;whnf))
noncomputable def X7:Stmt:=Be _ (Bc (a:=m4 1) (by conv=>lhs;whnf))
noncomputable def X8:Stmt:=Be _ (Bc (a:=m4 2) (by conv=>lhs;whnf))
noncomputable def X9:Stmt:=Be _ (Bc (a:=m4 3) (by conv=>lhs;whnf))
noncomputable def Yb:Stmt:=B1 (Be _ (Bc (a:=B0 (m4 4)) (by conv=>lhs;whnf))) (m4 4)
noncomputable def Yc:Stmt:=B1 (Be _ (Bc (a:=B0 (m4 5)) (by conv=>lhs;whnf))) (m4 5)
noncomputable def Yd:Stmt:=B1 (Be _ (Bc (a:=B0 (m4 6)) (by conv=>lhs;whnf))) (m4 6)
noncomputable def Ye:Stmt:=Be _ (Bc (a:=m4 7) (by conv=>lhs;whnf))
noncomputable def Yg:Stmt:=B1 (Be _ (Bc (a:=B0 (m4 8)) (by conv=>lhs;whnf))) (m4 8)
noncomputable def Yh:Stmt:=B1 (Be _ (Bc (a:=B0 (m4 9)) (by conv=>lhs;whnf))) (m4 9)
noncomputable def Yi:Stmt:=B1 (Be _ (Bc (a:=B0 (m4 10)) (by conv=>lhs;whnf))) (m4 10)
noncomputable def Yj:Stmt:=Be _ (Bc (a:=m4 11) (by conv=>lhs;whnf))
noncomputable def Yk:Stmt:=Be _ (Bc (a:=m4 12) (by conv=>lhs;whnf))
noncomputable def Yl:Stmt:=Be _ (Bc (a:=m4 13) (by conv=>lhs;whnf))
noncomputable def Ym:Stmt:=Be _ (Bc (a:=m4 14) (by conv=>lhs;whnf))
noncomputable def Yn:Stmt:=Be _ (Bc (a:=Ki (tp 4) []) (by conv=>lhs;whnf))
noncomputable def Yo:Stmt:=Ki Yn [X6,X7,X8,X9,Yb,Yc,Yd,Ye,Yg,Yh,Yi,Yj,Yk,Yl,Ym]
noncomputable def Yp:Stmt:=B1 (Be _ (Bc (a:=B0 (tp 5)) (by conv=>lhs;whnf))) (tp 5)
noncomputable def Yq:Stmt:=Be _ (Bc (a:=mm 0) (by conv=>lhs;whnf))
noncomputable def Yr:Stmt:=B1 (Be _ (Bc (a:=B0 (mm 1)) (by conv=>lhs;whnf))) (mm 1)
noncomputable def Ys:Stmt:=B1 (Be _ (Bc (a:=B0 (mm 2)) (by conv=>lhs;whnf))) (mm 2)
noncomputable def Yt:Stmt:=B1 (Be _ (Bc (a:=B0 (mm 3)) (by conv=>lhs;whnf))) (mm 3)
noncomputable def Yu:Stmt:=B1 (Be _ (Bc (a:=B0 (mm 4)) (by conv=>lhs;whnf))) (mm 4)
noncomputable def Yv:Stmt:=B1 (Be _ (Bc (a:=B0 (mm 5)) (by conv=>lhs;whnf))) (mm 5)
noncomputable def Yw:Stmt:=B1 (Be _ (Bc (a:=B0 (mm 6)) (by conv=>lhs;whnf))) (mm 6)
noncomputable def Yx:Stmt:=B1 (Be _ (Bc (a:=B0 (mm 7)) (by conv=>lhs;whnf))) (mm 7)
noncomputable def Yy:Stmt:=B1 (Be _ (Bc (a:=B0 (mm 8)) (by conv=>lhs;whnf))) (mm 8)
noncomputable def Yz:Stmt:=B1 (Be _ (Bc (a:=B0 (mm 9)) (by conv=>lhs;whnf))) (mm 9)
noncomputable def YA:Stmt:=B1 (Be _ (Bc (a:=B0 (mm 10)) (by conv=>lhs;whnf))) (mm 10)
noncomputable def YB:Stmt:=B1 (Be _ (Bc (a:=B0 (mm 11)) (by conv=>lhs;whnf))) (mm 11)
noncomputable def YC:Stmt:=B1 (Be _ (Bc (a:=B0 (mm 12)) (by conv=>lhs;whnf))) (mm 12)
noncomputable def YD:Stmt:=Be _ (Bc (a:=Ki (tp 6) []) (by conv=>lhs;whnf))
noncomputable def YE:Stmt:=Ki YD [Yq,Yr,Ys,Yt,Yu,Yv,Yw,Yx,Yy,Yz,YA,YB,YC]
noncomputable def YF:Stmt:=Be _ (Bc (a:=tp 7) (by conv=>lhs;whnf))
noncomputable def YG:Stmt:=B1 (Be _ (Bc (a:=B0 (tp 8)) (by conv=>lhs;whnf))) (tp 8)
noncomputable def YH:Stmt:=Be _ (Bc (a:=tp 9) (by conv=>lhs;whnf))
noncomputable def YI:Stmt:=B1 (Be _ (Bc (a:=B0 (tp 10)) (by conv=>lhs;whnf))) (tp 10)
noncomputable def YJ:Stmt:=Be _ (Bc (a:=tp 11) (by conv=>lhs;whnf))
noncomputable def YK:Stmt:=Be _ (Bc (a:=tp 12) (by conv=>lhs;whnf))
noncomputable def YL:Stmt:=B1 (Be _ (Bc (a:=B0 (tp 13)) (by conv=>lhs;whnf))) (tp 13)
noncomputable def YM:Stmt:=Be _ (Bc (a:=tp 14) (by conv=>lhs;whnf))
noncomputable def YN:Stmt:=B1 (Be _ (Bc (a:=B0 (tp 15)) (by conv=>lhs;whnf))) (tp 15)
noncomputable def YO:Stmt:=Be _ (Bc (a:=tp 16) (by conv=>lhs;whnf))
noncomputable def YP:Stmt:=B1 (Be _ (Bc (a:=B0 (tp 17)) (by conv=>lhs;whnf))) (tp 17)
noncomputable def YQ:Stmt:=B1 (Be _ (Bc (a:=B0 (tp 18)) (by conv=>lhs;whnf))) (tp 18)
noncomputable def YR:Stmt:=B1 (Be _ (Bc (a:=B0 (tp 19)) (by conv=>lhs;whnf))) (tp 19)
noncomputable def YS:Stmt:=B1 (Be _ (Bc (a:=B0 (tp 20)) (by conv=>lhs;whnf))) (tp 20)
noncomputable def YT:Stmt:=B1 (Be _ (Bc (a:=B0 (tp 21)) (by conv=>lhs;whnf))) (tp 21)
noncomputable def YU:Stmt:=B1 (Be _ (Bc (a:=B0 (tp 22)) (by conv=>lhs;whnf))) (tp 22)
noncomputable def YV:Scope:=Be _ (Bc (a:=NP.main.scope) (by conv=>lhs;whnf))
noncomputable def YW:Given:=Be _ (Bc (a:=NP.given) (by conv=>lhs;whnf))
noncomputable def pw:Program:={main:={body:=[XV,XW,XX,X5,Yo,Yp,YE,YF,YG,YH,YI,YJ,YK,YL,YM,YN,YO,YP,YQ,YR,YS,YT,YU],scope:=YV,futureAnnotations:=false,file:="/claim/cut.py",more:=[]},modules:=[],parses:=[],absent:=[],harvested:=[],given:=YW}
theorem PI:PySem.Challenge.pw_oh0120_01=pw:=by kernel_rfl
noncomputable def SK:Stmt→Arguments
 | .FunctionDef _ a _ _ _ _ _ _ _ _=>a
 |_=>SG
noncomputable def EH:Stmt→Scope
 | .FunctionDef _ _ _ _ _ _ s _ _ _=>s
 |_=>PE
noncomputable def Fr(s:Stmt):Str:=XT (AN s)
noncomputable def top(i:Nat):Stmt:=AB pw.main.body i
noncomputable def mem(i j:Nat):Stmt:=AB (AN (top i)) j
noncomputable def zK(a b:String)(t c d e g h i:Nat)(v:Bool)(j k:Nat)(w l m:Value)(n o r s:Nat):Obj:=⟨.type "code",none,.fields ⟨[.str (Str.ofString a) t,.str (Str.ofString b) (t+1),.str (Str.ofString "/claim/cut.py") (t+2),.int c 0,.int d 0,.int e 0,.int g 0,.int h 0,.ref i,.bool v,.int j 0,.ref k,w,l,m,.ref n,.int o 0,.int r 0,.str (Str.ofString "/claim/cut.py") s]⟩,⟨[]⟩⟩
noncomputable def zF(a b:String)(x r:Stmt)(d e g m:Value)(c:Nat):Obj:=⟨.type "function",none,.func (PySem.FuncData.mk (Str.ofString a) (Str.ofString b) (SK x) (.stmts (AN r)) (EH r) 3 [] d e g m none (.ref c) .none 0),⟨[]⟩⟩
noncomputable def zS(P:Aj)(i:Nat)(l:Array Nat)(v:Value):DictEntry:=⟨PyData.keyHash P (Str.mk l),.str (Str.mk l) i,v⟩
noncomputable def zT(P:Aj)(i:Nat)(n:String):DictEntry:=⟨PyData.keyHash P (Str.ofString n),.str (Str.ofString n) i,.type n⟩
noncomputable def zB(P:Aj)(i:Nat)(n:String):DictEntry:=⟨PyData.keyHash P (Str.ofString n),.str (Str.ofString n) i,.builtin n⟩
noncomputable def zV(P:Aj)(i:Nat)(n:String)(v:Value):DictEntry:=⟨PyData.keyHash P (Str.ofString n),.str (Str.ofString n) i,v⟩
noncomputable def YX(P:Aj):List DictEntry:=[zV P 1 "__name__" (.str (Str.ofString "builtins") 160),zV P 2 "__doc__" (.builtin "builtins.__doc__:str#opaque"),zV P 3 "__package__" (.builtin "builtins.__package__:str#opaque"),zV P 4 "__loader__" (.builtin "builtins.__loader__:shared#opaque"),zV P 5 "__spec__" (.builtin "builtins.__spec__#opaque"),zB P 6 "__build_class__",⟨PyData.keyHash P (Str.mk ⟨[95,95,105,109,112,111,114,116,95,95]⟩),.str (Str.mk ⟨[95,95,105,109,112,111,114,116,95,95]⟩) 7,.builtin ("__imp"++"ort__")⟩,zB P 8 "abs",zB P 9 "all",zB P 10 "any",zB P 11 "ascii",zB P 12 "bin",zB P 13 "breakpoint",zB P 14 "callable"]
noncomputable def YY(P:Aj):List DictEntry:=[zB P 15 "chr",zB P 16 "compile",zB P 17 "delattr",zB P 18 "dir",zB P 19 "divmod",zB P 20 "eval",zB P 21 "exec",zB P 22 "format",zB P 23 "getattr",zB P 24 "globals",zB P 25 "hasattr",zB P 26 "hash",zB P 27 "hex",zB P 28 "id"]
noncomputable def YZ(P:Aj):List DictEntry:=[zB P 29 "input",zB P 30 "isinstance",zB P 31 "issubclass",zB P 32 "iter",zB P 33 "aiter",zB P 34 "len",zB P 35 "locals",zB P 36 "max",zB P 37 "min",zB P 38 "next",zB P 39 "anext",zB P 40 "oct",zB P 41 "ord",zB P 42 "pow"]
noncomputable def Y0(P:Aj):List DictEntry:=[zB P 43 "print",zB P 44 "repr",zB P 45 "round",zB P 46 "setattr",zB P 47 "sorted",zB P 48 "sum",zB P 49 "vars",zV P 50 "None" (.none),zV P 51 "Ellipsis" (.ellipsis),zV P 52 "NotImplemented" (.notImplemented),zV P 53 "False" (.bool false),zV P 54 "True" (.bool true),zT P 55 "bool",zT P 56 "memoryview"]
noncomputable def Y1(P:Aj):List DictEntry:=[zT P 57 "bytearray",zT P 58 "bytes",zT P 59 "classmethod",zT P 60 "complex",zT P 61 "dict",zT P 62 "enumerate",zT P 63 "filter",zT P 64 "float",zT P 65 "frozenset",zT P 66 "property",zT P 67 "int",zT P 68 "list",zT P 69 "map",zT P 70 "object"]
noncomputable def Y2(P:Aj):List DictEntry:=[zT P 71 "range",zT P 72 "reversed",zT P 73 "set",zT P 74 "slice",zT P 75 "staticmethod",zT P 76 "str",zT P 77 "super",zT P 78 "tuple",zT P 79 "type",zT P 80 "zip",zV P 81 "__debug__" (.bool true),zT P 82 "BaseException",zT P 83 "BaseExceptionGroup",zT P 84 "Exception"]
noncomputable def Y3(P:Aj):List DictEntry:=[zT P 85 "GeneratorExit",zT P 86 "KeyboardInterrupt",zT P 87 "SystemExit",zT P 88 "ArithmeticError",zT P 89 "AssertionError",zT P 90 "AttributeError",zT P 91 "BufferError",zT P 92 "EOFError",zT P 93 "ImportError",zT P 94 "LookupError",zT P 95 "MemoryError",zT P 96 "NameError",zT P 97 "OSError",zT P 98 "ReferenceError"]
noncomputable def Y4(P:Aj):List DictEntry:=[zT P 99 "RuntimeError",zT P 100 "StopAsyncIteration",zT P 101 "StopIteration",zT P 102 "SyntaxError",zT P 103 "SystemError",zT P 104 "TypeError",zT P 105 "ValueError",zT P 106 "Warning",zT P 107 "FloatingPointError",zT P 108 "OverflowError",zT P 109 "ZeroDivisionError",zT P 110 "BytesWarning",zT P 111 "DeprecationWarning",zT P 112 "EncodingWarning"]
noncomputable def Y5(P:Aj):List DictEntry:=[zT P 113 "FutureWarning",zT P 114 "ImportWarning",zT P 115 "PendingDeprecationWarning",zT P 116 "ResourceWarning",zT P 117 "RuntimeWarning",zT P 118 "SyntaxWarning",zT P 119 "UnicodeWarning",zT P 120 "UserWarning",zT P 121 "BlockingIOError",zT P 122 "ChildProcessError",zT P 123 "ConnectionError",zT P 124 "FileExistsError",zT P 125 "FileNotFoundError",zT P 126 "InterruptedError"]
noncomputable def Y6(P:Aj):List DictEntry:=[zT P 127 "IsADirectoryError",zT P 128 "NotADirectoryError",zT P 129 "PermissionError",zT P 130 "ProcessLookupError",zT P 131 "TimeoutError",zT P 132 "IndentationError",zT P 133 "_IncompleteInputError",zT P 134 "IndexError",zT P 135 "KeyError",zT P 136 "ModuleNotFoundError",zT P 137 "NotImplementedError",zT P 138 "PythonFinalizationError",zT P 139 "RecursionError",zT P 140 "UnboundLocalError"]
noncomputable def Y7(P:Aj):List DictEntry:=[zT P 141 "UnicodeError",zT P 142 "BrokenPipeError",zT P 143 "ConnectionAbortedError",zT P 144 "ConnectionRefusedError",zT P 145 "ConnectionResetError",zT P 146 "TabError",zT P 147 "UnicodeDecodeError",zT P 148 "UnicodeEncodeError",zT P 149 "UnicodeTranslateError",zT P 150 "ExceptionGroup",zV P 151 "EnvironmentError" (.type "OSError"),zV P 152 "IOError" (.type "OSError"),zB P 153 "open",zV P 154 "quit" (.builtin "builtins.quit#opaque")]
noncomputable def Y8(P:Aj):List DictEntry:=[zV P 155 "exit" (.builtin "builtins.exit#opaque"),zV P 156 "copyright" (.builtin "builtins.copyright#opaque"),zV P 157 "credits" (.builtin "builtins.credits#opaque"),zV P 158 "license" (.builtin "builtins.license#opaque"),zV P 159 "help" (.builtin "builtins.help#opaque")]
noncomputable def o0(P:Aj):Obj:=⟨.type "dict",none,.dict ⟨YX P++(YY P++(YZ P++(Y0 P++(Y1 P++(Y2 P++(Y3 P++(Y4 P++(Y5 P++(Y6 P++(Y7 P++(Y8 P)))))))))))⟩ 159,⟨[]⟩⟩
noncomputable def o1(P:Aj):Obj:=⟨.type "dict",none,.dict ⟨[zV P 162 "builtins" (.ref 4),zV P 163 "__main__" (.ref 5),zV P 285 "_heapq" (.ref 13)]⟩ 3,⟨[]⟩⟩
noncomputable def o2(P:Aj):Obj:=⟨.none,none,.dict ⟨[zS P 186 ⟨[105,109,112,111,114,116,46,108,111,97,100,101,100,46,95,104,101,97,112,113]⟩ (.bool true),zS P 191 ⟨[99,108,97,115,115,46,95,102,114,111,122,101,110,95,105,109,112,111,114,116,108,105,98,95,101,120,116,101,114,110,97,108,46,95,76,111,97,100,101,114,66,97,115,105,99,115]⟩ (.ref 16),zS P 207 ⟨[119,97,116,99,104,101,100,46,105,109,112,111,114,116]⟩ (.ref 20),zS P 208 ⟨[99,108,97,115,115,46,95,102,114,111,122,101,110,95,105,109,112,111,114,116,108,105,98,95,101,120,116,101,114,110,97,108,46,70,105,108,101,76,111,97,100,101,114]⟩ (.ref 22),zS P 229 ⟨[99,108,97,115,115,46,95,102,114,111,122,101,110,95,105,109,112,111,114,116,108,105,98,95,101,120,116,101,114,110,97,108,46,69,120,116,101,110,115,105,111,110,70,105,108,101,76,111,97,100,101,114]⟩ (.ref 27),zS P 257 ⟨[99,108,97,115,115,46,95,102,114,111,122,101,110,95,105,109,112,111,114,116,108,105,98,46,77,111,100,117,108,101,83,112,101,99]⟩ (.ref 33),zV P 286 "sys.modules.booked-epoch" (.int 3 0),zS P 304 ⟨[105,109,112,111,114,116,46,108,97,116,101,114,45,108,97,105,100,46,95,104,101,97,112,113]⟩ (.bool true),zV P 306 "watched.library" (.ref 38),zV P 0 "watched.library-objects" (.str (Str.mk ⟨[13]⟩) 0)]⟩ 10,⟨[]⟩⟩
noncomputable def Y9(P:Aj)(r:List DictEntry):List DictEntry:=(zV P 165 "__name__" (.str (Str.ofString "law_oh0120_01") 772))::(zV P 166 "__doc__" .none)::(zV P 167 "__package__" .none)::(zV P 168 "__loader__" (.builtin "__main__.__loader__#opaque"))::(zV P 169 "__spec__" .none)::(zV P 170 "__annotations__" (.ref 6))::(zV P 171 "__builtins__" (.ref 4))::r
noncomputable def Za(P:Aj)(r:List DictEntry):List DictEntry:=(zV P 173 "__file__" (.str (Str.ofString "/claim/cut.py") 172))::(zV P 174 "__cached__" .none)::(zV P 312 "heapify" (.builtin "_heapq.heapify"))::(zV P 315 "heapreplace" (.builtin "_heapq.heapreplace"))::(zV P 328 "_wall" (.ref 49))::(zV P 387 "_tuplegetter" (.ref 88))::(zV P 515 "Match" (.ref 163))::r
noncomputable def Zb(P:Aj)(r:List DictEntry):List DictEntry:=(zV P 523 "_calculate_ratio" (.ref 173))::(zV P 719 "SequenceMatcher" (.ref 270))::(zV P 727 "nlargest" (.ref 280))::(zV P 738 "get_close_matches" (.ref 286))::(zV P 741 "_initial_missing" (.ref 287))::(zV P 754 "reduce" (.ref 295))::(zV P 771 "sorted_list_difference" (.ref 302))::r
noncomputable def Zc(P:Aj)(r:List DictEntry):List DictEntry:=(zV P 779 "_law_text" (.ref 307))::(zV P 785 "_law_great" (.ref 312))::(zV P 791 "_law_code" (.ref 317))::(zV P 797 "_law_flips" (.ref 322))::(zV P 803 "_law_turned" (.ref 327))::(zV P 809 "law" (.ref 332))::r
noncomputable def o3(P:Aj):Obj:=⟨.type "dict",none,.dict ⟨Y9 P (Za P (Zb P (Zc P [])))⟩ 27,⟨[]⟩⟩
noncomputable def o4(P:Aj):Obj:=⟨.type "module",some 0,.plain,⟨[]⟩⟩
noncomputable def Zd(P:Aj):Obj:=zK "__new__" "Match.__new__" 409 30 4 0 0 3 104 true 316 105 .none (.ref 106) (.ref 107) 108 416 30 417
noncomputable def Ze(P:Aj):Obj:=zF "__new__" "Match.__new__" (mem 4 4) (m4 4) .none .none (.str (Str.ofString "Create new instance of Match(a, b, size)") 418) (.str (Str.ofString "cpy313.difflib") 329) 109
noncomputable def Zf(P:Aj):Obj:=zK "_make" "Match._make" 420 34 2 0 0 3 111 true 316 112 .none (.ref 113) (.ref 114) 115 426 34 427
noncomputable def Zg(P:Aj):Obj:=⟨.type "function",none,.func (PySem.FuncData.mk (Str.ofString "_make") (Str.ofString "Match._make") (SK (mem 4 5)) (.stmts (AN (m4 5))) (EH (m4 5)) 3 [] .none .none (.str (Str.ofString "Make a new Match object from a sequence or iterable") 428) (.str (Str.ofString "cpy313.difflib") 329) (some 120) (.ref 116) .none 0),⟨[]⟩⟩
noncomputable def Zh(P:Aj):Obj:=⟨.type "classmethod",some 118,.fields ⟨[.ref 117,.bool false]⟩,⟨[]⟩⟩
noncomputable def Zi(P:Aj)(r:List DictEntry):List DictEntry:=(zV P 395 "__module__" (.str (Str.ofString "cpy313.difflib") 329))::(zV P 399 "__firstlineno__" (.int 24 398))::(zV P 401 "__doc__" (.str (Str.ofString "Match(a, b, size)") 400))::(zV P 403 "__slots__" (.ref 101))::(zV P 407 "_fields" (.ref 102))::(zV P 408 "_field_defaults" (.ref 103))::(zV P 419 "__new__" (.ref 164))::r
noncomputable def Zj(P:Aj)(r:List DictEntry):List DictEntry:=(zV P 441 "_make" (.ref 119))::(zV P 452 "_replace" (.ref 128))::(zV P 453 "__replace__" (.ref 128))::(zV P 461 "__repr__" (.ref 135))::(zV P 468 "_asdict" (.ref 142))::(zV P 476 "__getnewargs__" (.ref 149))::(zV P 480 "__match_args__" (.ref 150))::r
noncomputable def Zk(P:Aj)(r:List DictEntry):List DictEntry:=(zV P 490 "a" (.ref 152))::(zV P 500 "b" (.ref 155))::(zV P 510 "size" (.ref 158))::(zV P 511 "__static_attributes__" (.ref 160))::r
noncomputable def NR(P:Aj):Obj:=⟨.type "dict",none,.dict ⟨Zi P (Zj P (Zk P []))⟩ 2,⟨[]⟩⟩
noncomputable def NS(P:Aj):Obj:=⟨.type "type",none,.cls (PySem.ClassData.mk (Str.ofString "Match") [.type "tuple"] [.ref 163,.type "tuple",.type "object"] 162 (Str.ofString "Match") false [] [] false none false),⟨[some (.ref 93),none,some (.str (Str.ofString "Match") 388),some (.str (Str.ofString "Match") 396),some .none,some (.bool false)]⟩⟩
noncomputable def Zl(P:Aj):Obj:=⟨.type "staticmethod",none,.fields ⟨[.ref 110]⟩,⟨[]⟩⟩
noncomputable def Zm(P:Aj):Obj:=zK "_calculate_ratio" "_calculate_ratio" 516 67 2 0 0 3 167 true 316 168 .none (.ref 169) (.ref 170) 171 521 67 522
noncomputable def Zn(P:Aj):Obj:=zF "_calculate_ratio" "_calculate_ratio" (top 5) (tp 5) .none .none .none (.str (Str.ofString "cpy313.difflib") 329) 172
noncomputable def Zo(P:Aj):Obj:=⟨.type "tuple",none,.seq ⟨[.none,.str (Str.ofString "") 539,.str (Str.ofString "") 540,.bool true]⟩ 0,⟨[]⟩⟩
noncomputable def Zp(P:Aj):Obj:=zK "__init__" "SequenceMatcher.__init__" 541 146 5 0 0 3 182 true 316 183 .none (.ref 184) (.ref 185) 186 549 146 550
noncomputable def Zq(P:Aj):Obj:=zF "__init__" "SequenceMatcher.__init__" (mem 6 1) (mm 1) (.ref 181) .none (.str (Fr (mm 1)) 551) (.str (Str.ofString "cpy313.difflib") 329) 187
noncomputable def Zr(P:Aj):Obj:=zK "set_seqs" "SequenceMatcher.set_seqs" 553 174 3 0 0 3 189 true 316 190 .none (.ref 191) (.ref 192) 193 559 174 560
noncomputable def Zs(P:Aj):Obj:=zF "set_seqs" "SequenceMatcher.set_seqs" (mem 6 2) (mm 2) .none .none (.str (Fr (mm 2)) 561) (.str (Str.ofString "cpy313.difflib") 329) 194
noncomputable def Zt(P:Aj):Obj:=zK "set_seq1" "SequenceMatcher.set_seq1" 563 185 2 0 0 3 196 true 316 197 .none (.ref 198) (.ref 199) 200 568 185 569
noncomputable def Zu(P:Aj):Obj:=zF "set_seq1" "SequenceMatcher.set_seq1" (mem 6 3) (mm 3) .none .none (.str (Fr (mm 3)) 570) (.str (Str.ofString "cpy313.difflib") 329) 201
noncomputable def Zv(P:Aj):Obj:=zK "set_seq2" "SequenceMatcher.set_seq2" 572 210 2 0 0 3 203 true 316 204 .none (.ref 205) (.ref 206) 207 577 210 578
noncomputable def Zw(P:Aj):Obj:=zF "set_seq2" "SequenceMatcher.set_seq2" (mem 6 4) (mm 4) .none .none (.str (Fr (mm 4)) 579) (.str (Str.ofString "cpy313.difflib") 329) 208
noncomputable def Zx(P:Aj):Obj:=zK "__chain_b" "SequenceMatcher.__chain_b" 581 237 1 0 0 3 210 true 316 211 .none (.ref 212) (.ref 213) 214 596 237 597
noncomputable def Zy(P:Aj):Obj:=zF "__chain_b" "SequenceMatcher.__chain_b" (mem 6 5) (mm 5) .none .none .none (.str (Str.ofString "cpy313.difflib") 329) 215
noncomputable def Zz(P:Aj):Obj:=⟨.type "tuple",none,.seq ⟨[.int 0 599,.none,.int 0 600,.none]⟩ 0,⟨[]⟩⟩
noncomputable def ZB(P:Aj):Obj:=zK "find_longest_match" "SequenceMatcher.find_longest_match" 601 261 5 0 0 3 218 true 316 219 .none (.ref 220) (.ref 221) 222 623 261 624
noncomputable def ZC(P:Aj):Obj:=zF "find_longest_match" "SequenceMatcher.find_longest_match" (mem 6 6) (mm 6) (.ref 217) .none (.str (Fr (mm 6)) 625) (.str (Str.ofString "cpy313.difflib") 329) 223
noncomputable def ZD(P:Aj):Obj:=zK "get_matching_blocks" "SequenceMatcher.get_matching_blocks" 627 336 1 0 0 3 225 true 316 226 .none (.ref 227) (.ref 228) 229 650 336 651
noncomputable def ZE(P:Aj):Obj:=zF "get_matching_blocks" "SequenceMatcher.get_matching_blocks" (mem 6 7) (mm 7) .none .none (.str (Fr (mm 7)) 652) (.str (Str.ofString "cpy313.difflib") 329) 230
noncomputable def SM(P:Aj):Obj:=zK "ratio" "SequenceMatcher.ratio" 670 390 1 0 0 3 247 true 316 248 .none (.ref 249) (.ref 250) 251 675 390 676
noncomputable def ZF(P:Aj):Obj:=zF "ratio" "SequenceMatcher.ratio" (mem 6 10) (mm 10) .none .none (.str (Fr (mm 10)) 677) (.str (Str.ofString "cpy313.difflib") 329) 252
noncomputable def ZG(P:Aj):Obj:=zK "quick_ratio" "SequenceMatcher.quick_ratio" 679 414 1 0 0 3 254 true 316 255 .none (.ref 256) (.ref 257) 258 689 414 690
noncomputable def ZH(P:Aj):Obj:=zF "quick_ratio" "SequenceMatcher.quick_ratio" (mem 6 11) (mm 11) .none .none (.str (Fr (mm 11)) 691) (.str (Str.ofString "cpy313.difflib") 329) 259
noncomputable def ZJ(P:Aj):Obj:=zK "real_quick_ratio" "SequenceMatcher.real_quick_ratio" 693 437 1 0 0 3 261 true 316 262 .none (.ref 263) (.ref 264) 265 699 437 700
noncomputable def ZK(P:Aj):Obj:=zF "real_quick_ratio" "SequenceMatcher.real_quick_ratio" (mem 6 12) (mm 12) .none .none (.str (Fr (mm 12)) 701) (.str (Str.ofString "cpy313.difflib") 329) 266
noncomputable def ZL(P:Aj)(r:List DictEntry):List DictEntry:=(zV P 531 "__module__" (.str (Str.ofString "cpy313.difflib") 329))::(zV P 535 "__firstlineno__" (.int 71 534))::(zV P 537 "__doc__" (.str (Fr (top 6)) 536))::(zV P 552 "__init__" (.ref 188))::(zV P 562 "set_seqs" (.ref 195))::(zV P 571 "set_seq1" (.ref 202))::(zV P 580 "set_seq2" (.ref 209))::r
noncomputable def ZM(P:Aj)(r:List DictEntry):List DictEntry:=(zV P 598 "_SequenceMatcher__chain_b" (.ref 216))::(zV P 626 "find_longest_match" (.ref 224))::(zV P 653 "get_matching_blocks" (.ref 231))::(zV P 660 "get_opcodes" (.ref 238))::(zV P 669 "get_grouped_opcodes" (.ref 246))::(zV P 678 "ratio" (.ref 253))::(zV P 692 "quick_ratio" (.ref 260))::r
noncomputable def ZO(P:Aj)(r:List DictEntry):List DictEntry:=(zV P 702 "real_quick_ratio" (.ref 267))::(zV P 713 "__static_attributes__" (.ref 268))::(zV P 715 "__dict__" (.ref 271))::(zV P 717 "__weakref__" (.ref 272))::r
noncomputable def ZP(P:Aj):Obj:=⟨.type "dict",none,.dict ⟨ZL P (ZM P (ZO P []))⟩ 3,⟨[]⟩⟩
noncomputable def ZQ(P:Aj):Obj:=⟨.type "type",none,.cls (PySem.ClassData.mk (Str.ofString "SequenceMatcher") [.type "object"] [.ref 270,.type "object"] 269 (Str.ofString "SequenceMatcher") true [] [] false none false),⟨[none,none,some (.str (Str.ofString "SequenceMatcher") 524),some (.str (Str.ofString "SequenceMatcher") 532),some (.builtin "object.__new__"),some (.bool true)]⟩⟩
noncomputable def ZR(P:Aj):Obj:=⟨.type "tuple",none,.seq ⟨[.none]⟩ 0,⟨[]⟩⟩
noncomputable def ZS(P:Aj):Obj:=zK "nlargest" "nlargest" 722 446 3 0 0 3 276 true 316 277 .none .none .none 278 725 446 726
noncomputable def ZU(P:Aj):Obj:=zF "nlargest" "nlargest" (top 8) (tp 8) (.ref 275) .none .none (.str (Str.ofString "heapq") 720) 279
noncomputable def ZV(P:Aj):Obj:=⟨.type "tuple",none,.seq ⟨[.int 3 730,.float 4603579539098121011 731]⟩ 0,⟨[]⟩⟩
noncomputable def ZW(P:Aj):Obj:=zK "get_close_matches" "get_close_matches" 732 492 4 0 0 3 282 true 316 283 .none .none .none 284 735 492 736
noncomputable def ZX(P:Aj):Obj:=zF "get_close_matches" "get_close_matches" (top 10) (tp 10) (.ref 281) .none (.str (Fr (tp 10)) 737) (.str (Str.ofString "cpy313.difflib") 728) 285
noncomputable def ZY(P:Aj):Obj:=⟨.type "tuple",none,.seq ⟨[.ref 287]⟩ 0,⟨[]⟩⟩
noncomputable def ZZ(P:Aj):Obj:=zK "reduce" "reduce" 742 535 3 0 0 3 289 true 316 290 .none (.ref 291) (.ref 292) 293 751 535 752
noncomputable def Z0(P:Aj):Obj:=zF "reduce" "reduce" (top 13) (tp 13) (.ref 288) .none (.str (Fr (tp 13)) 753) (.str (Str.ofString "cpy313.functools") 739) 294
noncomputable def Z1(P:Aj):Obj:=zK "sorted_list_difference" "sorted_list_difference" 757 560 2 0 0 3 296 true 316 297 .none (.ref 298) (.ref 299) 300 768 560 769
noncomputable def Z3(P:Aj):Obj:=zF "sorted_list_difference" "sorted_list_difference" (top 15) (tp 15) .none .none (.str (Fr (tp 15)) 770) (.str (Str.ofString "cpy313.unittest.util") 755) 301
noncomputable def Z4(P:Aj):Obj:=zK "_law_text" "_law_text" 774 600 1 0 0 3 303 true 316 304 .none .none .none 305 777 600 778
noncomputable def Z5(P:Aj):Obj:=zF "_law_text" "_law_text" (top 17) (tp 17) .none .none .none (.str (Str.ofString "law_oh0120_01") 772) 306
noncomputable def Z6(P:Aj):Obj:=zK "_law_great" "_law_great" 780 602 1 0 0 3 308 true 316 309 .none .none .none 310 783 602 784
noncomputable def Z7(P:Aj):Obj:=zF "_law_great" "_law_great" (top 18) (tp 18) .none .none .none (.str (Str.ofString "law_oh0120_01") 772) 311
noncomputable def Z8(P:Aj):Obj:=zK "_law_code" "_law_code" 786 604 0 0 0 3 313 true 316 314 .none .none .none 315 789 604 790
noncomputable def Z9(P:Aj):Obj:=zF "_law_code" "_law_code" (top 19) (tp 19) .none .none .none (.str (Str.ofString "law_oh0120_01") 772) 316
noncomputable def zA(P:Aj):Obj:=zK "_law_flips" "_law_flips" 792 612 2 0 0 3 318 true 316 319 .none .none .none 320 795 612 796
noncomputable def zC(P:Aj):Obj:=zF "_law_flips" "_law_flips" (top 20) (tp 20) .none .none .none (.str (Str.ofString "law_oh0120_01") 772) 321
noncomputable def zD(P:Aj):Obj:=zK "_law_turned" "_law_turned" 798 619 2 0 0 3 323 true 316 324 .none .none .none 325 801 619 802
noncomputable def zE(P:Aj):Obj:=zF "_law_turned" "_law_turned" (top 21) (tp 21) .none .none .none (.str (Str.ofString "law_oh0120_01") 772) 326
noncomputable def SN(P:Aj):Obj:=zK "law" "law" 804 621 1 0 0 3 328 true 316 329 .none .none .none 330 807 621 808
noncomputable def zH(P:Aj):Obj:=zF "law" "law" (top 22) (tp 22) .none .none .none (.str (Str.ofString "law_oh0120_01") 772) 331
noncomputable def PJ(P:Aj):Obj:=⟨.none,none,.fields ⟨[]⟩,⟨[]⟩⟩
noncomputable def PK(P:Aj):Obj:=⟨.none,none,.fields ⟨[]⟩,⟨[]⟩⟩
noncomputable def zJ(P:Aj)(r:List (Addr×Obj)):List (Addr×Obj):=(0,o0 P)::(1,o1 P)::(2,o2 P)::(3,o3 P)::(4,o4 P)::(109,Zd P)::(110,Ze P)::(116,Zf P)::(117,Zg P)::(119,Zh P)::(162,NR P)::r
noncomputable def zL(P:Aj)(r:List (Addr×Obj)):List (Addr×Obj):=(163,NS P)::(164,Zl P)::(172,Zm P)::(173,Zn P)::(181,Zo P)::(187,Zp P)::(188,Zq P)::(194,Zr P)::(195,Zs P)::(201,Zt P)::(202,Zu P)::r
noncomputable def zM(P:Aj)(r:List (Addr×Obj)):List (Addr×Obj):=(208,Zv P)::(209,Zw P)::(215,Zx P)::(216,Zy P)::(217,Zz P)::(223,ZB P)::(224,ZC P)::(230,ZD P)::(231,ZE P)::(248,PJ P)::(252,SM P)::r
noncomputable def zN(P:Aj)(r:List (Addr×Obj)):List (Addr×Obj):=(253,ZF P)::(259,ZG P)::(260,ZH P)::(266,ZJ P)::(267,ZK P)::(269,ZP P)::(270,ZQ P)::(275,ZR P)::(279,ZS P)::(280,ZU P)::(281,ZV P)::r
noncomputable def zO(P:Aj)(r:List (Addr×Obj)):List (Addr×Obj):=(285,ZW P)::(286,ZX P)::(288,ZY P)::(294,ZZ P)::(295,Z0 P)::(301,Z1 P)::(302,Z3 P)::(306,Z4 P)::(307,Z5 P)::(311,Z6 P)::(312,Z7 P)::r
noncomputable def zP(P:Aj)(r:List (Addr×Obj)):List (Addr×Obj):=(316,Z8 P)::(317,Z9 P)::(321,zA P)::(322,zC P)::(326,zD P)::(327,zE P)::(329,PK P)::(331,SN P)::(332,zH P)::r
noncomputable def frag(P:Aj):Frag:=zJ P (zL P (zM P (zN P (zO P (zP P [])))))
noncomputable def Js:List Addr:=[0,1,2,3,4,109,110,116,117,119,162,163,164,172,173,181,187,188,194,195,201,202,208,209,215,216,217,223,224,230,231,248,252,253,259,260,266,267,269,270,275,279,280,281,285,286,288,294,295,301,302,306,307,311,312,316,317,321,322,326,327,329,331,332]
noncomputable def q:Program:=view pw [0,22]
noncomputable def Iv:List Str:=["_wall","_tuplegetter","Match","_calculate_ratio","SequenceMatcher","nlargest","get_close_matches","_initial_missing","reduce","sorted_list_difference","_law_text","_law_great","_law_code","_law_flips","_law_turned"]
noncomputable def Xt(s:Ab):Bool:=xlAt q [] s&&recOk [] s
noncomputable def lhs(b:Builtin)(w:Aa):=(NO (PC b) pw w 5034).map (λs=>(openSeen q Iv (importedModules pw.main.body) Xt true s,obsZ Js s))
noncomputable def rhs(w:Aa):=openGood q Iv
noncomputable def rhs2(w:Aa):=valZ frag 333 810 w
lay_quick lhs rhs rhs2
theorem key: ∀w,tw14720033549999066060 tw4202317264376624991 w=some (tw1938990355778164159 w,valZ tw11500880152897323899 333 810 w):=by
 delta tw4202317264376624991;rw[←XM];intro w;kernel_rfl
theorem left:LeftO pw q Iv Xt (obsZ Js) (valZ frag 333 810) 5034:=by
 intro w;have k:lhs Builtin.«type.__new__» w=some (rhs w,valZ frag 333 810 w):=by
  have a:=Ai (Ai te14720033549999066060 Builtin.«type.__new__») w;have b:=Ai te1938990355778164159 w;rw[a,b,te4202317264376624991,te11500880152897323899];exact key w
 unfold lhs rhs at k;rw[←XN]at k;cases h:NO treeTable pw w 5034 with
 |none=>rw[h]at k;cases k
 |some s=>
  rw[h]at k;rw[XQ h];exact k
theorem zQ:LeftO PySem.Challenge.pw_oh0120_01 q Iv Xt (obsZ Js) (valZ frag 333 810) 5034:=by
 rw[PI];exact left
noncomputable def SO(p:Program):OpenLaw:={prog:=p,name:=Str.ofString "law",about:=[Str.ofString "get_close_matches"],foot:=6,most:=some 63,bound:=none,writes:=false}
noncomputable def said:Bool:=(SO pw).wellSaid
lay_quick said
theorem zR:PySem.Challenge.rw_oh0120_01.wellSaid=true:=by
 show(SO PySem.Challenge.pw_oh0120_01).wellSaid=true;rw[PI];exact te393242166362349930.trans (by kernel_rfl)
theorem main(walk: ∀d a,defOf q (Str.ofString "law")=some (d,a)→WalkX q Iv (XL q []) (obsZ Js) (valZ frag 333 810) PySem.Challenge.rw_oh0120_01.row.toRowW d a λf b=>PySem.call f b):PySem.Challenge.rw_oh0120_01.Holds:=by
 refine holds_law zR λsaid=> ?_;refine holds_openX (q:=q) (loose:=Iv) (Xt:=Xt) (XP:=XL q []) (Yf:=obsZ Js) (Ya:=valZ frag 333 810) (N:=5034) zQ (λs e=>xl_of s (Bool.and_eq_true_iff.mp e).1) XL.keeps (by rfl) (by rfl) (by rfl) (λs e=>recFacts_of (Bool.and_eq_true_iff.mp e).2) (by rfl) (by first|assumption|decide+kernel) (by decide+kernel) ⟨rfl,rfl,rfl,rfl,rfl,by decide+kernel⟩ ?hw ?hc
 case hw=>w_witness2
 case hc=>exact walk _ _ (by rfl)
section
noncomputable abbrev Ae:Type:=List (Addr×Obj)
noncomputable abbrev Au:Type:=Nat→Nat
inductive EJ where
 |addr (a:Nat)
 |code (c:Code)
 |led (l:Ae)
 |val (v:Option Value)
 |tree (t:Sem Fin)
structure Ak where
 d:Nat
 u:Nat
 h:Option Value
 c:Code
 idx:List Nat
 pre:Ae
 na:Nat
 nt:Nat
 no:Nat:=0
 r:List Nat→List Nat→Result
 outs:List Nat→List Nat→List Obj→List Obj
 news:List Nat→List Nat→List Obj→List Obj
 rx:List Obj→Result→Result:=λ_ r=>r
 gn:Option (Nat×Code):=none
inductive Jt where
 |free
 |wait (g:Nat) (c:Code)
 |quiet
noncomputable def PL:Jt→Bool
 | .quiet=>true
 |_=>false
structure Kf where
 c:Code
 hd:Option Value
 k:Result→Sem Fin
 d:Nat
 u:Nat
noncomputable abbrev Wd:Type:=Nat×(List Nat→List Nat→List Obj→Value×Value)
structure St where
 cur:Sem Fin
 c:Code
 fs:List Kf
 L:Ae
 as:List Nat
 ts:List Nat
 gh:List Obj
 H:List Nat
 E:List (Nat×(List Nat→List Nat→List Obj→Ak))
 W:List Wd
 ag:Nat
 d:Nat
 u:Nat
 gn:Jt
inductive Du where
 |done (f:Flow)
 |err (e:Value)
 |again (c:Code)
 |bad (n:Nat)
structure Bx where
 e:Du
 L:Ae
 ts:List Nat
 ask:List EJ
 say:List EJ
noncomputable def Ew:Ae→Nat→Obj→Ae
 |[],_,_=>[]
 |p::l,0,o=>(p.1,o)::l
 |p::l,i+1,o=>p::Ew l i o
noncomputable def DJ:Ae→Nat→Option (Addr×Obj)
 |[],_=>none
 |p::_,0=>some p
 |_::l,i+1=>DJ l i
noncomputable def pick(L:Ae):List Nat→Option Ae
 |[]=>some []
 |i::is=>match DJ L i with
  |none=>none
  |some p=>match pick L is with
   |none=>none
   |some l=>some (p::l)
noncomputable def put:Ae→List Nat→List Obj→Ae
 |L,i::a,o::os=>put (Ew L i o) a os
 |L,_,_=>L
noncomputable def BH:List Nat→List Obj→Ae
 |a::b,o::os=>(a,o)::BH b os
 |_,_=>[]
noncomputable def Dj(a:Au):Nat→List Nat
 |0=>[]
 |n+1=>a 0::Dj (λi=>a (i+1)) n
noncomputable def PM(a:Au)(n:Nat):Au:=λi=>a (i+n)
noncomputable abbrev AU:Type:=Nat→Obj
noncomputable def Ju(a:AU):Nat→List Obj
 |0=>[]
 |n+1=>a 0::Ju (λi=>a (i+1)) n
noncomputable def SP(a:AU)(n:Nat):AU:=λi=>a (i+n)
noncomputable def SQ:Option (Nat×Code)→Nat→Nat→Bool
 |none,a,b=>Nat.beq a b
 |some _,_,_=>true
noncomputable def DK:List Nat→Nat→Bool
 |[],_=>false
 |j::a,i=>match Nat.beq j i with
  |true=>true
  |false=>DK a i
noncomputable def DA:Ae→Nat→List Nat→Ae
 |[],_,_=>[]
 |p::l,i,a=>match DK a i with
  |true=>DA l (i+1) a
  |false=>p::DA l (i+1) a
noncomputable def Bk:Ae→List Obj→Ae
 |p::l,o::os=>(p.1,o)::Bk l os
 |_,_=>[]
noncomputable def Iw:List Kf→Option Value
 |[]=>none
 |f::a=>match f.hd with
  |some v=>some v
  |none=>Iw a
noncomputable def SR(a:Option Value):Bool:=match a with
 |none=>true
 |some v=> !decide (v=byPass)
noncomputable def PN(a b:Option Value):Option Value:=match a with
 |some v=>some v
 |none=>b
noncomputable def BR:List Nat→Bool
 |[]=>true
 |i::a=>match a.all (λj=> !Nat.beq i j)with
  |true=>BR a
  |false=>false
section
variable (den:Code→Sem Fin)(rooms:List (Code→Sem Unit))(its:List Value)(S S1 S2:Setting)(kt:KT)
noncomputable def skip:Nat→Sem Fin→Sem Fin
 |0,t=>t
 |n+1,t=>match t with
  | .load a _ k=>match kt.get a with
   |some o=>skip n (k o)
   |none=>t
  |t=>t
noncomputable def PO:List (Code→Sem Unit)→Nat→Option (Code→Sem Unit)
 |[],_=>none
 |r::_,0=>some r
 |_::l,n+1=>PO l n
noncomputable def NT:List Value→Nat→Option Value
 |[],_=>none
 |r::_,0=>some r
 |_::l,n+1=>NT l n
noncomputable def Ix(e:Expr)(n:Nat):Bool:=match e with
 | .ListComp _ a _ _=>match nthC a n with
  |some g=>g.is_async==0
  |none=>false
 |_=>false
where nthC:List Comprehension→Nat→Option Comprehension
 |[],_=>none
 |g::_,0=>some g
 |_::l,n+1=>nthC l n
noncomputable def bad(n:Nat)(st:St):Bx:=⟨.bad n,st.L,st.ts,[],[]⟩
noncomputable def chk(x y:EJ)(o:Bx):Bx:=⟨o.e,o.L,o.ts,x::o.ask,y::o.say⟩
noncomputable def Iy{a:Type _}(n:Nat)(st:St)(x:Option a)(f:a→Bx):Bx:=match x with
 |none=>bad n st
 |some o=>f o
noncomputable def Gc(n:Nat)(st:St)(b:Bool)(o:Bx):Bx:=match b with
 |false=>bad n st
 |true=>o
noncomputable def Hq(n:Nat)(st:St)(l:List Nat)(f:Nat→List Nat→Bx):Bx:=match l with
 |[]=>bad n st
 |i::H=>f i H
section
variable (ih:Au→Au→AU→St→Bx)(α τ:Au)(ω:AU)(st:St)
noncomputable def SS(v:Value)(g:Kf)(a:List Kf):List Wd→Bx
 |[]=>ih α τ ω {st with cur:=g.k (.ok (.ret v)),c:=g.c,fs:=a,W:=[],d:=g.d,u:=g.u}
 |q::W=>match q.1 with
  |m+1=>ih α τ ω {st with cur:=g.k (.ok (.ret v)),c:=g.c,fs:=a,W:=(m,q.2)::W,d:=g.d,u:=g.u}
  |0=>chk (.val (some v)) (.val (some (q.2 st.as st.ts st.gh).1)) (ih α τ ω {st with cur:=g.k (.ok (.ret (q.2 st.as st.ts st.gh).2)),c:=g.c,fs:=a,W:=W,d:=g.d,u:=g.u})
noncomputable def ST(f:Flow):List Kf→Bx
 |[]=>⟨.done f,st.L,st.ts,[],[]⟩
 |g::a=>match f with
  | .ret v=>SS ih α τ ω st v g a st.W
  |f=>ih α τ ω {st with cur:=g.k (.ok f),c:=g.c,fs:=a,d:=g.d,u:=g.u}
noncomputable def SU(a:Code):List Kf→Nat→Bx
 |[],0=>⟨.again a,st.L,st.ts,[],[]⟩
 |[],b+1=>ih α τ ω {st with cur:=den a,c:=a,fs:=[],ag:=b}
 |f::d,b=>ih α τ ω {st with cur:=den a,c:=a,fs:=f::d,ag:=b}
noncomputable def SV(e:Value):List Kf→Bx
 |[]=>⟨.err e,st.L,st.ts,[],[]⟩
 |g::a=>ih α τ ω {st with cur:=g.k (.error e),c:=g.c,fs:=a,d:=g.d,u:=g.u}
noncomputable def SW(k:Setting→Sem Fin)(i:Nat)(H:List Nat):Bx:=match i with
 |0=>ih α τ ω {st with cur:=k S,H:=H}
 |_+1=>chk (.tree (k S1)) (.tree (k S2)) (ih α τ ω {st with cur:=k S1,H:=H})
noncomputable def PP(a:Addr)(k:Obj→Sem Fin)(i:Nat)(H:List Nat):Bx:=match i with
 |0=>Iy 3 st (kt.get a) λo=>ih α τ ω {st with cur:=k o,H:=H}
 |i+1=>Iy 4 st (DJ st.L i) λp=>chk (.addr a) (.addr p.1) (ih α τ ω {st with cur:=k p.2,H:=H})
noncomputable def SX(a:Addr)(f:Obj→Obj)(k:Sem Fin)(i:Nat)(H:List Nat):Bx:=match i with
 |0=>bad 6 st
 |i+1=>Iy 7 st (DJ st.L i) λp=>Gc 8 st (!(f p.2).isFreed) (chk (.addr a) (.addr p.1) (ih α τ ω {st with cur:=k,H:=H,L:=Ew st.L i (f p.2)}))
noncomputable def SY(a:Code)(k:Nat→Sem Fin):Jt→Bx
 | .free=>ih (λi=>α (i+1)) τ ω {st with cur:=k (α 0),as:=st.as++[α 0],gn:=.wait (α 0) a}
 |_=>bad 24 st
noncomputable def NU(b:Option Value)(k:Result→Sem Fin)(a:Code)(H:List Nat)(E:List (Nat×(List Nat→List Nat→List Obj→Ak))):Bx:=ih α τ ω {st with cur:=den a,c:=a,fs:=⟨st.c,b,k,st.d,st.u⟩::st.fs,H:=H,E:=E,d:=st.d+st.c.weight,u:=st.u+st.c.cUnits}
noncomputable def SZ(d:Option Value)(k:Result→Sem Fin)(E:List (Nat×(List Nat→List Nat→List Obj→Ak)))(e:Expr)(n:Nat)(c a:Value)(b:Env)(i:Nat)(H:List Nat):Bx:=match i with
 |0=>NU den ih α τ ω st d k (.compStart e n c a b) H E
 |i+1=>Hq 20 st H λj H=>Iy 21 st (DJ st.L i) λp=>Iy 22 st (NT its j) λT=>Gc 23 st (Ix e n) (chk (.val (some c)) (.val (some (.ref p.1))) (chk (.val (some p.2.cls)) (.val (some T)) (NU den ih α τ ω st d k (.compLoop e n c a b) H E)))
noncomputable def PQ(b:Option Value)(k:Result→Sem Fin)(a:Code)(E:List (Nat×(List Nat→List Nat→List Obj→Ak))):Bx:=match a with
 | .compStart e n g c d=>Hq 19 st st.H (SZ den its ih α τ ω st b k E e n g c d)
 |a=>NU den ih α τ ω st b k a st.H E
noncomputable def LG(d:Option Value)(k:Result→Sem Fin)(g:Code)(e:Ak)(E:List (Nat×(List Nat→List Nat→List Obj→Ak)))(b:Ae)(a t:List Nat)(o:List Obj):Option (Nat×Code)→Jt→Bx
 |none,c=>Gc 26 st (!PL c) (chk (.code g) (.code e.c) (chk (.led b) (.led e.pre) (chk (.val (PN d (Iw st.fs))) (.val e.h)
  (ih α τ ω {st with cur:=k (e.rx o (e.r a t)),L:=put st.L e.idx (e.outs a t o)++BH a (e.news a t o),as:=st.as++a,ts:=st.ts++t,gh:=st.gh++o,E:=E,gn:=c}))))
 |some x,.wait h i=>chk (.addr h) (.addr x.1) (chk (.code i) (.code x.2) (chk (.code g) (.code e.c) (chk (.led b) (.led e.pre) (chk (.val (PN d (Iw st.fs))) (.val e.h)
  (ih α τ ω {st with cur:=k (e.rx o (e.r a t)),L:=(Bk b (e.outs a t o)++BH a (e.news a t o))++DA st.L 0 e.idx,as:=st.as++a,ts:=st.ts++t,gh:=st.gh++o,E:=E,gn:=.free})))))
 |some _,_=>bad 25 st
noncomputable def Iz(st:St)(e:Ak)(a t:List Nat)(o:List Obj):Bool:=Nat.ble (st.d+st.c.weight) e.d&&Nat.ble (st.u+st.c.cUnits) e.u&&BR e.idx&&SQ e.gn (e.outs a t o).length e.idx.length&&Nat.beq (e.news a t o).length e.na
noncomputable def PR(b:Option Value)(k:Result→Sem Fin)(c:Code)(e:Ak)(E:List (Nat×(List Nat→List Nat→List Obj→Ak)))(a:Ae):Bx:=
 Gc 13 st (Iz st e (Dj α e.na) (Dj τ e.nt) (Ju ω e.no)) (LG ih (PM α e.na) (PM τ e.nt) (SP ω e.no) st b k c e E a (Dj α e.na) (Dj τ e.nt) (Ju ω e.no) e.gn st.gn)
noncomputable def S9(a:Option Value)(k:Result→Sem Fin)(b:Code):List (Nat×(List Nat→List Nat→List Obj→Ak))→Bx
 |[]=>PQ den its ih α τ ω st a k b []
 |q::E=>match q.1 with
  |m+1=>PQ den its ih α τ ω st a k b ((m,q.2)::E)
  |0=>Iy 12 st (pick st.L (q.2 st.as st.ts st.gh).idx) (PR ih α τ ω st a k b (q.2 st.as st.ts st.gh) E)
noncomputable def Ta(k:List (Code×Pos)→Sem Fin)(i:Nat)(H:List Nat):Bx:=Hq 17 st H λm H=>Iy 15 st (PO rooms i) λr=>Gc 16 st (Nat.blt (st.d+st.c.weight) 1000&&Nat.blt (st.u+st.c.cUnits) 9900)
 (chk (.tree (.stack k)) (.tree (PySem.W.R.bindR (r st.c) λ_=>skip kt m (k []))) (ih α τ ω {st with cur:=skip kt m (k []),H:=H}))
noncomputable def Tb(b:Sem Fin):Bx:=match b with
  | .pure fin=>match fin with
   | .done f=>ST ih α τ ω st f st.fs
   | .again c=>Gc 1 st c.quiet (SU den ih α τ ω st c st.fs st.ag)
  | .raise e=>SV ih α τ ω st e st.fs
  | .rule _ k=>ih α τ ω {st with cur:=k ()}
  | .at _ k=>ih α τ ω {st with cur:=k ()}
  | .point _ k=>ih α τ ω {st with cur:=k ()}
  | .ask k=>Hq 18 st st.H (SW S S1 S2 ih α τ ω st k)
  | .load a _ k=>Hq 2 st st.H (PP kt ih α τ ω st a k)
  | .loadIfAlive a k=>Hq 2 st st.H (PP kt ih α τ ω st a λo=>k (some o))
  | .update a _ f k=>Hq 5 st st.H (SX ih α τ ω st a f (k ()))
  | .alloc o k=>Gc 9 st (!o.isFreed) (ih (λi=>α (i+1)) τ ω {st with cur:=k (α 0),L:=st.L++[(α 0,o)],as:=st.as++[α 0]})
  | .newGen c k=>SY ih α τ ω st c k st.gn
  | .fresh k=>ih α (λi=>τ (i+1)) ω {st with cur:=k (τ 0),ts:=st.ts++[τ 0]}
  | .handled d k=>Gc 10 st (!d) (ih α τ ω {st with cur:=k (Iw st.fs)})
  | .call c g _ _ k=>Gc 11 st (SR g) (S9 den its ih α τ ω st g k c st.E)
  | .stack k=>Hq 17 st st.H (Ta rooms kt ih α τ ω st k)
  |_=>bad 14 st
noncomputable def Tc:Bx:=Tb den rooms its S S1 S2 kt ih α τ ω st st.cur
end
noncomputable def Ej:Nat→Au→Au→AU→St→Bx
 |0=>λ_ _ _ st=>bad 0 st
 |n+1=>Tc den rooms its S S1 S2 kt (Ej n)
end
end
set_option maxHeartbeats 200000
noncomputable def Dv(g a:Array GenState):Prop:= ∃x:List GenState,a.toList=g.toList++x∧ ∀y∈x,y.bare=true
theorem Dv.refl(g:Array GenState):Dv g g:=⟨[],(BV _).symm,λ_ h=>(nomatch h)⟩
theorem Dv.trans{a b c:Array GenState}(x:Dv a b)(y:Dv b c):Dv a c:=by
 obtain⟨n,d,e⟩:=x;obtain⟨m,g,h⟩:=y;exact⟨n++m,by rw[g,d,Dr],λz hz=>(List.mem_append.mp hz).elim (e z) (h z)⟩
theorem Dv.push(g:Array GenState){x:GenState}(h:x.bare=true):Dv g (g.push x):=⟨[x],by simp,λy a=>by rw[Ip]at a;subst a;exact h⟩
theorem Dv.at{g a:Array GenState}(h:Dv g a){i:Nat}{x:GenState}(e:g[i]? =some x):a[i]? =some x:=by
 obtain⟨n,b,_⟩:=h;rw[←Array.getElem?_toList]at e⊢;rw[b,J6 (List.getElem?_eq_some_iff.mp e).1];exact e
theorem Dv.size{g a:Array GenState}(h:Dv g a):g.size≤a.size:=by
 obtain⟨n,b,_⟩:=h;rw[←Lm,←Lm,b,EX];(first|lia|omega)
noncomputable def PS(g:Nat)(a b:Array GenState):Prop:=b.size=a.size∧(∀k,k≠g→b[k]? =a[k]?)∧ ∀x,b[g]? =some x→x.bare=true
theorem Dv.off{a b c:Array GenState}(h:Dv a b){g:Nat}(t:a.size≤g)(o:PS g b c):Dv a c:=by
 obtain⟨x,k,n⟩:=h;obtain⟨o1,o2,o3⟩:=o;have u:b.size=a.size+x.length:=by rw[←Lm,k,EX,Lm]
 refine⟨c.toList.drop a.size,?_,λy r=> ?_⟩
 ·have e:c.toList.take a.size=a.toList:=by
   apply List.ext_getElem?;intro i
   by_cases d:i<a.size
   ·rw[List.getElem?_take_of_lt d,Array.getElem?_toList,o2 i (by (first|lia|omega)),←Array.getElem?_toList,k,J6 (by simpa using d)]
   ·rw[Je (by simp;(first|lia|omega)),Je (by simp;(first|lia|omega))]
  conv=>lhs;rw[←NF a.size c.toList,e]
 ·obtain⟨i,d,rfl⟩:=List.mem_iff_getElem.mp r
  have j:a.size+i<c.size:=by simp at d;(first|lia|omega)
  have e:(c.toList.drop a.size)[i]=c[a.size+i]:=by simp
  rw[e]
  by_cases q:a.size+i=g
  ·exact o3 _ (by rw[←q];simp[j])
  ·have l:=o2 _ q
   rw[Py j]at l;have m:a.size+i<b.size:=by (first|lia|omega)
   rw[Py m]at l;have s:=GG l;rw[s];apply n;have:b[a.size+i]=b.toList[a.size+i]'(by simpa using m):=by simp
   rw[this];have:b.toList[a.size+i]'(by simpa using m)=(a.toList++x)[a.size+i]'(by simp;(first|lia|omega)):=by simp[k]
   rw[this,List.getElem_append_right (by simp)];exact C0 _
structure An(kt:KT)(s:Ab)(L:Ae):Prop where
 mem: ∀p∈L,s.heap.get? p.1=some p.2
 nd:(L.map (·.1)).Nodup
 old: ∀a o,kt.get a=some o→s.heap.get? a=some o
 apart: ∀p∈L,∀a o,kt.get a=some o→a≠p.1
structure Ag(kt:KT)(s s':Ab)(L L':Ae):Prop where
 sat:An kt s' L'
 keep: ∀b o,s.heap.get? b=some o→(∀p∈L,p.1≠b)→s'.heap.get? b=some o
 new: ∀p∈L',(∃q∈L,q.1=p.1)∨s.heap.objs.size≤p.1
 size:s.heap.objs.size≤s'.heap.objs.size
 gens:Dv s.gens s'.gens
 os:s'.os=s.os
 drawn:s'.drawn=s.drawn
 toks:s.toks≤s'.toks
theorem Ag.refl{kt:KT}{s:Ab}{L:Ae}(h:An kt s L):Ag kt s s L L:=
 ⟨h,λ_ _ e _=>e,λp a=>.inl ⟨p,a,rfl⟩,A7 _,.refl _,rfl,rfl,A7 _⟩
theorem Ag.trans{kt:KT}{s k a:Ab}{L l c:Ae}(x:Ag kt s k L l)(y:Ag kt k a l c):Ag kt s a L c:=by
 refine⟨y.sat,λb o e h=> ?_,λp d=> ?_,Ay x.size y.size,x.gens.trans y.gens,y.os.trans x.os,y.drawn.trans x.drawn,Ay x.toks y.toks⟩
 ·refine y.keep b o (x.keep b o e h) λp d q=> ?_
  rcases x.new p d with⟨r,g,i⟩|j
  ·exact h r g (i.trans q)
  ·exact absurd (q▸Heap.lt_size e:p.1<s.heap.objs.size) (Nat.not_lt.mpr j)
 ·rcases y.new p d with⟨r,g,e⟩|h
  ·rcases x.new r g with⟨t,m,i⟩|j
   ·exact .inl ⟨t,m,i.trans e⟩
   ·exact .inr (e▸j)
  ·exact .inr (Ay x.size h)
theorem at?_mem(L:Ae): ∀(i:Nat) (p:Addr×Obj),DJ L i=some p→p∈L:=by
 induction L with
 |nil=>intro i p h;cases i <;> cases h
 |cons r l a=>
  intro i p h;cases i with
  |zero=>cases h;exact Bj
  |succ i=>exact BB _ (a i p h)
theorem NV(L:Ae): ∀(i:Nat) (o:Obj),(Ew L i o).map (·.1)=L.map (·.1):=by
 induction L with
 |nil=>intro i o;cases i <;> rfl
 |cons r l a=>
  intro i o;cases i with
  |zero=>rfl
  |succ i=>exact Am (r.1:: ·) (a i o)
theorem PU(L:Ae): ∀(i:Nat) (o:Obj) (p q:Addr×Obj),(L.map (·.1)).Nodup→DJ L i=some p→q∈Ew L i o→q=(p.1,o)∨(q∈L∧q.1≠p.1):=by
 induction L with
 |nil=>intro i o p q _ h;cases i <;> cases h
 |cons r l g=>
  intro i o p q d h c;rw[Eh,Lu]at d;cases i with
  |zero=>
   cases h;rcases List.mem_cons.mp c with e|c
   ·exact .inl e
   ·exact .inr ⟨BB _ c,λe=>d.1 (e▸B6 c)⟩
  |succ i=>
   rcases List.mem_cons.mp c with e|c
   ·subst e
    exact .inr ⟨Bj,λe=>d.1 (e▸B6 (at?_mem l i p h))⟩
   ·rcases g i o p q d.2 h c with e|⟨a,b⟩
    ·exact .inl e
    ·exact .inr ⟨BB _ a,b⟩
theorem An.set{kt:KT}{s:Ab}{L:Ae}(h:An kt s L){i:Nat}{p:Addr×Obj}(e:DJ L i=some p){f:Obj→Obj}(k:(f p.2).isFreed=false):
  Ag kt s {s with heap:=s.heap.update p.1 f} L (Ew L i (f p.2)):=by
 have l:=h.mem p (at?_mem L i p e);have g:Heap.SameBut p.1 s.heap (s.heap.update p.1 f):=Heap.SameBut.update ..;have n:(s.heap.update p.1 f).get? p.1=some (f p.2):=by
  first|exact Heap.get?_update_self f l k|exact Heap.get?_update_self _ l k
 refine⟨⟨λq c=> ?_,?_,λa o d=> ?_,λq c a o d=> ?_⟩,λb o t u=> ?_,λq c=> ?_,Jp g.1.symm,.refl _,rfl,rfl,A7 _⟩
 ·rcases PU L i _ p q h.nd e c with rfl|⟨j,m⟩
  ·exact n
  ·exact(g.2 _ m).trans (h.mem q j)
 ·rw[NV];exact h.nd
 ·exact(g.2 _ (h.apart p (at?_mem L i p e) a o d)).trans (h.old a o d)
 ·rcases PU L i _ p q h.nd e c with rfl|⟨j,_⟩
  ·exact h.apart p (at?_mem L i p e) a o d
  ·exact h.apart q j a o d
 ·exact(g.2 _ (Ne.symm (u p (at?_mem L i p e)))).trans t
 ·have:q.1∈(Ew L i (f p.2)).map (·.1):=B6 c
  rw[NV]at this;obtain⟨r,v,w⟩:=List.mem_map.mp this;exact .inl ⟨r,v,w⟩
theorem An.push{kt:KT}{s:Ab}{L:Ae}(h:An kt s L){o:Obj}(j:o.isFreed=false):
  Ag kt s {s with heap:=s.heap.push o} L (L++[(s.heap.objs.size,o)]):=by
 have k: ∀p∈L,p.1<s.heap.objs.size:=λp i=>Heap.lt_size (h.mem p i);refine⟨⟨λq c=> ?_,?_,λa e d=>Heap.get?_push_of_some _ (h.old a e d),λq c a e d=> ?_⟩,λb e g _=>Heap.get?_push_of_some _ g,λq c=> ?_,?_,.refl _,rfl,rfl,A7 _⟩
 ·rcases List.mem_append.mp c with c|c
  ·exact Heap.get?_push_of_some _ (h.mem q c)
  ·rw[Ip]at c
   subst c;exact Heap.get?_push_size _ j
 ·rw[BC,Fn]
  refine⟨h.nd,by simp,λa d b g=> ?_⟩;obtain⟨p,i,rfl⟩:=List.mem_map.mp d;simp only[Eh,List.map_nil,Ip]at g;subst g;exact CN (k p i)
 ·rcases List.mem_append.mp c with c|c
  ·exact h.apart q c a e d
  ·rw[Ip]at c
   subst c;exact CN (Heap.lt_size (h.old a e d))
 ·rcases List.mem_append.mp c with c|c
  ·exact .inl ⟨q,c,rfl⟩
  ·rw[Ip]at c
   subst c;exact .inr (A7 _)
 ·refine (?_:s.heap.objs.size≤(s.heap.push o).objs.size)
  rw[Heap.size_push];(first|lia|omega)
theorem An.tok{kt:KT}{s:Ab}{L:Ae}(h:An kt s L):Ag kt s {s with toks:=s.toks+1} L L:=
 ⟨⟨h.mem,h.nd,h.old,h.apart⟩,λ_ _ e _=>e,λp a=>.inl ⟨p,a,rfl⟩,A7 _,.refl _,rfl,rfl,Jq _⟩
theorem Ag.regen{kt:KT}{s a:Ab}{L b:Ae}(x:Ag kt s a L b){c:Array GenState}(h:Dv s.gens c):Ag kt s {a with gens:=c} L b:=
 ⟨⟨x.sat.mem,x.sat.nd,x.sat.old,x.sat.apart⟩,x.keep,x.new,x.size,h,x.os,x.drawn,x.toks⟩
set_option maxHeartbeats 400000
theorem zU: ∀(l:Ae) (os:List Obj),os.length=l.length→(Bk l os).map (·.1)=l.map (·.1):=by
 intro l
 induction l with
 |nil=>intro os _;cases os <;> rfl
 |cons p l a=>
  intro os h;cases os with
  |nil=>cases h
  |cons o os=>exact Am (p.1:: ·) (a os (Nat.succ.inj h))
theorem zW(L:Ae): ∀(i j:Nat) (o:Obj),i≠j→DJ (Ew L i o) j=DJ L j:=by
 induction L with
 |nil=>intro i j o _;cases i <;> rfl
 |cons p l a=>
  intro i j o h;cases i with
  |zero=>cases j with
   |zero=>exact absurd rfl h
   |succ j=>rfl
  |succ i=>cases j with
   |zero=>rfl
   |succ j=>exact a i j o (λe=>h (Am _ e))
theorem zZ(L:Ae)(i:Nat)(o:Obj): ∀(a:List Nat),i ∉ a→pick (Ew L i o) a=pick L a:=by
 intro a
 induction a with
 |nil=>intro _;rfl
 |cons j a b=>
  intro h;rw[Jo,not_or]at h;unfold pick;rw[zW L i j o h.1,b h.2]
theorem LH{L:Ae}{i:Nat}{b:List Nat}{a:Ae}(h:pick L (i::b)=some a):B5 λp l=>DJ L i=some p∧pick L b=some l∧a=p::l:=by
 unfold pick at h;cases e:DJ L i with
 |none=>rw[e]at h;cases h
 |some p=>
  rw[e]at h;dsimp only at h;cases c:pick L b with
  |none=>rw[c]at h;cases h
  |some l=>rw[c]at h;cases h;exact⟨p,l,rfl,rfl,rfl⟩
theorem LI{L:Ae}: ∀{d:List Nat} {c:Ae},pick L d=some c→(∀p∈c,p∈L)∧c.length=d.length:=by
 intro d
 induction d with
 |nil=>intro c h;cases h;exact⟨λ_ h=>(nomatch h),rfl⟩
 |cons i d g=>
  intro c h;obtain⟨p,l,j,k,rfl⟩:=LH h;obtain⟨a,b⟩:=g k;refine⟨λq e=> ?_,by rw[Ir,Ir,b]⟩;rcases List.mem_cons.mp e with rfl|e
  ·exact at?_mem L i q j
  ·exact a q e
theorem Td: ∀(a:List Nat) (os:List Obj) (L:Ae),(put L a os).map (·.1)=L.map (·.1):=by
 intro a
 induction a with
 |nil=>intro os L;cases os <;> rfl
 |cons i a b=>
  intro os L;cases os with
  |nil=>rfl
  |cons o os=>exact(b os (Ew L i o)).trans (NV L i o)
theorem PV{i:Nat}{a:List Nat}(h:BR (i::a)=true):i ∉ a∧BR a=true:=by
 unfold BR at h;cases e:a.all (λj=> !Nat.beq i j)with
 |false=>rw[e]at h;cases h
 |true=>
  rw[e]at h;refine⟨λb=> ?_,h⟩;have:=List.all_eq_true.mp e i b;rw[Nat.beq_refl]at this;cases this
theorem vA: ∀(e:List Nat) (os:List Obj) (L:Ae) (g:Ae) (q:Addr×Obj),(L.map (·.1)).Nodup→pick L e=some g→BR e=true→os.length=e.length→q∈put L e os→
  q∈Bk g os∨(q∈L∧ ∀r∈g,r.1≠q.1):=by
 intro e
 induction e with
 |nil=>
  intro os L g q _ h _ _ j;cases h;have:put L [] os=L:=by cases os <;> rfl
  rw[this]at j;exact .inr ⟨j,λ_ h=>(nomatch h)⟩
 |cons i e s=>
  intro os L g q m h t n j;cases os with
  |nil=>cases n
  |cons o os=>
   obtain⟨p,l,u,v,rfl⟩:=LH h;obtain⟨w,y⟩:=PV t;have:=s os (Ew L i o) l q (by rw[NV];exact m) (by rw[zZ L i o e w];exact v) y (Nat.succ.inj n) j;rcases this with a|⟨a,b⟩
   ·exact .inl (BB _ a)
   ·rcases PU L i o p q m u a with rfl|⟨c,d⟩
    ·exact .inl Bj
    ·refine .inr ⟨c,λr k=> ?_⟩
     rcases List.mem_cons.mp k with rfl|k
     ·exact Ne.symm d
     ·exact b r k
theorem An.sub{kt:KT}{s:Ab}{L:Ae}(h:An kt s L){c:List Nat}{d:Ae}(e:pick L c=some d)(u:BR c=true):An kt s d:=by
 refine⟨λp v=>h.mem p ((LI e).1 p v),?_,h.old,λp v=>h.apart p ((LI e).1 p v)⟩;have key: ∀(c:List Nat) (d:Ae),pick L c=some d→BR c=true→(d.map (·.1)).Nodup:=by
  intro c
  induction c with
  |nil=>intro d e _;cases e;exact List.nodup_nil
  |cons i c m=>
   intro d e u;obtain⟨p,l,A,z,rfl⟩:=LH e;obtain⟨B,C⟩:=PV u;rw[Eh,Lu];refine⟨λD=> ?_,m l z C⟩;have o: ∀(c:List Nat) (l:Ae),pick L c=some l→ ∀q∈l,∃j∈c,DJ L j=some q:=by
    intro c
    induction c with
    |nil=>intro l e q g;cases e;cases g
    |cons j c m=>
     intro l e q g;obtain⟨I,E,a,b,rfl⟩:=LH e;rcases List.mem_cons.mp g with rfl|g
     ·exact⟨j,Bj,a⟩
     ·obtain⟨k,F,ek⟩:=m E b q g
      exact⟨k,BB _ F,ek⟩
   obtain⟨q,g,G⟩:=List.mem_map.mp D;obtain⟨j,n,H⟩:=o c l z q g;have w: ∀(L:Ae),(L.map (·.1)).Nodup→ ∀(i j:Nat) (p q:Addr×Obj),DJ L i=some p→DJ L j=some q→p.1=q.1→i=j:=by
    intro L
    induction L with
    |nil=>intro _ i j p q h;cases i <;> cases h
    |cons r L m=>
     intro t i j p q y n e;rw[Eh,Lu]at t;cases i with
     |zero=>
      cases j with
      |zero=>rfl
      |succ j=>
       cases y;exact absurd (e▸B6 (at?_mem L j q n)) t.1
     |succ i=>
      cases j with
      |zero=>
       cases n;exact absurd (e▸B6 (at?_mem L i p y)) t.1
      |succ j=>exact Am _ (m t.2 i j p q y n e)
   exact B (w L h.nd i j p q A H G.symm▸n)
 exact key c d e u
theorem vB{kt:KT}{s z:Ab}{L g:Ae}{j:List Nat}{d k:List Obj}{u:List Nat}(h:An kt s L)(e:pick L j=some g)(B:BR j=true)(A:d.length=j.length)
  (x:Ag kt s z g (Bk g d++BH u k)):Ag kt s z L (put L j d++BH u k):=by
 have n:=LI e;have C:=zU g d (A.trans n.2.symm);have v:=x.sat.nd;rw[BC,Fn,C]at v;have fresh: ∀p∈BH u k,s.heap.objs.size≤p.1:=λp i=>by
  rcases x.new p (BG _ i)with⟨q,c,l⟩|D
  ·exact absurd l (v.2.2 _ (B6 c) _ (B6 i))
  ·exact D
 have E: ∀p∈L,p.1<s.heap.objs.size:=λp i=>Heap.lt_size (h.mem p i);have t: ∀q∈put L j d,∃r∈L,r.1=q.1:=λq c=>by
  have:q.1∈(put L j d).map (·.1):=B6 c;rw[Td]at this;obtain⟨r,w,l⟩:=List.mem_map.mp this;exact⟨r,w,l⟩
 refine⟨⟨λq c=> ?_,?_,x.sat.old,λq c a o m=> ?_⟩,λb o y F=>x.keep b o y λp i=>F p (n.1 p i),λq c=> ?_,x.size,x.gens,x.os,x.drawn,x.toks⟩
 ·rcases List.mem_append.mp c with c|c
  ·rcases vA j d L g q h.nd e B A c with a|⟨a,b⟩
   ·exact x.sat.mem q (Dh _ a)
   ·exact x.keep _ _ (h.mem q a) b
  ·exact x.sat.mem q (BG _ c)
 ·rw[BC,Fn,Td]
  refine⟨h.nd,v.2.1,λa m b y=> ?_⟩;obtain⟨p,i,rfl⟩:=List.mem_map.mp m;obtain⟨q,c,rfl⟩:=List.mem_map.mp y;exact CN (DV (E p i) (fresh q c))
 ·rcases List.mem_append.mp c with c|c
  ·obtain⟨r,w,l⟩:=t q c
   exact l▸h.apart r w a o m
  ·exact x.sat.apart q (BG _ c) a o m
 ·rcases List.mem_append.mp c with c|c
  ·exact .inl (t q c)
  ·exact .inr (fresh q c)
theorem Te: ∀(a:List Nat) (i:Nat),DK a i=true↔i∈a:=by
 intro a
 induction a with
 |nil=>intro i;simp[DK]
 |cons j c b=>
  intro i;unfold DK;cases e:Nat.beq j i with
  |true=>simp[Jd e]
  |false=>
   have:j≠i:=λq=>by subst q;rw[Nat.beq_refl]at e;cases e
   simp[b,Ne.symm this]
theorem vC: ∀(L:Ae) (k:Nat),DA L k []=L:=by
 intro L
 induction L with
 |nil=>intro k;rfl
 |cons p l a=>intro k;refine (?_:p::DA l (k+1) []=_);rw[a]
theorem vD(i:Nat)(a:List Nat): ∀(L:Ae) (k:Nat),i<k→DA L k (i::a)=DA L k a:=by
 intro L
 induction L with
 |nil=>intro k _;rfl
 |cons p l b=>
  intro k h;have e:DK (i::a) k=DK a k:=by
   unfold DK;have:Nat.beq i k=false:=by
    cases q:Nat.beq i k with
    |false=>rfl
    |true=>have:=Jd q;(first|lia|omega)
   rw[this];cases a <;> rfl
  show(match DK (i::a) k with|true=>_|false=>_)=_;rw[e,b (k+1) (by (first|lia|omega))];rfl
theorem vE: ∀(L:Ae) (i k:Nat) (a:List Nat) (p:Addr×Obj),DJ L i=some p→k+i ∉ a→(DA L k a).Perm (p::DA L k ((k+i)::a)):=by
 intro L
 induction L with
 |nil=>intro i k a p h;cases i <;> cases h
 |cons q l c=>
  intro i k a p h b;cases i with
  |zero=>
   cases h;have d:DK a k=false:=by
    rw[←Bool.not_eq_true,Te];exact b
   have g:DK ((k+0)::a) k=true:=by rw[Te];(first|((repeat(first|exact .head _|apply List.mem_cons_of_mem));done)|simp)
   refine (?_:List.Perm (match DK a k with|true=>DA l (k+1) a|false=>q::DA l (k+1) a) (q::(match DK ((k+0)::a) k with|true=>DA l (k+1) ((k+0)::a)|false=>q::DA l (k+1) ((k+0)::a))));rw[d,g];dsimp only;rw[show k+0=k from rfl,vD k a l (k+1) (by (first|lia|omega))]
  |succ i=>
   have j:DJ l i=some p:=h;have z:=c i (k+1) a p j (by rw[show k+1+i=k+(i+1) by (first|lia|omega)];exact b);rw[show k+1+i=k+(i+1) by (first|lia|omega)]at z;have e:DK ((k+(i+1))::a) k=DK a k:=by
    show(match Nat.beq (k+(i+1)) k with|true=>true|false=>DK a k)=_;have:Nat.beq (k+(i+1)) k=false:=by
     cases q:Nat.beq (k+(i+1)) k with
     |false=>rfl
     |true=>have:=Jd q;(first|lia|omega)
    rw[this]
   show(match DK a k with|true=>DA l (k+1) a|false=>q::DA l (k+1) a).Perm (p::(match DK ((k+(i+1))::a) k with|true=>DA l (k+1) ((k+(i+1))::a)|false=>q::DA l (k+1) ((k+(i+1))::a)));rw[e];cases DK a k with
   |true=>exact z
   |false=>exact(z.cons q).trans (List.Perm.swap _ _ _)
theorem vF{L:Ae}: ∀{a:List Nat} {b:Ae},pick L a=some b→BR a=true→L.Perm (b++DA L 0 a):=by
 intro a
 induction a with
 |nil=>intro b h _;cases h;rw[vC];exact AW _
 |cons i a c=>
  intro b h d;obtain⟨p,l,e,g,rfl⟩:=LH h;obtain⟨j,k⟩:=PV d;have z:=c g k;have y:=vE L i 0 a p e (by rw[Ga];exact j);rw[Ga]at y;exact z.trans ((y.append_left l).trans EF)
theorem An.permS{kt:KT}{s:Ab}{L b:Ae}(S:An kt s L)(h:L.Perm b):An kt s b:=
 ⟨λp a=>S.mem p (h.mem_iff.mpr a),(h.map _).nodup_iff.mp S.nd,S.old,λp a=>S.apart p (h.mem_iff.mpr a)⟩
theorem vG{kt:KT}{s v:Ab}{L g w:Ae}{j:List Nat}(h:An kt s L)(e:pick L j=some g)(z:BR j=true)(x:Ag kt s v g w):Ag kt s v L (w++DA L 0 j):=by
 have i:=vF e z;have S:=h.permS i;generalize DA L 0 j=F at i S;have A: ∀p∈F,p.1<s.heap.objs.size:=λp c=>Heap.lt_size (S.mem p (BG _ c));have m:=S.nd;rw[BC,Fn]at m;have y: ∀p∈g,∀q∈F,p.1≠q.1:=λp c q d=>m.2.2 _ (B6 c) _ (B6 d);refine⟨⟨λp c=> ?_,?_,x.sat.old,λp c a o k=> ?_⟩,λb o n B=>x.keep b o n λp c=>B p (i.mem_iff.mpr (Dh _ c)),λp c=> ?_,x.size,x.gens,x.os,x.drawn,x.toks⟩
 ·rcases List.mem_append.mp c with c|c
  ·exact x.sat.mem p c
  ·exact x.keep _ _ (S.mem p (BG _ c)) λq d=>y q d p c
 ·rw[BC,Fn]
  refine⟨x.sat.nd,m.2.1,λa k b n=> ?_⟩;obtain⟨p,c,rfl⟩:=List.mem_map.mp k;obtain⟨q,d,rfl⟩:=List.mem_map.mp n;rcases x.new p c with⟨r,t,u⟩|l
  ·rw[←u];exact y r t q d
  ·have:=A q d
   intro e;rw[e]at l;exact absurd this (Nat.not_lt.mpr l)
 ·rcases List.mem_append.mp c with c|c
  ·exact x.sat.apart p c a o k
  ·exact S.apart p (BG _ c) a o k
 ·rcases List.mem_append.mp c with c|c
  ·rcases x.new p c with⟨r,t,u⟩|l
   ·exact .inl ⟨r,i.mem_iff.mpr (Dh _ t),u⟩
   ·exact .inr l
  ·exact .inl ⟨p,i.mem_iff.mpr (BG _ c),rfl⟩
set_option maxHeartbeats 1000000
section
noncomputable def AY(a b:Nat):List Nat→Prop
 |[]=>a≤b
 |t::c=>a≤t∧AY (t+1) b c
theorem AY.le{c:Nat}: ∀{a:List Nat} {b:Nat},AY b c a→b≤c:=by
 intro a
 induction a with
 |nil=>intro b h;exact h
 |cons t a ih=>intro b h;have:=ih h.2;have:=h.1;(first|lia|omega)
theorem AY.app{b c:Nat}{ys:List Nat}: ∀{xs:List Nat} {a:Nat},AY a b xs→AY b c ys→AY a c (xs++ys):=by
 intro xs
 induction xs with
 |nil=>
  intro a h k;cases ys with
  |nil=>exact Ay h k
  |cons y ys=>exact⟨Ay h k.1,k.2⟩
 |cons t d ih=>intro a h k;exact⟨h.1,ih h.2 k⟩
noncomputable def LJ:List Nat→Au→Au
 |[],α=>α
 |x::a,α=>λi=>match i with
  |0=>x
  |i+1=>LJ a α i
theorem Tf(α:Au): ∀a:List Nat,Dj (LJ a α) a.length=a:=by
 intro a
 induction a with
 |nil=>rfl
 |cons x b ih=>exact Am (x:: ·) ih
theorem LK: ∀(α:Au) (n:Nat),(Dj α n).length=n:=by
 intro α n
 induction n generalizing α with
 |zero=>rfl
 |succ n ih=>exact Am (· +1) (ih _)
theorem Tg(α:Au): ∀a:List Nat,PM (LJ a α) a.length=α:=by
 intro a
 induction a with
 |nil=>rfl
 |cons x b ih=>exact ih
noncomputable def NW:List Obj→AU→AU
 |[],α=>α
 |x::a,α=>λi=>match i with
  |0=>x
  |i+1=>NW a α i
theorem vH(α:AU): ∀a:List Obj,Ju (NW a α) a.length=a:=by
 intro a
 induction a with
 |nil=>rfl
 |cons x b ih=>exact Am (x:: ·) ih
theorem Th: ∀(α:AU) (n:Nat),(Ju α n).length=n:=by
 intro α n
 induction n generalizing α with
 |zero=>rfl
 |succ n ih=>exact Am (· +1) (ih _)
theorem vI(α:AU): ∀a:List Obj,SP (NW a α) a.length=α:=by
 intro a
 induction a with
 |nil=>rfl
 |cons x b ih=>exact ih
theorem vJ{α:Type}{prog:Program}{w:Aa}{A:Al}{Q:α→Ab→Prop}{E:Value→Ab→Prop}{s:Ab}{a:Addr}{k:Option Obj→Sem α}{o:Obj}(c:s.heap.get? a=some o)(x:wpAny (model prog w) A (k (some o)) Q E s):wpAny (model prog w) A (.loadIfAlive a k) Q E s:=λd p b=>by
 refine (?_:Sem.wp _ _ (k (s.heap.get? a)) _ _ _ _);rw[c];exact x d p b
section
variable (prog:Program)(w:Aa)(kt:KT)
noncomputable def NX:Option (Nat×Code)→Ab→Prop
 |none,_=>True
 |some x,s=>s.gens[x.1]? =some (.fresh x.2)
noncomputable def Jv(kt:KT):Option (Nat×Code)→Ab→Ab→Ae→Ae→Prop
 |none,s,a,L,b=>Ag kt s a L b
 |some x,s,a,L,b=> ∃c,PS x.1 s.gens c∧Ag kt {s with gens:=c} a L b
noncomputable def vK(A:Al)(e:Option (Nat×Code))(c:Code)(L:Ae)(h i no:Nat)(r:List Nat→List Nat→List Obj→Result)(b d:List Nat→List Nat→List Obj→List Obj):Prop:=
 ∀s,An kt s L→NX e s→codeAny (model prog w) A c (λj g=>Ei λa t o=>a.length=h∧t.length=i∧o.length=no∧j=r a t o∧Jv kt e s g L (Bk L (b a t o)++BH a (d a t o))∧AY s.toks g.toks t) s
noncomputable def LL(e:Ak):Prop:= ∀A:Al,A.depth≤e.d→A.units≤e.u→A.handled=e.h→vK prog w kt A e.gn e.c e.pre e.na e.nt e.no (λa t o=>e.rx o (e.r a t)) e.outs e.news
noncomputable def DW(s₀:Ab)(L₀:Ae)(e:Ak):Prop:= ∀A:Al,A.depth≤e.d→A.units≤e.u→A.handled=e.h→ ∀s,(∃L,Ag kt s₀ s L₀ L∧ ∀p∈e.pre,p∈L)→An kt s e.pre→NX e.gn s→
 codeAny (model prog w) A e.c (λc b=>Ei λa t o=>a.length=e.na∧t.length=e.nt∧o.length=e.no∧c=e.rx o (e.r a t)∧Jv kt e.gn s b e.pre (Bk e.pre (e.outs a t o)++BH a (e.news a t o))∧AY s.toks b.toks t) s
theorem LL.frm{prog:Program}{w:Aa}{kt:KT}{e:Ak}(h:LL prog w kt e){s₀:Ab}{L₀:Ae}:DW prog w kt s₀ L₀ e:=λA a b c s _ S G=>h A a b c s S G
noncomputable def Jw(qt:Bool)(a:Jt)(s₀ s:Ab):Prop:=PL a=qt∧match a with
 | .free=>True
 | .wait g c=>s.gens[g]? =some (.fresh c)∧s₀.gens.size≤g
 | .quiet=>s.gens=s₀.gens
theorem Jw.le{qt:Bool}{a:Jt}{s₀ s b:Ab}(h:Jw qt a s₀ s)(d:PL a=false)(l:Dv s.gens b.gens):Jw qt a s₀ b:=by
 cases a with
 |free=>exact⟨h.1,trivial⟩
 |wait g c=>exact⟨h.1,l.at h.2.1,h.2.2⟩
 |quiet=>cases d
theorem Jw.q{qt:Bool}{b:Jt}{s₀ s:Ab}(h:Jw qt b s₀ s)(e:qt=true):s.gens=s₀.gens:=by
 obtain⟨a,d⟩:=h;cases b with
 |free=>rw[e]at a;cases a
 |wait g c=>rw[e]at a;cases a
 |quiet=>exact d
noncomputable def Hr(rooms:List (Code→Sem Unit)):Prop:= ∀i r,PO rooms i=some r→ ∀(c:Code) (A:Al) (s:Ab) (L:Ae) (Q:Unit→Ab→Prop) (E:Value→Ab→Prop),An kt s L→A.depth<1000→A.units<9900→Q () s→wpAny (model prog w) A (r c) Q E s
noncomputable def FI(its:List Value):Prop:= ∀j T,NT its j=some T→ ∀(A:Al) (e:Expr) (n:Nat) (b:Value) (c:Env) (R:Result→Ab→Prop) (s:Ab) (a:Addr) (o:Obj),s.heap.get? a=some o→o.cls=T→Ix e n=true→
 codeAny (model prog w) A (.compLoop e n (.ref a) b c) R s→codeAny (model prog w) A (.compStart e n (.ref a) b c) R s
noncomputable def Da(A:Al):List Kf→Al
 |[]=>A
 |f::a=>((Da A a).under f.c).mark f.hd
noncomputable def Hs(A:Al)(R:Result→Ab→Prop):List Kf→Result→Ab→Prop
 |[]=>R
 |f::a=>λr s=>wpAny (model prog w) ((Da A a).under f.c) (f.k r) (postC prog w (Da A a) (Hs A R a)) (postE (Hs A R a)) s
noncomputable def Dw(A:Al)(R:Result→Ab→Prop)(c:Code)(a:List Kf)(t:Sem Fin)(s:Ab):Prop:=
 wpAny (model prog w) ((Da A a).under c) t (postC prog w (Da A a) (Hs prog w A R a)) (postE (Hs prog w A R a)) s
noncomputable def Bd(A:Al):List Kf→Nat→Nat→Prop
 |[],d,u=>A.depth≤d∧A.units≤u
 |f::a,d,u=>(Da A (f::a)).depth≤d∧(Da A (f::a)).units≤u∧Bd A a f.d f.u
theorem Bd.here{A:Al}: ∀{a:List Kf} {d u:Nat},Bd A a d u→(Da A a).depth≤d∧(Da A a).units≤u
 |[],_,_,h=>h
 |_::_,_,_,h=>⟨h.1,h.2.1⟩
theorem Ti{A:Al}(b:A.handled=none): ∀(a:List Kf),(Da A a).handled=Iw a:=by
 intro a
 induction a with
 |nil=>exact b
 |cons f a ih=>
  refine (?_:f.hd.or ((Da A a).under f.c).handled=_);have:((Da A a).under f.c).handled=(Da A a).handled:=rfl;rw[this,ih];have e:Iw (f::a)=(match f.hd with|some v=>some v|none=>Iw a):=rfl;rw[e];cases f.hd <;> rfl
noncomputable def Tj(A:Al)(R:Result→Ab→Prop)(e:Du)(s:Ab):Prop:=match e with
 | .done f=>R (.ok f) s
 | .err x=>R (.error x) s
 | .again c=>codeAny (model prog w) A c R s
 | .bad _=>False
noncomputable def BF(qt:Bool)(A:Al)(R:Result→Ab→Prop)(s₀:Ab)(L₀:Ae)(o:Bx):Prop:=
 o.ask=o.say∧ ∀a,Ag kt s₀ a L₀ o.L→AY s₀.toks a.toks o.ts→(qt=true→a.gens=s₀.gens)→Tj prog w A R o.e a
theorem vL{β:Type}(a:Code):(LA λe n d b c=>a= .compStart e n d b c)∨ ∀(F:Expr→Nat→Value→Value→Env→β) (K:Code→β),(match a with| .compStart e n d b c=>F e n d b c|a=>K a)=K a:=by
 cases a <;> first|exact .inl ⟨_,_,_,_,_,rfl⟩|exact .inr λ_ _=>rfl
section
variable {prog w kt}{A:Al}{R:Result→Ab→Prop}{s₀:Ab}{L₀:Ae}{qt:Bool}
variable (prog w kt A s₀ L₀ qt)in
structure Ch(st:St)(s:Ab):Prop where
 B:Bd A st.fs st.d st.u
 X: ∀q∈st.E,∀as ts gh hi,AY s₀.toks hi ts→DW prog w kt s₀ L₀ (q.2 as ts gh)
 Y: ∀q∈st.W,∀as ts gh,(q.2 as ts gh).1=(q.2 as ts gh).2
 D:Ag kt s₀ s L₀ st.L
 I:Jw qt st.gn s₀ s
 T:AY s₀.toks s.toks st.ts
theorem Ht{n:Nat}{st a:St}{s:Ab}(F:Ch prog w kt A s₀ L₀ qt st s){P:Prop}(G:BF prog w kt qt A R s₀ L₀ (bad n a))(e:a.L=st.L:=by rfl)(b:a.ts=st.ts:=by rfl):P:=(G.2 s (by refine (?_:Ag kt s₀ s L₀ a.L);rw[e];exact F.D) (by refine (?_:AY _ _ a.ts);rw[b];exact F.T) F.I.q).elim
theorem Tk{x y:EJ}{o:Bx}(G:BF prog w kt qt A R s₀ L₀ (chk x y o)):x=y∧BF prog w kt qt A R s₀ L₀ o:=⟨(Kc G.1).1,(Kc G.1).2,G.2⟩
theorem Db{x y:EJ}{o:Au→Au→AU→Bx}{P:Prop}(G: ∀α τ ω,BF prog w kt qt A R s₀ L₀ (chk x y (o α τ ω)))(h:x=y→(∀α τ ω,BF prog w kt qt A R s₀ L₀ (o α τ ω))→P):P:=h (Tk (G id id λ_=>default)).1 λα τ ω=>(Tk (G α τ ω)).2
theorem PW{n:Nat}{st:St}{s:Ab}(F:Ch prog w kt A s₀ L₀ qt st s){b:Bool}{o:Bx}(G:BF prog w kt qt A R s₀ L₀ (Gc n st b o)):b=true∧BF prog w kt qt A R s₀ L₀ o:=by
 cases b with
 |false=>exact Ht F G
 |true=>exact⟨rfl,G⟩
theorem Hu{n:Nat}{st:St}{s:Ab}(F:Ch prog w kt A s₀ L₀ qt st s){b:Bool}{o:Au→Au→AU→Bx}{P:Prop}(G: ∀α τ ω,BF prog w kt qt A R s₀ L₀ (Gc n st b (o α τ ω)))(h:b=true→(∀α τ ω,BF prog w kt qt A R s₀ L₀ (o α τ ω))→P):P:=h (PW F (G id id λ_=>default)).1 λα τ ω=>(PW F (G α τ ω)).2
theorem Jx{a:Type _}{n:Nat}{st:St}{s:Ab}(F:Ch prog w kt A s₀ L₀ qt st s){x:Option a}{o:Au→Au→AU→a→Bx}{P:Prop}(G: ∀α τ ω,BF prog w kt qt A R s₀ L₀ (Iy n st x (o α τ ω)))(h: ∀v,x=some v→(∀α τ ω,BF prog w kt qt A R s₀ L₀ (o α τ ω v))→P):P:=by
 cases x with
 |none=>exact Ht F (G id id λ_=>default)
 |some v=>exact h v rfl G
theorem IA{n:Nat}{st:St}{s:Ab}(F:Ch prog w kt A s₀ L₀ qt st s){l:List Nat}{o:Au→Au→AU→Nat→List Nat→Bx}{P:Prop}(G: ∀α τ ω,BF prog w kt qt A R s₀ L₀ (Hq n st l (o α τ ω)))(h: ∀i H,(∀α τ ω,BF prog w kt qt A R s₀ L₀ (o α τ ω i H))→P):P:=by
 cases l with
 |nil=>exact Ht F (G id id λ_=>default)
 |cons i H=>exact h i H G
theorem Ch.cur{st:St}{s:Ab}(F:Ch prog w kt A s₀ L₀ qt st s)(a:Sem Fin)(H:List Nat):Ch prog w kt A s₀ L₀ qt ⟨a,st.c,st.fs,st.L,st.as,st.ts,st.gh,H,st.E,st.W,st.ag,st.d,st.u,st.gn⟩ s:=⟨F.B,F.X,F.Y,F.D,F.I,F.T⟩
theorem Tl{c a:Code}(h:EJ.code c= .code a):c=a:=by injection h
theorem Tm{c a:Ae}(h:EJ.led c= .led a):c=a:=by injection h
theorem NY{c a:Option Value}(h:EJ.val c= .val a):c=a:=by injection h
theorem PX{c a:Nat}(h:EJ.addr c= .addr a):c=a:=by injection h
theorem Tn{c a:Sem Fin}(h:EJ.tree c= .tree a):c=a:=by injection h
variable {den:Code→Sem Fin}{rooms:List (Code→Sem Unit)}{its:List Value}{S1 S2:Setting}{ih:Au→Au→AU→St→Bx}
section
variable (hden:den=denote table)
include hden
theorem PY{c:Code}{fs:List Kf}{s:Ab}(z:Dw prog w A R c fs (den c) s):codeAny (model prog w) (Da A fs) c (Hs prog w A R fs) s:=by
 subst hden;exact y_code _ _ _ _ _ _ (wpOwn_of_wpAny z)
end
variable (IH: ∀(st:St) (s:Ab),(∀α τ ω,BF prog w kt qt A R s₀ L₀ (ih α τ ω st))→Ch prog w kt A s₀ L₀ qt st s→Dw prog w A R st.c st.fs st.cur s)
include IH
theorem LM{r:Result}{st:St}{c:Code}{g:Kf}{a:List Kf}{s:Ab}(B:Bd A (g::a) st.d st.u){W:List Wd}(Y: ∀q∈W,∀b h i,(q.2 b h i).1=(q.2 b h i).2)(F:Ch prog w kt A s₀ L₀ qt st s)
  (G: ∀α τ ω,BF prog w kt qt A R s₀ L₀ (ih α τ ω {st with cur:=g.k r,c:=g.c,fs:=a,W:=W,d:=g.d,u:=g.u})):Dw prog w A R c (g::a) (leafOf r) s:=by
 have z:=IH _ s G ⟨B.2.2,F.X,Y,F.D,F.I,F.T⟩;cases r with
 |ok f=>exact x_pure (y_done _ _ _ _ _ _ z)
 |error e=>exact x_raise (y_err _ _ _ z)
theorem vM{st:St}{c:Code}{v:Value}{g:Kf}{h:List Kf}{s:Ab}(B:Bd A (g::h) st.d st.u)(F:Ch prog w kt A s₀ L₀ qt st s): ∀{W:List Wd} (_: ∀q∈W,∀a b d,(q.2 a b d).1=(q.2 a b d).2)
  (_: ∀α τ ω,BF prog w kt qt A R s₀ L₀ (SS ih α τ ω st v g h W)),Dw prog w A R c (g::h) (.pure (.done (.ret v))) s:=by
 intro W Y G;cases W with
 |nil=>exact LM IH (r:=.ok (.ret v)) B Y F G
 |cons q W=>
  obtain⟨m,q⟩:=q;have i: ∀q∈W,∀a b d,(q.2 a b d).1=(q.2 a b d).2:=λr j=>Y r (BB _ j);cases m with
  |succ m=>exact LM IH (r:=.ok (.ret v)) B (W:=(m,q)::W) (List.forall_mem_cons.mpr ⟨Y (m+1,q) Bj,i⟩) F G
  |zero=>
   refine Db G λe G=> ?_;rw[(GG (NY e)).trans (Y (0,q) Bj st.as st.ts st.gh)];exact LM IH (r:=.ok (.ret (q st.as st.ts st.gh).2)) B i F G
theorem vN{st:St}{s:Ab}(F:Ch prog w kt A s₀ L₀ qt st s){f:Flow}{c:Code}: ∀{a:List Kf} (_:Bd A a st.d st.u) (_: ∀α τ ω,BF prog w kt qt A R s₀ L₀ (ST ih α τ ω st f a)),Dw prog w A R c a (.pure (.done f)) s:=by
 intro a B G;cases a with
 |nil=>exact x_pure (y_done _ _ _ _ _ _ ((G id id λ_=>default).2 _ F.D F.T F.I.q))
 |cons g a=>
  cases f with
  |ret v=>exact vM IH B F F.Y G
  |_=>exact LM IH (r:=.ok _) B F.Y F G
theorem vO{st:St}{s:Ab}(F:Ch prog w kt A s₀ L₀ qt st s){e:Value}{c:Code}{a:List Kf}(B:Bd A a st.d st.u)(G: ∀α τ ω,BF prog w kt qt A R s₀ L₀ (SV ih α τ ω st e a)):Dw prog w A R c a (.raise e) s:=by
 cases a with
 |nil=>exact x_raise (y_err _ _ _ ((G id id λ_=>default).2 _ F.D F.T F.I.q))
 |cons g a=>exact LM IH (r:=.error e) B F.Y F G
theorem vP{st:St}{s:Ab}(F:Ch prog w kt A s₀ L₀ qt st s){S:Setting}(hS:S=S1∨S=S2)(e:S=⟨prog,w.2⟩){k:Setting→Sem Fin}{i:Nat}{H:List Nat}(G: ∀α τ ω,BF prog w kt qt A R s₀ L₀ (SW S S1 S2 ih α τ ω st k i H)):Dw prog w A R st.c st.fs (.ask k) s:=by
 subst e;cases i with
 |zero=>exact x_skim 1 (IH _ s G (F.cur _ H):)
 |succ i=>
  refine Db G λa G=>x_skim 1 ?_;have z:=(IH _ s G (F.cur _ H):)
  rcases hS with e|e
  ·rw[←e]at z;exact z
  ·have a:=Tn a
   rw[←e]at a;exact Eq.mp (Am (λt=>Dw prog w A R st.c st.fs t s) a) z
theorem To{st:St}{s:Ab}(F:Ch prog w kt A s₀ L₀ qt st s){a:Addr}{k:Obj→Sem Fin}{i:Nat}{H:List Nat}(G: ∀α τ ω,BF prog w kt qt A R s₀ L₀ (PP kt ih α τ ω st a k i H)): ∃o,s.heap.get? a=some o∧Dw prog w A R st.c st.fs (k o) s:=by
 cases i with
 |zero=>exact Jx F G λo e G=>⟨o,F.D.sat.old a o e,(IH _ s G (F.cur _ H):)⟩
 |succ i=>exact Jx F G λp e G=>Db G λb G=>⟨p.2,PX b▸F.D.sat.mem p (at?_mem _ i p e),(IH _ s G (F.cur _ H):)⟩
theorem vQ{st:St}{s:Ab}(F:Ch prog w kt A s₀ L₀ qt st s){a:Addr}{f:Obj→Obj}{k:Unit→Sem Fin}{l:Option Value}{i:Nat}{H:List Nat}(G: ∀α τ ω,BF prog w kt qt A R s₀ L₀ (SX ih α τ ω st a f (k ()) i H)):Dw prog w A R st.c st.fs (.update a l f k) s:=by
 cases i with
 |zero=>exact Ht F (G id id λ_=>default)
 |succ i=>exact Jx F G λp e G=>Hu F G λb G=>Db G λc G=>PX c▸Af (m:=updatePart p.1 l f) (f:=k) (wpAny_updatePart (F.D.sat.mem p (at?_mem _ i p e)) (IH _ _ G ⟨F.B,F.X,F.Y,F.D.trans (F.D.sat.set e ((Lq _).mp b)),F.I,F.T⟩:))
theorem vR{st:St}{s:Ab}(F:Ch prog w kt A s₀ L₀ qt st s){a:Code}{k:Nat→Sem Fin}(G: ∀α τ ω,BF prog w kt qt A R s₀ L₀ (SY ih α τ ω st a k st.gn)):Dw prog w A R st.c st.fs (.newGen a k) s:=by
 cases h:st.gn with
 |wait g c=>rw[h]at G;exact Ht F (G id id λ_=>default)
 |quiet=>rw[h]at G;exact Ht F (G id id λ_=>default)
 |free=>
  rw[h]at G;have I:=F.I;rw[h]at I;exact Af (m:=newGen a) (f:=k) (wpAny_newGen (IH {st with cur:=k s.gens.size,as:=st.as++[s.gens.size],gn:=.wait s.gens.size a} {s with gens:=s.gens.push (.fresh a)} (λα τ ω=>G (λi=>match i with|0=>s.gens.size|i+1=>α i) τ ω) ⟨F.B,F.X,F.Y,F.D.regen (F.D.gens.trans (Dv.push s.gens (show(GenState.fresh a).bare=true from rfl))),⟨I.1,by (first|((repeat(first|exact .head _|apply List.mem_cons_of_mem));done)|simp),F.D.gens.size⟩,F.T⟩))
section
variable (hden:den=denote table)
include hden
theorem vS{st:St}{s:Ab}(F:Ch prog w kt A s₀ L₀ qt st s){c b:Code}(q:b.quiet=true){a:List Kf}{d:Nat}(B:Bd A a st.d st.u)(G: ∀α τ ω,BF prog w kt qt A R s₀ L₀ (SU den ih α τ ω st b a d)):Dw prog w A R c a (.pure (.again b)) s:=by
 refine x_pure (y_again _ _ _ _ _ _ q ?_);cases a with
 |nil=>
  cases d with
  |zero=>exact(G id id λ_=>default).2 _ F.D F.T F.I.q
  |succ d=>exact PY hden (IH _ s G ⟨B,F.X,F.Y,F.D,F.I,F.T⟩:)
 |cons g a=>exact PY hden (IH _ s G ⟨B,F.X,F.Y,F.D,F.I,F.T⟩:)
theorem PZ{st:St}{s:Ab}(F:Ch prog w kt A s₀ L₀ qt st s){b:Option Value}{k:Result→Sem Fin}{a:Code}{e:List Nat}{E:List (Nat×(List Nat→List Nat→List Obj→Ak))}(g: ∀q∈E,∀h c i j,AY s₀.toks j c→DW prog w kt s₀ L₀ (q.2 h c i))
  (G: ∀α τ ω,BF prog w kt qt A R s₀ L₀ (NU den ih α τ ω st b k a e E)):codeAny (model prog w) (((Da A st.fs).under st.c).mark b) a (Hs prog w A R (⟨st.c,b,k,st.d,st.u⟩::st.fs)) s:=by
 have d:=F.B.here;exact PY (fs:=⟨st.c,b,k,st.d,st.u⟩::st.fs) hden (IH _ s G ⟨⟨Cz d.1 _,Cz d.2 _,F.B⟩,g,F.Y,F.D,F.I,F.T⟩:)
theorem vT(hits:FI prog w its){st:St}{s:Ab}(F:Ch prog w kt A s₀ L₀ qt st s){c:Option Value}{k:Result→Sem Fin}{E:List (Nat×(List Nat→List Nat→List Obj→Ak))}(d: ∀q∈E,∀l g m o,AY s₀.toks o g→DW prog w kt s₀ L₀ (q.2 l g m)){e:Expr}{n:Nat}{h a:Value}{b:Env}{i:Nat}{H:List Nat}
  (G: ∀α τ ω,BF prog w kt qt A R s₀ L₀ (SZ den its ih α τ ω st c k E e n h a b i H)):codeAny (model prog w) (((Da A st.fs).under st.c).mark c) (.compStart e n h a b) (Hs prog w A R (⟨st.c,c,k,st.d,st.u⟩::st.fs)) s:=by
 cases i with
 |zero=>exact PZ IH hden F d G
 |succ i=>
  refine IA F G λj H G=>Jx F G λp r G=>Jx F G λt u G=>Hu F G λv G=>Db G λy G=>Db G λz G=> ?_;rw[GG (NY y)]at G⊢;exact hits j t u _ e n a b _ _ p.1 p.2 (F.D.sat.mem p (at?_mem _ i p r)) (GG (NY z)) v (PZ IH hden F d G)
theorem Tp(hits:FI prog w its){st:St}{s:Ab}(F:Ch prog w kt A s₀ L₀ qt st s){a:Option Value}(c:a≠some byPass){k:Result→Sem Fin}{g:Bool}{l:List Value}{b:Code}{E:List (Nat×(List Nat→List Nat→List Obj→Ak))}(d: ∀q∈E,∀m j o r,AY s₀.toks r j→DW prog w kt s₀ L₀ (q.2 m j o))
  (G: ∀α τ ω,BF prog w kt qt A R s₀ L₀ (PQ den its ih α τ ω st a k b E)):Dw prog w A R st.c st.fs (.call b a g l k) s:=by
 refine x_call ?_ c;rcases vL (β:=Bx) b with⟨e,n,y,u,v,h⟩|t
 ·rw[h]at G⊢;exact IA F G λi H G=>vT IH hden hits F d G
 ·exact PZ IH hden F d λα τ ω=>Eq.mp (Am (BF prog w kt qt A R s₀ L₀) (t _ _)) (G α τ ω)
end
omit IH in
theorem vU{st:St}{s:Ab}(F:Ch prog w kt A s₀ L₀ qt st s){c:Option Value}{k:Result→Sem Fin}{d:Code}{e:Ak}{E:List (Nat×(List Nat→List Nat→List Obj→Ak))}{b:Ae}(G: ∀α τ ω,BF prog w kt qt A R s₀ L₀ (PR ih α τ ω st c k d e E b)): ∀(a t:List Nat) (o:List Obj),a.length=e.na→t.length=e.nt→o.length=e.no→Iz st e a t o=true∧ ∀α τ ω,BF prog w kt qt A R s₀ L₀ (LG ih α τ ω st c k d e E b a t o e.gn st.gn):=by
 intro a t o h i j;have z: ∀α τ ω,Iz st e a t o=true∧BF prog w kt qt A R s₀ L₀ (LG ih α τ ω st c k d e E b a t o e.gn st.gn):=λα τ ω=>by
  have g:=PW F (G (LJ a α) (LJ t τ) (NW o ω));rw[←h,←i,←j,Tf,Tf,vH,Tg,Tg,vI]at g;exact g
 exact⟨(z id id λ_=>default).1,λα τ ω=>(z α τ ω).2⟩
omit IH in
theorem P0{st:St}{e:Ak}{a t:List Nat}{o:List Obj}(h:Iz st e a t o=true):(st.d+st.c.weight≤e.d∧st.u+st.c.cUnits≤e.u)∧BR e.idx=true∧SQ e.gn (e.outs a t o).length e.idx.length=true:=by
 simp only[Iz,Fo]at h;exact⟨⟨Ef h.1.1.1.1,Ef h.1.1.1.2⟩,h.1.1.2,h.1.2⟩
omit IH in
theorem Tq(m:A.handled=none){st:St}{s:Ab}(F:Ch prog w kt A s₀ L₀ qt st s){c:Option Value}{i:Code}{e:Ak}(ok:DW prog w kt s₀ L₀ e){b:Ae}(d:pick st.L e.idx=some b){a t:List Nat}{o:List Obj}(n:Iz st e a t o=true)(r:EJ.code i= .code e.c)(j:EJ.led b= .led e.pre)(u:EJ.val (PN c (Iw st.fs))= .val e.h)(v:NX e.gn s):
  codeAny (model prog w) (((Da A st.fs).under st.c).mark c) i (λy k=>Ei λa t o=>a.length=e.na∧t.length=e.nt∧o.length=e.no∧y=e.rx o (e.r a t)∧Jv kt e.gn s k b (Bk b (e.outs a t o)++BH a (e.news a t o))∧AY s.toks k.toks t) s:=by
 obtain⟨⟨z,B⟩,g,_⟩:=P0 n;have l:=F.B.here;rw[Tl r,Tm j];rw[Tm j]at d;refine ok (((Da A st.fs).under st.c).mark c) (Ay (Cz l.1 _) z) (Ay (Cz l.2 _) B) ?_ s ⟨st.L,F.D,λp h=>(LI d).1 p h⟩ (F.D.sat.sub d g) v;refine (?_:c.or ((Da A st.fs).under st.c).handled=_);have e:((Da A st.fs).under st.c).handled=(Da A st.fs).handled:=rfl;rw[e,Ti m st.fs,←NY u];cases c <;> rfl
theorem vV(C:A.handled=none){st:St}{s:Ab}(F:Ch prog w kt A s₀ L₀ qt st s){i:Option Value}(m:i≠some byPass){k:Result→Sem Fin}{g:Bool}{l:List Value}{n:Code}{e:Ak}{E:List (Nat×(List Nat→List Nat→List Obj→Ak))}(D: ∀q∈E,∀G r H I,AY s₀.toks I r→DW prog w kt s₀ L₀ (q.2 G r H))(ok:DW prog w kt s₀ L₀ e){d:Ae}(u:pick st.L e.idx=some d)(v:e.gn=none)
  (step: ∀(a t:List Nat) (o:List Obj),a.length=e.na→t.length=e.nt→o.length=e.no→Iz st e a t o=true∧ ∀α τ ω,BF prog w kt qt A R s₀ L₀ (LG ih α τ ω st i k n e E d a t o none st.gn)):Dw prog w A R st.c st.fs (.call n i g l k) s:=by
 obtain⟨J,g⟩:=step (Dj id e.na) (Dj id e.nt) (Ju (λ_=>default) e.no) (LK _ _) (LK _ _) (Th _ _);refine Hu F g λy g=>Db g λK g=>Db g λL g=>Db g λM _=>x_call (B4 (Tq C F ok u J K L M (by rw[v];trivial)) λU N O=> ?_) m;obtain⟨a,t,o,P,Q,B,S,h,T⟩:=O;obtain⟨c,z⟩:=step a t o P Q B;obtain⟨_,j,c⟩:=P0 c;rw[v]at h c;have b:=vB F.D.sat u j (Jd c) h;rw[S];exact Hu F z λ_ z=>Db z λ_ z=>Db z λ_ z=>Db z λ_ z=>(IH _ N z ⟨F.B,D,F.Y,F.D.trans b,F.I.le ((Lq _).mp y) b.gens,F.T.app T⟩:)
theorem vW(C:A.handled=none){st:St}{s:Ab}(F:Ch prog w kt A s₀ L₀ qt st s){d:Option Value}(i:d≠some byPass){k:Result→Sem Fin}{g:Bool}{l:List Value}{j:Code}{e:Ak}{E:List (Nat×(List Nat→List Nat→List Obj→Ak))}(D: ∀q∈E,∀G m H J,AY s₀.toks J m→DW prog w kt s₀ L₀ (q.2 G m H))(ok:DW prog w kt s₀ L₀ e){c:Ae}(n:pick st.L e.idx=some c){x:Nat×Code}(r:e.gn=some x)
  (step: ∀(a t:List Nat) (o:List Obj),a.length=e.na→t.length=e.nt→o.length=e.no→Iz st e a t o=true∧ ∀α τ ω,BF prog w kt qt A R s₀ L₀ (LG ih α τ ω st d k j e E c a t o (some x) st.gn)):Dw prog w A R st.c st.fs (.call j d g l k) s:=by
 obtain⟨u,g⟩:=step (Dj id e.na) (Dj id e.nt) (Ju (λ_=>default) e.no) (LK _ _) (LK _ _) (Th _ _);have I:=F.I;revert step g I;cases st.gn with
 |free=>exact λ_ g _=>Ht F (g id id λ_=>default)
 |quiet=>exact λ_ g _=>Ht F (g id id λ_=>default)
 |wait X Y=>
  refine λstep g I=>Db g λK g=>Db g λL g=>Db g λM g=>Db g λN g=>Db g λO _=> ?_;rw[PX K,Tl L]at I;refine x_call (B4 (Tq C F ok n u M N O (by rw[r];exact I.2.1)) λZ P Q=> ?_) i;obtain⟨a,t,o,S,T,v,U,b,V⟩:=Q;rw[r]at b;obtain⟨W,y,b⟩:=b;have B:=F.D.regen (F.D.gens.off I.2.2 y);have h:=vG B.sat n (P0 u).2.1 b;rw[U];exact Db (step a t o S T v).2 λ_ z=>Db z λ_ z=>Db z λ_ z=>Db z λ_ z=>Db z λ_ z=>(IH _ P z ⟨F.B,D,F.Y,B.trans h,⟨I.1,trivial⟩,F.T.app V⟩:)
theorem vX(h:A.handled=none){st:St}{s:Ab}(F:Ch prog w kt A s₀ L₀ qt st s){d:Option Value}(b:d≠some byPass){k:Result→Sem Fin}{g:Bool}{l:List Value}{i:Code}{e:Ak}{E:List (Nat×(List Nat→List Nat→List Obj→Ak))}(j: ∀q∈E,∀o m r t,AY s₀.toks t m→DW prog w kt s₀ L₀ (q.2 o m r))(ok:DW prog w kt s₀ L₀ e){c:Ae}(n:pick st.L e.idx=some c)(G: ∀α τ ω,BF prog w kt qt A R s₀ L₀ (PR ih α τ ω st d k i e E c)):Dw prog w A R st.c st.fs (.call i d g l k) s:=by
 have step:=vU F G;cases a:e.gn with
 |none=>rw[a]at step;exact vV IH h F b j ok n a step
 |some x=>rw[a]at step;exact vW IH h F b j ok n a step
theorem vZ(hden:den=denote table)(hits:FI prog w its)(j:A.handled=none){st:St}{s:Ab}(F:Ch prog w kt A s₀ L₀ qt st s){b:Option Value}(a:b≠some byPass){k:Result→Sem Fin}{g:Bool}{l:List Value}{c:Code}{E:List (Nat×(List Nat→List Nat→List Obj→Ak))}(d: ∀q∈E,∀n e o r,AY s₀.toks r e→DW prog w kt s₀ L₀ (q.2 n e o))
  (G: ∀α τ ω,BF prog w kt qt A R s₀ L₀ (S9 den its ih α τ ω st b k c E)):Dw prog w A R st.c st.fs (.call c b g l k) s:=by
 cases E with
 |nil=>exact Tp IH hden hits F a d G
 |cons q E=>
  obtain⟨h,i⟩:=List.forall_mem_cons.mp d;obtain⟨m,q⟩:=q;cases m with
  |succ m=>exact Tp IH hden hits F a (E:=(m,q)::E) (List.forall_mem_cons.mpr ⟨h,i⟩) G
  |zero=>exact Jx F G λu t G=>vX IH j F a i (h _ _ _ _ F.T) t G
theorem xA(a:Hr prog w kt rooms){st:St}{s:Ab}(F:Ch prog w kt A s₀ L₀ qt st s){k:List (Code×Pos)→Sem Fin}{i:Nat}{H:List Nat}(G: ∀α τ ω,BF prog w kt qt A R s₀ L₀ (Ta rooms kt ih α τ ω st k i H)):Dw prog w A R st.c st.fs (.stack k) s:=by
 refine IA F G λm H G=>Jx F G λr e G=>Hu F G λb G=>Db G λd G=> ?_;obtain⟨g,h⟩:=Bool.and_eq_true_iff.mp b;have c:=F.B.here;rw[Tn d,←PySem.W.R.bindR_eq];exact Af (m:=r st.c) (a i r e st.c _ _ st.L _ _ F.D.sat (CM (Cz c.1 _) (Ef g)) (CM (Cz c.2 _) (Ef h)) (IH _ s G (F.cur _ H):))
theorem xB(hden:den=denote table)(c:Hr prog w kt rooms)(hits:FI prog w its)(hS:(⟨prog,w.2⟩:Setting)=S1∨(⟨prog,w.2⟩:Setting)=S2)(h:A.handled=none){st:St}{s:Ab}(F:Ch prog w kt A s₀ L₀ qt st s){b:Sem Fin}
  (G: ∀α τ ω,BF prog w kt qt A R s₀ L₀ (Tb den rooms its ⟨prog,w.2⟩ S1 S2 kt ih α τ ω st b)):Dw prog w A R st.c st.fs b s:=by
 cases b with
 |pure fin=>
  cases fin with
  |done f=>exact vN IH F F.B G
  |again j=>exact Hu F G λq G=>vS IH hden F q F.B G
 |raise e=>exact vO IH F F.B G
 |rule n k=>exact x_skim 1 (IH _ s G (F.cur _ _):)
 |«at» q k=>exact x_skim 1 (IH _ s G (F.cur _ _):)
 |point l k=>exact x_skim 1 (IH _ s G (F.cur _ _):)
 |ask k=>exact IA F G λi H G=>vP IH F hS rfl G
 |load a q k=>
  refine IA F G λi H G=> ?_;obtain⟨o,e,z⟩:=To IH F G;exact x_load e z
 |loadIfAlive a k=>
  refine IA F G λi H G=> ?_;obtain⟨o,e,z⟩:=To IH F G;exact vJ e z
 |update a q f k=>exact IA F G λi H G=>vQ IH F G
 |alloc o k=>exact Hu F G λd G=>Af (m:=alloc o) (f:=k) (wpAny_alloc (IH {st with cur:=k s.heap.objs.size,L:=st.L++[(s.heap.objs.size,o)],as:=st.as++[s.heap.objs.size]} _ (λα τ ω=>G (λi=>match i with|0=>s.heap.objs.size|i+1=>α i) τ ω) ⟨F.B,F.X,F.Y,F.D.trans (F.D.sat.push ((Lq _).mp d)),F.I,F.T⟩))
 |newGen j k=>exact vR IH F G
 |fresh k=>exact x_fresh (IH {st with cur:=k s.toks,ts:=st.ts++[s.toks]} {s with toks:=s.toks+1} (λα τ ω=>G α (λi=>match i with|0=>s.toks|i+1=>τ i) ω) ⟨F.B,F.X,F.Y,F.D.trans F.D.sat.tok,F.I,F.T.app (show AY s.toks (s.toks+1) [s.toks]from⟨A7 _,A7 _⟩)⟩)
 |handled r k=>
  refine Hu F G λd G=> ?_;rw[(Lq _).mp d];refine x_handled ?_;have e:((Da A st.fs).under st.c).handled=(Da A st.fs).handled:=rfl;rw[e,Ti h st.fs];exact(IH _ s G (F.cur _ _):)
 |call j t g l k=>
  refine Hu F G λok G=>vZ IH hden hits h F (λe=> ?_) F.X G;rw[e]at ok;simp[SR]at ok
 |stack k=>exact IA F G λi H G=>xA IH c F G
 |_=>exact Ht F (G id id λ_=>default)
theorem xC(hden:den=denote table)(a:Hr prog w kt rooms)(hits:FI prog w its)(hS:(⟨prog,w.2⟩:Setting)=S1∨(⟨prog,w.2⟩:Setting)=S2)(b:A.handled=none)(st:St)(s:Ab)(F:Ch prog w kt A s₀ L₀ qt st s)
  (G: ∀α τ ω,BF prog w kt qt A R s₀ L₀ (Tc den rooms its ⟨prog,w.2⟩ S1 S2 kt ih α τ ω st)):Dw prog w A R st.c st.fs st.cur s:=xB IH hden a hits hS b F G
end
theorem NZ{prog:Program}{w:Aa}{kt:KT}{den:Code→Sem Fin}{rooms:List (Code→Sem Unit)}{its:List Value}{S1 S2:Setting}(hden:den=denote table)(b:Hr prog w kt rooms)(hits:FI prog w its)(hS:(⟨prog,w.2⟩:Setting)=S1∨(⟨prog,w.2⟩:Setting)=S2){A:Al}(e:A.handled=none){R:Result→Ab→Prop}{s₀:Ab}{L₀:Ae}{qt:Bool}:
  ∀(n:Nat) (st:St) (s:Ab),Bd A st.fs st.d st.u→(∀q∈st.E,∀c a d g,AY s₀.toks g a→DW prog w kt s₀ L₀ (q.2 c a d))→(∀q∈st.W,∀c a d,(q.2 c a d).1=(q.2 c a d).2)→Ag kt s₀ s L₀ st.L→Jw qt st.gn s₀ s→AY s₀.toks s.toks st.ts→
  (∀α τ ω,BF prog w kt qt A R s₀ L₀ (Ej den rooms its ⟨prog,w.2⟩ S1 S2 kt n α τ ω st))→Dw prog w A R st.c st.fs st.cur s:=by
 intro n
 induction n with
 |zero=>intro st s _ _ _ D I T G;exact((G id id λ_=>default).2 s D T I.q).elim
 |succ n ih=>intro st s B X Y D I T G;exact xC (λst s G F=>ih st s F.B F.X F.Y F.D F.I F.T G) hden b hits hS e st s ⟨B,X,Y,D,I,T⟩ G
theorem N0{prog:Program}{w:Aa}{kt:KT}{den:Code→Sem Fin}{rooms:List (Code→Sem Unit)}{its:List Value}{S1 S2:Setting}(hden:den=denote table)(b:Hr prog w kt rooms)(hits:FI prog w its)(hS:(⟨prog,w.2⟩:Setting)=S1∨(⟨prog,w.2⟩:Setting)=S2){A:Al}{R:Result→Ab→Prop}{s:Ab}{L:Ae}{c:Code}{H:List Nat}
  {E:List (Nat×(List Nat→List Nat→List Obj→Ak))} {W:List Wd} {ag d u:Nat} (n:Nat) (h:A.handled=none) (i:A.depth≤d) (j:A.units≤u) (X: ∀q∈E,∀e a g k,AY s.toks k a→DW prog w kt s L (q.2 e a g)) (Y: ∀q∈W,∀e a g,(q.2 e a g).1=(q.2 e a g).2) (S:An kt s L)
  (G: ∀α τ ω,BF prog w kt false A R s L (Ej den rooms its ⟨prog,w.2⟩ S1 S2 kt n α τ ω ⟨den c,c,[],L,[],[],[],H,E,W,ag,d,u,.free⟩)):codeAny (model prog w) A c R s:=by
 have z:=NZ hden b hits hS h n ⟨den c,c,[],L,[],[],[],H,E,W,ag,d,u,.free⟩ s ⟨i,j⟩ X Y (.refl S) ⟨rfl,trivial⟩ (A7 _) G;subst hden;exact y_code _ _ _ _ _ _ (wpOwn_of_wpAny z)
end
end
section
theorem Ag.pick{kt:KT}{s a:Ab}{L b L'':Ae}(x:Ag kt s a L b){is:List Nat}(e:pick b is=some L'')(d:BR is=true):Ag kt s a L L'':=
 ⟨x.sat.sub e d,x.keep,λp g=>x.new p ((LI e).1 p g),x.size,x.gens,x.os,x.drawn,x.toks⟩
theorem AY.sub{k:Nat}: ∀{e g:List Nat},g.Sublist e→ ∀{d:Nat},AY d k e→AY d k g:=by
 intro e g h
 induction h with
 |slnil=>intro d h;exact h
 | @cons i m a h j=>
  intro d r;have:=j r.2;cases i with
  |nil=>exact r.le
  |cons b l=>exact⟨Ay r.1 (Ay (Jq _) this.1),this.2⟩
 |cons_cons a _ j=>intro d r;exact⟨r.1,j r.2⟩
section
variable (prog:Program)(w:Aa)(kt:KT)
noncomputable def Ba(A:Al)(c:Code)(L:Ae)(Φ:Result→Ae→List Nat→Prop):Prop:=
 ∀s,An kt s L→codeAny (model prog w) A c (λr a=>B5 λb d=>Φ r b d∧Ag kt s a L b∧AY s.toks a.toks d) s
end
section
variable {prog:Program}{w:Aa}{kt:KT}{den:Code→Sem Fin}{rooms:List (Code→Sem Unit)}{its:List Value}{S1 S2:Setting}(hden:den=denote table)(hroom:Hr prog w kt rooms)(hits:FI prog w its)(hS:(⟨prog,w.2⟩:Setting)=S1∨(⟨prog,w.2⟩:Setting)=S2){A:Al}{c:Code}{L:Ae}{Φ Φ':Result→Ae→List Nat→Prop}
theorem Ba.mono(h:Ba prog w kt A c L Φ)(m: ∀r d e,Φ r d e→Φ' r d e):Ba prog w kt A c L Φ':=λs S=>
 B4 (h s S) (by rintro r g ⟨d,e,a,b⟩;exact⟨d,e,m r d e a,b⟩)
theorem Ba.ext{e:Ak}(h: ∀A:Al,A.depth≤e.d→A.units≤e.u→A.handled=e.h→
  Ba prog w kt A e.c e.pre λr d b=>B5 λa o=>a.length=e.na∧b.length=e.nt∧o.length=e.no∧r=e.rx o (e.r a b)∧d=Bk e.pre (e.outs a b o)++BH a (e.news a b o))(g:e.gn=none:=by rfl):LL prog w kt e:=λA i j k s S _=>
 B4 (h A i j k s S) (by rintro r z ⟨d,b,⟨a,o,l,m,n,t,u⟩,v,y⟩;exact⟨a,b,o,l,m,n,t,by rw[g];exact u▸v,y⟩)
noncomputable def xD(o:Bx)(a:List Nat):Du×Option Ae:=(o.e,pick o.L a)
include hden hroom hits hS
theorem xE{H:List Nat}{E:List (Nat×(List Nat→List Nat→List Obj→Ak))}{W:List Wd}{ag d u:Nat}(n:Nat)(C:List Nat)(I:A.handled=none)(J:A.depth≤d)(K:A.units≤u)
  (X: ∀q∈E,∀o l t,LL prog w kt (q.2 o l t)) (Y: ∀q∈W,∀o l t,(q.2 o l t).1=(q.2 o l t).2) (en:Au→Au→AU→Du) (z:Au→Au→AU→Ae) (tk:Au→Au→AU→List Nat)
  (chk: ∀g i j,(Ej den rooms its ⟨prog,w.2⟩ S1 S2 kt n g i j ⟨den c,c,[],L,[],[],[],H,E,W,ag,d,u,.free⟩).ask=(Ej den rooms its ⟨prog,w.2⟩ S1 S2 kt n g i j ⟨den c,c,[],L,[],[],[],H,E,W,ag,d,u,.free⟩).say∧
   xD (Ej den rooms its ⟨prog,w.2⟩ S1 S2 kt n g i j ⟨den c,c,[],L,[],[],[],H,E,W,ag,d,u,.free⟩) C=(en g i j,some (z g i j)))
  (D: ∀g i j,(tk g i j).Sublist (Ej den rooms its ⟨prog,w.2⟩ S1 S2 kt n g i j ⟨den c,c,[],L,[],[],[],H,E,W,ag,d,u,.free⟩).ts)
  (B:BR C=true)
  (fin: ∀g i j,match en g i j with
   | .done f=>Φ (.ok f) (z g i j) (tk g i j)
   | .err e=>Φ (.error e) (z g i j) (tk g i j)
   | .again F=>Ba prog w kt A F (z g i j) λr v l=>Φ r v (tk g i j++l)
   | .bad _=>False):Ba prog w kt A c L Φ:=by
 intro s S;refine N0 hden hroom hits hS (H:=H) (E:=E) (W:=W) (ag:=ag) n I J K (λq M o l t _ _=>(X q M o l t).frm) Y S λg i j=>⟨(chk g i j).1,λN O P _=> ?_⟩
 have Q:=Am Prod.fst (chk g i j).2;have R:=Am Prod.snd (chk g i j).2;have m:=O.pick R B;have y:=P.sub (D g i j);have f:=fin g i j;have G:(Ej den rooms its ⟨prog,w.2⟩ S1 S2 kt n g i j ⟨den c,c,[],L,[],[],[],H,E,W,ag,d,u,.free⟩).e=en g i j:=Q;rw[G];cases h:en g i j with
 |done U=>rw[h]at f;exact⟨_,_,f,m,y⟩
 |err e=>rw[h]at f;exact⟨_,_,f,m,y⟩
 |again F=>
  rw[h]at f;refine B4 (f N m.sat) ?_;rintro r T ⟨v,l,a,b,c⟩;exact⟨v,_,a,m.trans b,y.app c⟩
 |bad k=>rw[h]at f;exact f.elim
end
noncomputable abbrev c0:Code:=.call .none ⟨[],[]⟩
theorem Oa{prog:Program}{w:Aa}{kt:KT}{den:Code→Sem Fin}{rooms:List (Code→Sem Unit)}{its:List Value}{S1 S2:Setting}(hden:den=denote table)(hroom:Hr prog w kt rooms)(hits:FI prog w its)(hS:(⟨prog,w.2⟩:Setting)=S1∨(⟨prog,w.2⟩:Setting)=S2)
  {A:Al} {R:Result→Ab→Prop} {s:Ab} {L:Ae} {H:List Nat} {E:List (Nat×(List Nat→List Nat→List Obj→Ak))} {W:List Wd} {d u:Nat} {T:Type} {t:Sem T} (g:T→Flow) {b:Sem Fin} (l:(t>>=λx=>pure (.done (g x)))=b)
  (n:Nat) (m:A.handled=none) (o:A.depth≤d) (r:A.units≤u) (X: ∀q∈E,∀h a i v,AY s.toks v a→DW prog w kt s L (q.2 h a i)) (Y: ∀q∈W,∀h a i,(q.2 h a i).1=(q.2 h a i).2) (S:An kt s L)
  (G: ∀B C D,BF prog w kt false A R s L (Ej den rooms its ⟨prog,w.2⟩ S1 S2 kt n B C D ⟨b,c0,[],L,[],[],[],H,E,W,0,d,u,.free⟩)):wpAny (model prog w) A t (λx j=>R (.ok (g x)) j) (λe j=>R (.error e) j) s:=by
 have z:=NZ hden hroom hits hS m n ⟨b,c0,[],L,[],[],[],H,E,W,0,d,u,.free⟩ s ⟨o,r⟩ X Y (.refl S) ⟨rfl,trivial⟩ (A7 _) G;have z:wpAny (model prog w) A.in1 b (postC prog w A R) (postE R) s:=z;subst l;refine wpAny_of_in1 λF p k=> ?_;have y:=z F p k;rw[Sem.wp_bind']at y;exact y
theorem xF{prog:Program}{w:Aa}{kt:KT}{den:Code→Sem Fin}{rooms:List (Code→Sem Unit)}{its:List Value}{S1 S2:Setting}(hden:den=denote table)(hroom:Hr prog w kt rooms)(hits:FI prog w its)(hS:(⟨prog,w.2⟩:Setting)=S1∨(⟨prog,w.2⟩:Setting)=S2)
  {A:Al} {R:Result→Ab→Prop} {s:Ab} {L:Ae} {H:List Nat} {E:List (Nat×(List Nat→List Nat→List Obj→Ak))} {W:List Wd} {d u:Nat} {T:Type} {t:Sem T} (g:T→Flow) {b:Sem Fin} (l:(t>>=λx=>pure (.done (g x)))=b)
  (n:Nat) (m:A.handled=none) (o:A.depth≤d) (r:A.units≤u) (X: ∀q∈E,∀h a i v,AY s.toks v a→DW prog w kt s L (q.2 h a i)) (Y: ∀q∈W,∀h a i,(q.2 h a i).1=(q.2 h a i).2) (S:An kt s L)
  (G: ∀B C D,BF prog w kt true A R s L (Ej den rooms its ⟨prog,w.2⟩ S1 S2 kt n B C D ⟨b,c0,[],L,[],[],[],H,E,W,0,d,u,.quiet⟩)):wpAny (model prog w) A t (λx j=>R (.ok (g x)) j) (λe j=>R (.error e) j) s:=by
 have z:=NZ hden hroom hits hS m n ⟨b,c0,[],L,[],[],[],H,E,W,0,d,u,.quiet⟩ s ⟨o,r⟩ X Y (.refl S) ⟨rfl,rfl⟩ (A7 _) G;have z:wpAny (model prog w) A.in1 b (postC prog w A R) (postE R) s:=z;subst l;refine wpAny_of_in1 λF p k=> ?_;have y:=z F p k;rw[Sem.wp_bind']at y;exact y
end
set_option maxHeartbeats 8000000
noncomputable def raiseH(a:Env):Sem Unit:=(enterFrame 0).onRaise (leaving a)
lay_quick raiseH
noncomputable def Tr(p:Nat×Obj):Bool:= !Nat.beq p.1 248&& !Nat.beq p.1 329
noncomputable def LN(fr:Frag):KT:=KT.of (List.filter Tr fr)
noncomputable abbrev kt(w:Aa):KT:=LN (tw11500880152897323899 w.2)
noncomputable abbrev den:Code→Sem Fin:=tw11892475500146522536 tw14364793385576792824
theorem GJ:den=denote table:=by
 refine (?_:tw11892475500146522536 tw14364793385576792824=_);rw[←te14364793385576792824,←te11892475500146522536,table_eq_tree]
noncomputable def xG:Code→Sem Unit
 | .func _ a=>tw4237129887480848282 a
 |_=>tw15066281185411960212 0
noncomputable abbrev rooms:List (Code→Sem Unit):=[λ_=>tw15066281185411960212 0,λ_=>tw10648789137845014744 "comparison",λ_=>tw10648789137845014744 "call",xG]
theorem Ts(w:Aa): ∃o,(kt w).get 2=some o∧(match o.data with| .dict a _=>a.all (λe=>match e.key with| .str _ _=>true|_=>false)&&(nsFind a "sys.recursionlimit").isNone|_=>false)=true:=
 ⟨tw8851035615930858782 w.2,by kernel_rfl,by kernel_rfl⟩
theorem LO{w:Aa}{s:Ab}{L:Ae}(S:An (kt w) s L):s.heap.NoLimit:=by
 obtain⟨o,e,a⟩:=Ts w;have b:=S.old 2 o e;have c:s.heap.isNs 2=true:=by
  unfold Heap.isNs;rw[b];dsimp only;revert a;cases o.data <;> intro a <;> first|cases a|exact(Bool.and_eq_true_iff.mp a).1
 refine⟨_,.of_isNs c,?_⟩;unfold Heap.nsMap;have d:s.heap.get? cStatics=some o:=b;rw[d];dsimp only;revert a;cases o.data <;> intro a <;> first|cases a|exact Option.isNone_iff_eq_none.mp (Bool.and_eq_true_iff.mp a).2
theorem GL(a:Program)(w b:Aa):Hr a b (kt w) rooms:=by
 intro i r e c A s L Q E S d g q
 match i,e with
 |0,e=>
  cases e;dsimp only;rw[←te15066281185411960212];exact wpAny_enterFrame (LO S) d q
 |3,e=>
  cases e;have j:wpAny (model a b) A (tw15066281185411960212 0) Q E s:=by
   rw[←te15066281185411960212];exact wpAny_enterFrame (LO S) d q
  cases c with
  |func k h=>
   refine (?_:wpAny (model a b) A (tw4237129887480848282 h) Q E s);rw[←te4237129887480848282];exact Fp (wpAny_enterFrame (LO S) d q)
  |_=>exact j
 |1,e=>
  cases e;dsimp only;rw[←te10648789137845014744];exact wpAny_cRoom g q
 |2,e=>
  cases e;dsimp only;rw[←te10648789137845014744];exact wpAny_cRoom g q
noncomputable def wRow(b:Bool)(w:Aa):Aa:=w.withFollow "special-get-raises" b
noncomputable def itsV(_:Unit):List Value:=[.type "range_iterator",.type "list_iterator",.type "tuple_iterator",.type "zip"]
noncomputable def strTab0(_:Unit):List String:=["list.__contains__","list.append","dict.get","dict.__setitem__","dict.setdefault","dict.__contains__","dict.__getitem__","list.__getitem__"]
noncomputable def strTab1(_:Unit):List String:=["sum","sorted","list.sort","list.__eq__","list.__ne__","tuple.__eq__","tuple.__ne__","list.pop"]
noncomputable def strTab2(_:Unit):List String:=["list.extend","str.__iter__","str.__getitem__","max","_heapq.heapify","_heapq.heapreplace","_heapq.heapify.sift","tuple.__lt__"]
noncomputable def strTab3(_:Unit):List String:=["list.__len__","len","list.__add__","str_ascii_iterator.__next__","list.__bool__","str.__lt__","list_iterator.__next__","tuple.__gt__"]
noncomputable def strTab4(_:Unit):List String:=["float.__lt__","float.__eq__","str.__eq__","reverse","default","key","int.__eq__","int.__lt__"]
noncomputable def strTab5(_:Unit):List String:=["map","generator","method-wrapper","list.__iter__","list.__new__","list.__init__","sum.loop","max.loop"]
noncomputable def strTab6(_:Unit):List String:=["list.extend.loop","range_iterator.__next__","int.__gt__","set.__contains__","range.__new__","range.__iter__"]
lay_quick wRow itsV strTab0 strTab1 strTab2 strTab3 strTab4 strTab5 strTab6
theorem xH{c:Program}{w:Aa}{A:Al}{R:Result→Ab→Prop}{s:Ab}{e:Expr}{n:Nat}{j k:Value}{d:Env}(b:Ix e n=true)
  (r:codeAny (model c w) A (.compLoop e n j k d) R s)
  (t: ∀(A:Al) (Q:Value→Ab→Prop) (E:Value→Ab→Prop),Q j s→wpAny (model c w) A (pyIter j) Q E s):codeAny (model c w) A (.compStart e n j k d) R s:=by
 cases e with
 |ListComp m a i o=>
  have u: ∃g,a[n]? =some g∧g.is_async=0:=by
   unfold Ix at b;dsimp only at b;have key: ∀(l:List Comprehension) (n:Nat),Ix.nthC l n=l[n]? :=by
    intro l
    induction l with
    |nil=>intro n;cases n <;> rfl
    |cons g l v=>intro n;cases n with
     |zero=>rfl
     |succ n=>exact v n
   rw[key]at b;cases h:a[n]? with
   |none=>rw[h]at b;cases b
   |some g=>rw[h]at b;exact⟨g,rfl,by simpa using b⟩
  obtain⟨g,y,z⟩:=u;refine Ho ?_;refine (?_:wpAny _ _ ((compStart (.ListComp m a i o) n j k d).onRaise (λx=>do noteFrame x d;standAt theWindowsPlace)) _ _ s);refine wpAny_notedAt ?_;unfold compStart;have B:clausesOf (.ListComp m a i o)=a:=rfl;rw[B,y];rw[AH (by show¬(g.is_async != 0)=true;rw[z];decide)];refine Af (wpAny_askSetting (wpAny_ite ?_))
  split
  ·exact Af (Aq (Aq (And.intro rfl r)))
  ·exact Af (FH (Af (Ds (Af (t _ _ _ (Aq (And.intro rfl r)))))))
 |_=>cases b
theorem xI(d:Program)(w:Aa):FI d w (itsV ()):=by
 intro j T e A l n i k R s a o c b g h;refine xH g h λA Q E q=> ?_
 match j,e with
 |0,e=>
  cases e;have b:s.TypeIs (.ref a) "range_iterator":=⟨_,c,b⟩
  refine wpAny_pyIter_slot b F.slot_range_iterator_iter (wpAny_call_entry F.slot_range_iterator_iter b F.entry_range_iterator_iter ?_ (F.args_range_iterator_iter_1 _));refine (?_:wpAny _ _ (ret (.ref a)) _ _ s);exact Aq ⟨_,rfl,"range_iterator",_,b,F.slot_range_iterator_next.lookup,q⟩
 |1,e=>
  cases e;have b:s.TypeIs (.ref a) "list_iterator":=⟨_,c,b⟩
  refine wpAny_pyIter_slot b slot_listiter_iter (wpAny_call_entry slot_listiter_iter b entry_listiter_iter ?_ (args_listiter_iter _));refine (?_:wpAny _ _ (ret (.ref a)) _ _ s);exact Aq ⟨_,rfl,"list_iterator",_,b,slot_listiter_next.lookup,q⟩
 |2,e=>
  cases e;have b:s.TypeIs (.ref a) "tuple_iterator":=⟨_,c,b⟩
  refine wpAny_pyIter_slot b F.slot_tuple_iterator_iter (wpAny_call_entry F.slot_tuple_iterator_iter b F.entry_tuple_iterator_iter ?_ (F.args_tuple_iterator_iter_1 _));refine (?_:wpAny _ _ (ret (.ref a)) _ _ s);exact Aq ⟨_,rfl,"tuple_iterator",_,b,F.slot_tuple_iterator_next.lookup,q⟩
 |3,e=>
  cases e;have b:s.TypeIs (.ref a) "zip":=⟨_,c,b⟩
  refine wpAny_pyIter_slot b F.slot_zip_iter (wpAny_call_entry F.slot_zip_iter b F.entry_zip_iter ?_ (F.args_zip_iter_1 _));refine (?_:wpAny _ _ (ret (.ref a)) _ _ s);exact Aq ⟨_,rfl,"zip",_,b,F.slot_zip_next.lookup,q⟩
section
open PySem.W.ZRun
theorem xJ{kt:KT}{s i:Ab}{h:Obj}{j k:Array Value}(u:s.heap.get? 333=some h)(v:isCodeTable s.heap 248)(w:isCodeTable s.heap 329)(y:s.heap.get? 248=some (tableObj #[]))(z:s.heap.get? 329=some (tableObj #[]))
  (l:Ag kt s i [(333,h),(248,tableObj #[]),(329,tableObj #[])] [(333,h),(248,tableObj j),(329,tableObj k)]):OldK s.heap i.heap:=by
 have m:=l.sat.mem;have n:=m (333,h) (by (first|((repeat(first|exact .head _|apply List.mem_cons_of_mem));done)|simp));have r:=m (248,tableObj j) (by (first|((repeat(first|exact .head _|apply List.mem_cons_of_mem));done)|simp));have t:=m (329,tableObj k) (by (first|((repeat(first|exact .head _|apply List.mem_cons_of_mem));done)|simp));have key: ∀b o,s.heap.get? b=some o→asItWas s.heap i.heap b o:=by
  intro b o e
  by_cases a:b=333
  ·subst a
   rw[u]at e;cases e;exact .inl n
  ·by_cases c:b=248
   ·subst c
    rw[y]at e;cases e;exact .inr (.inl ⟨v,rfl,#[],j,rfl,by rw[Array.empty_append];exact r⟩)
   ·by_cases d:b=329
    ·subst d
     rw[z]at e;cases e;exact .inr (.inl ⟨w,rfl,#[],k,rfl,by rw[Array.empty_append];exact t⟩)
    ·refine .inl (l.keep b o e λp g=> ?_)
     simp only[Jo,Jm,or_false]at g;rcases g with rfl|rfl|rfl
     ·exact Ne.symm a
     ·exact Ne.symm c
     ·exact Ne.symm d
 refine⟨key,λb o e=> ?_⟩
 by_cases a:b=333
 ·subst a;exact⟨_,n⟩
 ·by_cases c:b=248
  ·subst c;exact⟨_,r⟩
  ·by_cases d:b=329
   ·subst d;exact⟨_,t⟩
   ·refine⟨o,l.keep b o e λp g=> ?_⟩
    simp only[Jo,Jm,or_false]at g;rcases g with rfl|rfl|rfl
    ·exact Ne.symm a
    ·exact Ne.symm c
    ·exact Ne.symm d
end
noncomputable abbrev GM:List Value:=tw10928194292921660888 ()
noncomputable abbrev wR(b:Bool)(w:Aa):Aa:=tw15226136637599360411 b w
noncomputable abbrev walk(w:Aa)(n:Nat)(a b:Au)(e:AU)(c:Code)(L:Ae)(H:List Nat)(E:List (Nat×(List Nat→List Nat→List Obj→Ak)))(W:List Wd)(g d u:Nat):Bx:=
 Ej den rooms GM ⟨pw,w.2⟩ ⟨pw,(wR true w).params⟩ ⟨pw,(wR false w).params⟩ (kt w) n a b e ⟨den c,c,[],L,[],[],[],H,E,W,g,d,u,.free⟩
theorem hS(w:Aa):(⟨pw,w.2⟩:Setting)=⟨pw,(wR true w).params⟩∨(⟨pw,w.2⟩:Setting)=⟨pw,(wR false w).params⟩:=by
 have e: ∀b,wR b w=w.withFollow "special-get-raises" b:=λb=>(Ai (Ai te15226136637599360411 b) w).symm;have h:=World.withFollow_self w "special-get-raises";rw[e,e];cases a:w.2.followText "special-get-raises" with
 |true=>rw[a]at h;rw[h];exact .inl rfl
 |false=>rw[a]at h;rw[h];exact .inr rfl
theorem FJ(a:Program)(w:Aa):FI a w GM:=by
 have e:itsV ()=GM:=Ai te10928194292921660888 ();rw[←e];exact xI a w
noncomputable abbrev RunsW(w:Aa)(A:Al)(c:Code)(L:Ae)(a:Result→Ae→List Nat→Prop):Prop:=Ba pw w (kt w) A c L a
noncomputable abbrev Av(w:Aa)(e:Ak):Prop:=LL pw w (kt w) e
noncomputable def fin(o:Bx)(a:List Nat):List EJ×Du×Option Ae×List Nat:=(o.ask,o.e,pick o.L a,o.ts)
noncomputable def Gd:List Nat→Nat→Nat→Bool
 |[],_,_=>true
 |i::a,b,N=>Nat.ble b i&&Nat.blt i N&&Gd a (i+1) N
theorem xK(a:Au): ∀(N i:Nat),i<N→(Dj a N)[i]? =some (a i):=by
 intro N
 induction N generalizing a with
 |zero=>intro i h;(first|lia|omega)
 |succ N b=>
  intro i h;cases i with
  |zero=>rfl
  |succ i=>exact b (λj=>a (j+1)) i (by (first|lia|omega))
theorem Kj(a:Au)(N:Nat):Dj a N=(List.range N).map a:=by
 apply List.ext_getElem?;intro i
 by_cases h:i<N
 ·rw[xK a N i h,Jj,Ll h];rfl
 ·rw[Je (by rw[LK];(first|lia|omega)),Je (by (first|((repeat(first|exact .head _|apply List.mem_cons_of_mem));done)|simp);(first|lia|omega))]
theorem Kk{N:Nat}: ∀{d:List Nat} {c:Nat},Gd d c N=true→d.Sublist (List.range' c (N-c)):=by
 intro d
 induction d with
 |nil=>intro c _;exact List.nil_sublist _
 |cons i d e=>
  intro c h;unfold Gd at h;simp only[Fo]at h;obtain⟨⟨g,j⟩,k⟩:=h;have g:=Ef g;have j:i<N:=Ef j;obtain⟨a,rfl⟩:=Nat.exists_eq_add_of_le g;obtain⟨b,rfl⟩:=Nat.exists_eq_add_of_le (show c+a+1≤N from j);have e:=e k;rw[Li]at e;rw[show c+a+1+b-c=a+(b+1) by rw[Lv (c+a),Lv c,Li,Nat.add_comm 1 b],←List.range'_append_1,NM];exact(e.cons_cons _).trans (Nz _ _)
theorem Tt{w:Aa}{A:Al}{c:Code}{L:Ae}{l:Result→Ae→List Nat→Prop}{H:List Nat}{E:List (Nat×(List Nat→List Nat→List Obj→Ak))}{W:List Wd}{i d u:Nat}(n N:Nat)(s tk:List Nat)
  (z:A.handled=none) (B:A.depth≤d) (C:A.units≤u) (X: ∀q∈E,∀m j o,Av w (q.2 m j o)) (Y: ∀q∈W,∀m j o,(q.2 m j o).1=(q.2 m j o).2)
  (en:Au→Au→AU→Du) (k:Au→Au→AU→Ae)
  (chk: ∀b a g,fin (walk w n b a g c L H E W i d u) s=((walk w n b a g c L H E W i d u).say,en b a g,some (k b a g),Dj a N))
  (t:BR s=true) (v:Gd tk 0 N=true)
  (fi: ∀b a g,match en b a g with
   | .done f=>l (.ok f) (k b a g) (tk.map a)
   | .err e=>l (.error e) (k b a g) (tk.map a)
   | .again D=>RunsW w A D (k b a g) λr y j=>l r y (tk.map a++j)
   | .bad _=>False):RunsW w A c L l:=by
 refine xE GJ (GL pw w w) (FJ pw w) (hS w) (H:=H) (E:=E) (W:=W) (ag:=i) n s z B C X Y en k (λ_ a _=>tk.map a) (λb a g=> ?_) (λb a g=> ?_) t fi
 ·have h:=chk b a g
  have F:=Am Prod.fst h;have G:=Am (λx=>(x.2.1,x.2.2.1)) h;exact⟨F,G⟩
 ·have h:=Am (λx=>x.2.2.2) (chk b a g)
  have I:(walk w n b a g c L H E W i d u).ts=Dj a N:=h;show(tk.map a).Sublist (walk w n b a g c L H E W i d u).ts;rw[I,Kj];have:=(Kk v).map a;rwa[Kd,←Hk]at this
noncomputable def LP(F:(Au→Au→AU→Bx))(a:List Nat):(Au→Au→AU→List EJ×Du×Option Ae×List Nat):=λb c d=>fin (F b c d) a
noncomputable def LQ(F:(Au→Au→AU→Bx))(en:Au→Au→AU→Du)(d:Au→Au→AU→Ae)(N:Nat):(Au→Au→AU→List EJ×Du×Option Ae×List Nat):=λb a c=>((F b a c).say,en b a c,some (d b a c),Dj a N)
theorem Ge{F:(Au→Au→AU→Bx)}{d:List Nat}{en:Au→Au→AU→Du}{e:Au→Au→AU→Ae}{N:Nat}(k:LP F d=LQ F en e N)(b a:Au)(c:AU):fin (F b a c) d=((F b a c).say,en b a c,some (e b a c),Dj a N):=Ai (Ai (Ai k b) a) c
noncomputable def Tv(w:Aa)(n:Nat)(c:Code)(L:Ae)(H:List Nat)(E:List (Nat×(List Nat→List Nat→List Obj→Ak)))(W:List Wd)(a d u:Nat):(Au→Au→AU→Bx):=λb e g=>walk w n b e g c L H E W a d u
noncomputable abbrev AI(w:Aa)(n:Nat)(c:Code)(L:Ae)(H:List Nat)(E:List (Nat×(List Nat→List Nat→List Obj→Ak)))(W:List Wd)(a d u:Nat)(b:List Nat)(en:Au→Au→AU→Du)(e:Au→Au→AU→Ae)(N:Nat):Prop:=
 LP (Tv w n c L H E W a d u) b=LQ (Tv w n c L H E W a d u) en e N
theorem Bf{w:Aa}{A:Al}{c:Code}{L:Ae}{Φ:Result→Ae→List Nat→Prop}{H:List Nat}{E:List (Nat×(List Nat→List Nat→List Obj→Ak))}{W:List Wd}{r d u n N:Nat}{j:List Nat}{f:Au→Au→AU→Flow}{l:Au→Au→AU→Ae}
  (k:AI w n c L H E W r d u j (λb a e=>.done (f b a e)) l N) (tk:List Nat) (s:A.handled=none) (t:A.depth≤d) (v:A.units≤u) (X: ∀q∈E,∀g h i,Av w (q.2 g h i)) (Y: ∀q∈W,∀g h i,(q.2 g h i).1=(q.2 g h i).2)
  (fi: ∀b a e,Φ (.ok (f b a e)) (l b a e) (tk.map a)) (m:BR j=true:=by rfl) (o:Gd tk 0 N=true:=by rfl):RunsW w A c L Φ:=
 Tt n N j tk s t v X Y _ l (Ge k) m o fi
theorem EZ{w:Aa}{A:Al}{c:Code}{L:Ae}{o:Result→Ae→List Nat→Prop}{H:List Nat}{E:List (Nat×(List Nat→List Nat→List Obj→Ak))}{W:List Wd}{v d u n N:Nat}{j:List Nat}{f:Au→Au→AU→Code}{l:Au→Au→AU→Ae}
  (k:AI w n c L H E W v d u j (λe b g=>.again (f e b g)) l N) (tk:List Nat) (y:A.handled=none) (z:A.depth≤d) (B:A.units≤u) (X: ∀q∈E,∀h a i,Av w (q.2 h a i)) (Y: ∀q∈W,∀h a i,(q.2 h a i).1=(q.2 h a i).2)
  (fi: ∀e b g,RunsW w A (f e b g) (l e b g) λr s a=>o r s (tk.map b++a)) (m:BR j=true:=by rfl) (t:Gd tk 0 N=true:=by rfl):RunsW w A c L o:=
 Tt n N j tk y z B X Y _ l (Ge k) m t fi
noncomputable abbrev Hv(w:Aa)(n:Nat)(a b:Au)(c:AU)(t:Sem AA)(L:Ae)(H:List Nat)(E:List (Nat×(List Nat→List Nat→List Obj→Ak)))(W:List Wd)(d u:Nat):Bx:=
 Ej den rooms GM ⟨pw,w.2⟩ ⟨pw,(wR true w).params⟩ ⟨pw,(wR false w).params⟩ (kt w) n a b c ⟨t,c0,[],L,[],[],[],H,E,W,0,d,u,.free⟩
noncomputable def Tw(w:Aa)(n:Nat)(t:Sem AA)(L:Ae)(H:List Nat)(E:List (Nat×(List Nat→List Nat→List Obj→Ak)))(W:List Wd)(d u:Nat):(Au→Au→AU→Bx):=λa b c=>Hv w n a b c t L H E W d u
noncomputable abbrev AF(w:Aa)(n:Nat)(t:Sem AA)(L:Ae)(H:List Nat)(E:List (Nat×(List Nat→List Nat→List Obj→Ak)))(W:List Wd)(d u:Nat)(a:List Nat)(en:Au→Au→AU→Du)(b:Au→Au→AU→Ae)(N:Nat):Prop:=
 LP (Tw w n t L H E W d u) a=LQ (Tw w n t L H E W d u) en b N
noncomputable def IB{a:Type _}(g:Nat→a):List Nat→List a
 |[]=>[]
 |i::l=>g i::IB g l
theorem Tx{a:Type _}{f g:Nat→a}: ∀{l:List Nat},l.map f=IB g l→ ∀i∈l,f i=g i
 |_::_,h,_,.head _=>(Kc h).1
 |_::_,h,_,.tail _ m=>Tx (Kc h).2 _ m
theorem GN{a:Type _}{f g:Nat→a}(n:Nat)(h:(List.range n).map f=IB g (List.range n))(i:Nat)(b:i<n):f i=g i:=Tx h i (List.mem_range.mpr b)
theorem xL{a:Type _}{f g:Nat→Nat→a}(n:Nat)(h:(List.range n).map (λi=>(List.range n).map (f i))=IB (λi=>IB (g i) (List.range n)) (List.range n))(i:Nat)(b:i<n)(j:Nat)(c:j<n):f i j=g i j:=GN n (GN n h i b) j c
theorem Ty{a:Type _}{f g:Nat→Nat→a}(n:Nat)(h:(List.range n).map (λi=>(List.range i).map (f i))=IB (λi=>IB (g i) (List.range i)) (List.range n))(i:Nat)(b:i<n)(j:Nat)(c:j<i):f i j=g i j:=GN i (GN n h i b) j c
noncomputable def tB{a:Type _}(f:Bool→a):a×a:=(f true,f false)
noncomputable def uB{a:Type _}(g:Bool→a):a×a:=(g true,g false)
theorem Ek{a:Type _}{f g:Bool→a}(h:tB f=uB g)(b:Bool):f b=g b:=by
 cases b
 ·exact Am Prod.snd h
 ·exact Am Prod.fst h
theorem P2{c:Type _}{f g:Bool→Bool→c}(h:tB (λa=>tB (f a))=uB (λa=>uB (g a)))(a b:Bool):f a b=g a b:=Ek (Ek (f:=λa=>tB (f a)) h a) b
theorem Ob{d:Type _}{f g:Bool→Bool→Bool→d}(h:tB (λa=>tB (λb=>tB (f a b)))=uB (λa=>uB (λb=>uB (g a b))))(a b c:Bool):f a b c=g a b c:=Ek (P2 (f:=λa b=>tB (f a b)) h a b) c
theorem Tz{a:Type _}{f g:Nat→Bool→a}(n:Nat)(h:(List.range n).map (λi=>(f i true,f i false))=IB (λi=>(g i true,g i false)) (List.range n))(i:Nat)(c:i<n)(b:Bool):f i b=g i b:=by
 have q:=GN n h i c;cases b
 ·exact Am Prod.snd q
 ·exact Am Prod.fst q
theorem Bq{w:Aa}{A:Al}{L:Ae}{H:List Nat}{E:List (Nat×(List Nat→List Nat→List Obj→Ak))}{W:List Wd}{d u n N:Nat}{y:List Nat}{f:Au→Au→AU→Flow}{B:Au→Au→AU→Ae}{o:Sem AA}{T:Type}{t:Sem T}
  (k:AF w n o L H E W d u y (λb a c=>.done (f b a c)) B N) (g:T→Flow) (G:(t>>=λx=>pure (.done (g x)))=o) (tk:List Nat) (I:A.handled=none) (J:A.depth≤d) (K:A.units≤u) (X: ∀q∈E,∀j l m,Av w (q.2 j l m)) (Y: ∀q∈W,∀j l m,(q.2 j l m).1=(q.2 j l m).2)
  {s:Ab} (S:An (kt w) s L) {Q:T→Ab→Prop} {M:Value→Ab→Prop}
  (fi: ∀b a c i x,Ag (kt w) s i L (B b a c)→AY s.toks i.toks (tk.map a)→g x=f b a c→Q x i) (v:BR y=true:=by rfl) (C:Gd tk 0 N=true:=by rfl):wpAny (model pw w) A t Q M s:=by
 have z:=Oa (R:=λr i=>match r with| .ok O=> ∀x,g x=O→Q x i| .error _=>False) GJ (GL pw w w) (FJ pw w) (hS w) (H:=H) (E:=E) (W:=W) g G n I J K (λq P j l m _ _=>(X q P j l m).frm) Y S λb a c=> ?_
 ·exact CA z (λx i h=>h x rfl) λe i h=>False.elim h
 ·have h:=Ge k b a c
  have U:=Am Prod.fst h;have V:=Am (λx=>x.2.1) h;have Z:=Am (λx=>x.2.2.1) h;have h4:(Hv w n b a c o L H E W d u).ts=Dj a N:=Am (λx=>x.2.2.2) h;refine⟨U,λi st ri _=> ?_⟩;have D:=st.pick Z v;have F:AY s.toks i.toks (tk.map a):=ri.sub (by
   show(tk.map a).Sublist (Hv w n b a c o L H E W d u).ts;rw[h4,Kj];have:=(Kk C).map a;rwa[Kd,←Hk]at this)
  have e1:(Hv w n b a c o L H E W d u).e= .done (f b a c):=V;rw[e1];exact λx hx=>fi b a c i x D F hx
noncomputable abbrev Oc(w:Aa)(n:Nat)(a b:Au)(c:AU)(t:Sem AA)(L:Ae)(H:List Nat)(E:List (Nat×(List Nat→List Nat→List Obj→Ak)))(W:List Wd)(d u:Nat):Bx:=
 Ej den rooms GM ⟨pw,w.2⟩ ⟨pw,(wR true w).params⟩ ⟨pw,(wR false w).params⟩ (kt w) n a b c ⟨t,c0,[],L,[],[],[],H,E,W,0,d,u,.quiet⟩
noncomputable def TA(w:Aa)(n:Nat)(t:Sem AA)(L:Ae)(H:List Nat)(E:List (Nat×(List Nat→List Nat→List Obj→Ak)))(W:List Wd)(d u:Nat):(Au→Au→AU→Bx):=λa b c=>Oc w n a b c t L H E W d u
noncomputable abbrev TB(w:Aa)(n:Nat)(t:Sem AA)(L:Ae)(H:List Nat)(E:List (Nat×(List Nat→List Nat→List Obj→Ak)))(W:List Wd)(d u:Nat)(a:List Nat)(en:Au→Au→AU→Du)(b:Au→Au→AU→Ae)(N:Nat):Prop:=
 LP (TA w n t L H E W d u) a=LQ (TA w n t L H E W d u) en b N
theorem xM{w:Aa}{A:Al}{L:Ae}{H:List Nat}{E:List (Nat×(List Nat→List Nat→List Obj→Ak))}{W:List Wd}{d u n N:Nat}{y:List Nat}{f:Au→Au→AU→Flow}{B:Au→Au→AU→Ae}{o:Sem AA}{T:Type}{t:Sem T}
  (k:TB w n o L H E W d u y (λb a c=>.done (f b a c)) B N) (g:T→Flow) (G:(t>>=λx=>pure (.done (g x)))=o) (tk:List Nat) (I:A.handled=none) (J:A.depth≤d) (K:A.units≤u) (X: ∀q∈E,∀j l m,Av w (q.2 j l m)) (Y: ∀q∈W,∀j l m,(q.2 j l m).1=(q.2 j l m).2)
  {s:Ab} (S:An (kt w) s L) {Q:T→Ab→Prop} {M:Value→Ab→Prop}
  (fi: ∀b a c i x,i.gens=s.gens→Ag (kt w) s i L (B b a c)→AY s.toks i.toks (tk.map a)→g x=f b a c→Q x i) (v:BR y=true:=by rfl) (C:Gd tk 0 N=true:=by rfl):wpAny (model pw w) A t Q M s:=by
 have z:=xF (R:=λr i=>match r with| .ok O=> ∀x,g x=O→Q x i| .error _=>False) GJ (GL pw w w) (FJ pw w) (hS w) (H:=H) (E:=E) (W:=W) g G n I J K (λq P j l m _ _=>(X q P j l m).frm) Y S λb a c=> ?_
 ·exact CA z (λx i h=>h x rfl) λe i h=>False.elim h
 ·have h:=Ge k b a c
  have U:=Am Prod.fst h;have V:=Am (λx=>x.2.1) h;have Z:=Am (λx=>x.2.2.1) h;have h4:(Oc w n b a c o L H E W d u).ts=Dj a N:=Am (λx=>x.2.2.2) h;refine⟨U,λi st ri gq=> ?_⟩;have D:=st.pick Z v;have F:AY s.toks i.toks (tk.map a):=ri.sub (by
   show(tk.map a).Sublist (Oc w n b a c o L H E W d u).ts;rw[h4,Kj];have:=(Kk C).map a;rwa[Kd,←Hk]at this)
  have e1:(Oc w n b a c o L H E W d u).e= .done (f b a c):=V;rw[e1];exact λx hx=>fi b a c i x (gq rfl) D F hx
theorem AR{w:Aa}: ∀q∈([]:List (Nat×(List Nat→List Nat→List Obj→Ak))),∀a b c,Av w (q.2 a b c):=λ_ h=>(nomatch h)
theorem Ar: ∀q∈([]:List Wd),∀a b c,(q.2 a b c).1=(q.2 a b c).2:=λ_ h=>(nomatch h)
theorem IC{w:Aa}{A:Al}{e:Expr}{n:Nat}{c:Addr}{a:Value}{b:Env}{L:Ae}{Φ:Result→Ae→List Nat→Prop}(j:Nat){o:Obj}(h:RunsW w A (.compLoop e n (.ref c) a b) L Φ)(d:(c,o)∈L)
  (g:NT GM j=some o.cls) (i:Ix e n=true):RunsW w A (.compStart e n (.ref c) a b) L Φ:=λs S=>
 FJ pw w j o.cls g A e n a b _ s c o (S.mem _ d) rfl i (h s S)
noncomputable abbrev pT:Program:=NP
noncomputable def DX(i:Nat):Stmt:=AB pT.main.body i
noncomputable def EK(i j:Nat):Stmt:=AB (AN (DX i)) j
noncomputable def ek:Expr→List Nat→Expr
 |e,[]=>e
 |e,i::a=>ek (A9 (Br e) i) a
noncomputable def sk(s:Stmt)(i:Nat)(a:List Nat):Expr:=ek (A9 (Kh s) i) a
noncomputable abbrev LR:Value:=.type s9222952809800978799x4
noncomputable abbrev CO:Value:=.type s658472552662922059x5
noncomputable abbrev P3:Value:=.type s14018661285674007319x4
noncomputable abbrev P4:Value:=.type s2766695959194262286x5
noncomputable abbrev Ex:Value:=.type s15992201931430999065x14
noncomputable abbrev Bo:Value:=.type s3492446563574874994x13
noncomputable abbrev LS:Value:=.type s14339709457334898076x3
noncomputable abbrev xN:Value:=.type s3642769012341782148x3
noncomputable abbrev Od:Value:=.type s1438033511350832697x5
noncomputable abbrev Ey:Value:=.type s13500813778147066322x18
noncomputable abbrev Gf:Value:=.type s14340494229221121180x9
noncomputable abbrev xO:Value:=.type s15660640913423913556x4
noncomputable abbrev Jz:Value:=.type s11030030927630378310x26
noncomputable abbrev LT:Value:=.type s5991306692159431302x13
noncomputable abbrev Kl:Value:=.type s7801419657504700863x10
noncomputable abbrev xP:Value:=.type s7174869446012820540x8
noncomputable abbrev P5:Value:=.type s462964344163437139x3
noncomputable abbrev ID:Value:=.type s4674234679698826739x5
noncomputable abbrev Km:Value:=.type s2742458400755230247x6
noncomputable abbrev TC:Value:=.type s6181755712446570794x6
noncomputable abbrev en(P:Aj)(n:Str)(v:Value):DictEntry:=⟨PyData.keyHash P n,.str n 0,v⟩
noncomputable abbrev Ap(P:Aj)(n:Str)(t:Nat)(v:Value):DictEntry:=⟨PyData.keyHash P n,.str n t,v⟩
noncomputable def TD(b:Nat):Nat→Nat→List Nat→List Nat
 |0,_,l=>l
 |f+1,n,l=>match n/b with
  |0=>l
  |m+1=>TD b f (m+1) (n%b::l)
noncomputable def dg(b n:Nat):List Nat:=TD b 2000 n []
noncomputable def rl(b n:Nat):List Nat:=(dg b n).flatMap λx=>Cc (x%16) (x/16)
noncomputable def zr(n:Nat)(l:List Nat):List Nat:=.range n++l
noncomputable abbrev Ad(w:Aa)(n:Str)(y:Nat)(v:Value):DictEntry:=Ap w.params n y v
noncomputable abbrev fr(a:List DictEntry)(n:Nat):Obj:=⟨CO,none,.dict ⟨a⟩ n,⟨[]⟩⟩
noncomputable abbrev li(a:List Value)(n:Nat):Obj:=⟨LR,none,.seq ⟨a⟩ n,⟨[]⟩⟩
noncomputable abbrev tu(a:List Value)(n:Nat):Obj:=⟨P4,none,.seq ⟨a⟩ n,⟨[]⟩⟩
noncomputable abbrev di(a:List DictEntry)(n:Nat):Obj:=⟨P3,none,.dict ⟨a⟩ n,⟨[]⟩⟩
noncomputable abbrev ce(v:Option Value):Obj:=⟨xO,none,.cell v,⟨[]⟩⟩
noncomputable abbrev fi(t:Value)(a:List Value):Obj:=⟨t,none,.fields ⟨a⟩,⟨[]⟩⟩
noncomputable abbrev Hw:Str:=⟨⟨[46,48]⟩⟩
noncomputable abbrev xQ:Str:=⟨⟨[95,104,101,97,112,114,101,112,108,97,99,101]⟩⟩
noncomputable abbrev xR:Str:=⟨⟨[95,108,97,119,95,116,101,120,116]⟩⟩
noncomputable abbrev xS:Str:=⟨⟨[95,108,97,119,95,116,117,114,110,101,100]⟩⟩
noncomputable abbrev EM:Str:=⟨⟨[95,111,114,100,101,114]⟩⟩
noncomputable abbrev Co:Str:=⟨⟨[97]⟩⟩
noncomputable abbrev CB:Str:=⟨⟨[97,99,116,117,97,108]⟩⟩
noncomputable abbrev TF:Str:=⟨⟨[97,104,105]⟩⟩
noncomputable abbrev TG:Str:=⟨⟨[97,108,111]⟩⟩
noncomputable abbrev TH:Str:=⟨⟨[97,117,116,111,106,117,110,107]⟩⟩
noncomputable abbrev xT:Str:=⟨⟨[97,118,97,105,108]⟩⟩
noncomputable abbrev xU:Str:=⟨⟨[97,118,97,105,108,104,97,115]⟩⟩
noncomputable abbrev LU:Str:=⟨⟨[98]⟩⟩
noncomputable abbrev Oe:Str:=⟨⟨[98,50,106]⟩⟩
noncomputable abbrev xV:Str:=⟨⟨[98,101,115,116,105]⟩⟩
noncomputable abbrev xW:Str:=⟨⟨[98,101,115,116,106]⟩⟩
noncomputable abbrev xX:Str:=⟨⟨[98,101,115,116,115,105,122,101]⟩⟩
noncomputable abbrev TJ:Str:=⟨⟨[98,104,105]⟩⟩
noncomputable abbrev TK:Str:=⟨⟨[98,106,117,110,107]⟩⟩
noncomputable abbrev TM:Str:=⟨⟨[98,108,111]⟩⟩
noncomputable abbrev TN:Str:=⟨⟨[98,112,111,112,117,108,97,114]⟩⟩
noncomputable abbrev Hx:Str:=⟨⟨[99,111,100,101]⟩⟩
noncomputable abbrev xZ:Str:=⟨⟨[99,117,116,111,102,102]⟩⟩
noncomputable abbrev LW:Str:=⟨⟨[100,117,101]⟩⟩
noncomputable abbrev CP:Str:=⟨⟨[101]⟩⟩
noncomputable abbrev Bt:Str:=⟨⟨[101,108,101,109]⟩⟩
noncomputable abbrev Of:Str:=⟨⟨[101,108,101,109,101,110,116]⟩⟩
noncomputable abbrev Og:Str:=⟨⟨[101,108,116]⟩⟩
noncomputable abbrev CC:Str:=⟨⟨[101,120,112,101,99,116,101,100]⟩⟩
noncomputable abbrev DB:Str:=⟨⟨[102,108,105,112]⟩⟩
noncomputable abbrev Oh:Str:=⟨⟨[102,117,108,108,98,99,111,117,110,116]⟩⟩
noncomputable abbrev yB:Str:=⟨⟨[102,117,110,99,116,105,111,110]⟩⟩
noncomputable abbrev GO:Str:=⟨⟨[103,114,101,97,116]⟩⟩
noncomputable abbrev By:Str:=⟨⟨[105]⟩⟩
noncomputable abbrev JA:Str:=⟨⟨[105,110,100,105,99,101,115]⟩⟩
noncomputable abbrev yC:Str:=⟨⟨[105,110,105,116,105,97,108]⟩⟩
noncomputable abbrev yD:Str:=⟨⟨[105,115,98,106,117,110,107]⟩⟩
noncomputable abbrev TP:Str:=⟨⟨[105,115,106,117,110,107]⟩⟩
noncomputable abbrev DY:Str:=⟨⟨[105,116]⟩⟩
noncomputable abbrev Oi:Str:=⟨⟨[105,116,101,114,97,98,108,101]⟩⟩
noncomputable abbrev CH:Str:=⟨⟨[106]⟩⟩
noncomputable abbrev yE:Str:=⟨⟨[106,50,108,101,110]⟩⟩
noncomputable abbrev TQ:Str:=⟨⟨[106,50,108,101,110,103,101,116]⟩⟩
noncomputable abbrev DC:Str:=⟨⟨[107]⟩⟩
noncomputable abbrev yF:Str:=⟨⟨[107,101,121]⟩⟩
noncomputable abbrev yG:Str:=⟨⟨[108,97]⟩⟩
noncomputable abbrev yH:Str:=⟨⟨[108,98]⟩⟩
noncomputable abbrev yI:Str:=⟨⟨[108,101,110]⟩⟩
noncomputable abbrev Hy:Str:=⟨⟨[108,105,107,101]⟩⟩
noncomputable abbrev yJ:Str:=⟨⟨[109,97,115,107]⟩⟩
noncomputable abbrev Hz:Str:=⟨⟨[109,97,116,99,104,101,115]⟩⟩
noncomputable abbrev P6:Str:=⟨⟨[109,97,116,99,104,105,110,103,95,98,108,111,99,107,115]⟩⟩
noncomputable abbrev CV:Str:=⟨⟨[109,105,115,115,105,110,103]⟩⟩
noncomputable abbrev LX:Str:=⟨⟨[110]⟩⟩
noncomputable abbrev TR:Str:=⟨⟨[110,101,119,106,50,108,101,110]⟩⟩
noncomputable abbrev yK:Str:=⟨⟨[110,111,116,104,105,110,103]⟩⟩
noncomputable abbrev yL:Str:=⟨⟨[110,117,109,98]⟩⟩
noncomputable abbrev yM:Str:=⟨⟨[111,100,100]⟩⟩
noncomputable abbrev TS:Str:=⟨⟨[111,112,99,111,100,101,115]⟩⟩
noncomputable abbrev IE:Str:=⟨⟨[111,114,100,101,114]⟩⟩
noncomputable abbrev Fs:Str:=⟨⟨[112,108,97,99,101]⟩⟩
noncomputable abbrev Oj:Str:=⟨⟨[112,108,97,105,110]⟩⟩
noncomputable abbrev yN:Str:=⟨⟨[112,111,115,115,105,98,105,108,105,116,105,101,115]⟩⟩
noncomputable abbrev yO:Str:=⟨⟨[113,117,101,117,101]⟩⟩
noncomputable abbrev DZ:Str:=⟨⟨[114,101,115,117,108,116]⟩⟩
noncomputable abbrev yP:Str:=⟨⟨[115]⟩⟩
noncomputable abbrev IF:Str:=⟨⟨[115,99,111,114,101]⟩⟩
noncomputable abbrev P7:Str:=⟨⟨[115,99,114,105,112,116]⟩⟩
noncomputable abbrev HA:Str:=⟨⟨[115,101,108,102]⟩⟩
noncomputable abbrev GP:Str:=⟨⟨[115,101,110,116,105,110,101,108]⟩⟩
noncomputable abbrev yQ:Str:=⟨⟨[115,101,113,117,101,110,99,101]⟩⟩
noncomputable abbrev yR:Str:=⟨⟨[115,105,100,101,115]⟩⟩
noncomputable abbrev Ci:Str:=⟨⟨[115,105,122,101]⟩⟩
noncomputable abbrev HB:Str:=⟨⟨[115,117,109]⟩⟩
noncomputable abbrev Gg:Str:=⟨⟨[116,101,120,116]⟩⟩
noncomputable abbrev Ok:Str:=⟨⟨[116,111,108,100]⟩⟩
noncomputable abbrev yS:Str:=⟨⟨[116,111,112]⟩⟩
noncomputable abbrev Gh:Str:=⟨⟨[116,114,105,112,108,101]⟩⟩
noncomputable abbrev LY:Str:=⟨⟨[116,114,105,112,108,101,115]⟩⟩
noncomputable abbrev Ol:Str:=⟨⟨[116,117,114,110]⟩⟩
noncomputable abbrev CW:Str:=⟨⟨[117,110,101,120,112,101,99,116,101,100]⟩⟩
noncomputable abbrev yT:Str:=⟨⟨[118,97,108,117,101]⟩⟩
noncomputable abbrev Om:Str:=⟨⟨[119,105,115,104,101,100]⟩⟩
noncomputable abbrev yU:Str:=⟨⟨[119,111,114,100]⟩⟩
noncomputable abbrev Gi:Str:=⟨⟨[120]⟩⟩
noncomputable abbrev TU:String:=s439940324294634123x17
theorem yV:TU="list.__contains__":=e439940324294634123x17.symm
noncomputable abbrev TV:String:=s2931692696383300276x11
theorem yW:TV="list.append":=e2931692696383300276x11.symm
noncomputable abbrev JB:String:=s13624992175810213990x8
theorem TY:JB="dict.get":=e13624992175810213990x8.symm
noncomputable abbrev TZ:String:=s11797481509799174649x16
theorem yX:TZ="dict.__setitem__":=e11797481509799174649x16.symm
noncomputable abbrev T3:String:=s3967477386118550044x15
theorem yZ:T3="dict.setdefault":=e3967477386118550044x15.symm
noncomputable abbrev HC:String:=s7605591312241722700x17
theorem qB:HC="dict.__contains__":=e7605591312241722700x17.symm
noncomputable abbrev JC:String:=s8077881857196166566x16
theorem P8:JC="list.__getitem__":=e8077881857196166566x16.symm
noncomputable abbrev LZ:String:=s741896355592496720x3
theorem qC:LZ="sum":=e741896355592496720x3.symm
noncomputable abbrev Kn:String:=s15201008993051130160x6
theorem qD:Kn="sorted":=e15201008993051130160x6.symm
noncomputable abbrev Ko:String:=s2990761230727911720x9
theorem P9:Ko="list.sort":=e2990761230727911720x9.symm
noncomputable abbrev T4:String:=s7634278170187095340x8
theorem qE:T4="list.pop":=e7634278170187095340x8.symm
noncomputable abbrev Qa:String:=s10790649571475547585x11
theorem qF:Qa="list.extend":=e10790649571475547585x11.symm
noncomputable abbrev Qb:String:=s8232228318002612845x12
theorem qG:Qb="str.__iter__":=e8232228318002612845x12.symm
noncomputable abbrev T5:String:=s9290617385737656809x15
noncomputable abbrev On:String:=s8200498257699607233x3
theorem qI:On="max":=e8200498257699607233x3.symm
noncomputable abbrev Qc:String:=s9263121217426465444x14
theorem qJ:Qc="_heapq.heapify":=e9263121217426465444x14.symm
noncomputable abbrev Oo:String:=s261454370922247064x18
theorem qK:Oo="_heapq.heapreplace":=e261454370922247064x18.symm
noncomputable abbrev Ma:String:=s13014049009108672802x3
theorem T6:Ma="len":=e13014049009108672802x3.symm
noncomputable abbrev Qd:String:=s8999898105280968195x12
theorem qL:Qd="list.__add__":=e8999898105280968195x12.symm
noncomputable abbrev T7:String:=s15834547700070894841x27
noncomputable abbrev Op:String:=s3213454002840115300x22
theorem T8:Op="list_iterator.__next__":=e3213454002840115300x22.symm
noncomputable abbrev Qe:String:=s896114127876100448x12
theorem qM:Qe="list.__new__":=e896114127876100448x12.symm
noncomputable abbrev Oq:String:=s13725091732456768858x13
theorem qN:Oq="list.__init__":=e13725091732456768858x13.symm
noncomputable abbrev T9:String:=s7375822716276227404x8
theorem qO:T9="sum.loop":=e7375822716276227404x8.symm
noncomputable abbrev Ua:String:=s9316426964554523096x16
theorem qP:Ua="list.extend.loop":=e9316426964554523096x16.symm
noncomputable abbrev Ub:String:=s18260584998450149984x23
set_option maxHeartbeats 400000
section
section
variable {w:Aa}{A:Al}{tgt:Expr}{it:Value}{b els:List Stmt}{env:Env}{R:Result→Ab→Prop}{s:Ab}
theorem Uc(h:wpAny (model pw w) A (pyNext it) (λx s1=>x=none∧codeAny (model pw w) A (.block els env) R s1) (λ_ _=>False) s):codeAny (model pw w) A (.forLoop tgt it b els env) R s:=by
 refine Ho ?_;rw[show A.under (.forLoop tgt it b els env)=A from Lk rfl];refine (?_:wpAny _ A ((forTurn tgt it b els env).onRaise (λx=>do noteFrame x env;theTreesLotGoes x)) _ _ s);refine Fp ?_;unfold forTurn;refine Af (Ds (Af (Fp (CA h (λx s1 a=> ?_) λ_ _ e=>e.elim))));obtain⟨rfl,a⟩:=a;exact Aq ⟨rfl,a⟩
theorem Ud(h:wpAny (model pw w) A (pyNext it) (λx s1=> ∃v,x=some v∧wpAny (model pw w) A (letOwnedTupleGo tgt it v) (λ_ s2=>wpAny (model pw w) A (assign tgt env v>>=λ_=>execs b env) (λc s3=>c= .next∧codeAny (model pw w) A (.forLoop tgt it b els env) R s3) (λ_ _=>False) s2) (λ_ _=>False) s1) (λ_ _=>False) s):codeAny (model pw w) A (.forLoop tgt it b els env) R s:=by
 refine Ho ?_;rw[show A.under (.forLoop tgt it b els env)=A from Lk rfl];refine (?_:wpAny _ A ((forTurn tgt it b els env).onRaise (λx=>do noteFrame x env;theTreesLotGoes x)) _ _ s);refine Fp ?_;unfold forTurn;refine Af (Ds (Af (Fp (CA h (λx s1 a=> ?_) λ_ _ e=>e.elim))));obtain⟨v,rfl,a⟩:=a;refine Af (CA a (λ_ s2 a=> ?_) λ_ _ e=>e.elim);have key: ∀{Q:AA→Ab→Prop} {E:Value→Ab→Prop} (k:Flow→Sem AA),wpAny (model pw w) A ((assign tgt env v>>=λ_=>execs b env)>>=k) Q E s2→wpAny (model pw w) A (assign tgt env v>>=λ_=>execs b env>>=k) Q E s2:=λ {Q E} k z=>by rwa[bind_assoc]at z
 refine key _ (Af (CA a (λc s3 a=> ?_) λ_ _ e=>e.elim));obtain⟨rfl,a⟩:=a;exact Aq ⟨rfl,a⟩
end
section
variable {w:Aa}{A:Al}{elt:Expr}{g:Comprehension}{sc:Scope}{lp:Pos}{it acc:Value}{env:Env}{R:Result→Ab→Prop}{s:Ab}(hs:(g.is_async != 0)=false)
include hs
theorem qQ(h:wpAny (model pw w) A (pyNext it) (λx s1=>x=none∧R (.ok .next) s1) (λ_ _=>False) s):codeAny (model pw w) A (.compLoop (.ListComp elt [g] sc lp) 0 it acc env) R s:=by
 refine Ho ?_;rw[show A.under (.compLoop (.ListComp elt [g] sc lp) 0 it acc env)=A from Lk rfl];refine (?_:wpAny _ A ((compTurn (.ListComp elt [g] sc lp) 0 it acc env).onRaise (λx=>do noteFrame x env;theTreesLotGoes x)) _ _ s);refine Fp ?_;unfold compTurn;dsimp only;refine (?_:wpAny _ A (standAt (if(g.is_async != 0)=true then lp else g.iter.pos)>>=λ_=>_) _ _ s);refine Af (Ds ?_);rw[AH (by rw[hs];exact Fm)];refine Af (CA h (λx s1 a=> ?_) λ_ _ e=>e.elim);obtain⟨rfl,a⟩:=a;exact Aq a
theorem qR(d:g.ifs=[])(h:wpAny (model pw w) A (pyNext it) (λx s1=> ∃v,x=some v∧wpAny (model pw w) A (letOwnedTupleGo g.target it v) (λ_ s2=>wpAny (model pw w) A (assign g.target env v) (λ_ s3=>
   wpAny (model pw w) A (eval elt env>>=λv=>call (.builtin "list.append") [acc,v]) (λ_ c=>codeAny (model pw w) A (.compLoop (.ListComp elt [g] sc lp) 0 it acc env) R c) (λ_ _=>False) s3) (λ_ _=>False) s2) (λ_ _=>False) s1) (λ_ _=>False) s):
  codeAny (model pw w) A (.compLoop (.ListComp elt [g] sc lp) 0 it acc env) R s:=by
 refine Ho ?_;rw[show A.under (.compLoop (.ListComp elt [g] sc lp) 0 it acc env)=A from Lk rfl];refine (?_:wpAny _ A ((compTurn (.ListComp elt [g] sc lp) 0 it acc env).onRaise (λx=>do noteFrame x env;theTreesLotGoes x)) _ _ s);refine Fp ?_;unfold compTurn;dsimp only;refine (?_:wpAny _ A (standAt (if(g.is_async != 0)=true then lp else g.iter.pos)>>=λ_=>_) _ _ s);refine Af (Ds ?_);rw[AH (by rw[hs];exact Fm)];refine Af (CA h (λx s1 a=> ?_) λ_ _ e=>e.elim);obtain⟨v,rfl,a⟩:=a;dsimp only;refine Af (CA a (λ_ s2 a=> ?_) λ_ _ e=>e.elim);refine Af (CA a (λ_ s3 a=> ?_) λ_ _ e=>e.elim);rw[d];refine Af (Aq ?_);simp only[if_true];refine (?_:wpAny _ _ ((eval elt env>>=λv=>call (.builtin "list.append") [acc,v]>>=λ_=>pure ())>>=λ_=>_) _ _ _);have e:(eval elt env>>=λv=>call (.builtin "list.append") [acc,v]>>=λ_=>(pure ():Sem Unit))=((eval elt env>>=λv=>call (.builtin "list.append") [acc,v])>>=λ_=>pure ()):=by simp only[bind_assoc]
 rw[e];exact Af (Af (CA a (λ_ c a=>Aq (Aq ⟨rfl,a⟩)) λ_ _ e=>e.elim))
end
end
set_option maxHeartbeats 8000000
noncomputable def IG(c:Code)(a:Ae)(v:Value):Ak:={d:=900,u:=9000,h:=none,c:=c,idx:=[],pre:=a,na:=0,nt:=0,r:=λ_ _=>.ok (.ret v),outs:=λ_ _ _=>a.map (·.2),news:=λ_ _ _=>[]}
noncomputable def Ac(n:Nat):Obj:=⟨.none,none,.seq ⟨[]⟩ n,⟨[]⟩⟩
noncomputable def BP(o:Obj):Nat:=match o.data with
 | .seq _ n=>n
 |_=>0
noncomputable def Ao(o:List Obj)(i:Nat):Nat:=BP (o.getD i default)
noncomputable def Ak.at(e:Ak)(a:List Nat):Ak:={e with idx:=a}
theorem Ue(L:Ae):Bk L (L.map (·.2))++BH [] []=L:=by
 have:Bk L (L.map (·.2))=L:=by
  induction L with
  |nil=>rfl
  |cons p l a=>exact Am (p:: ·) a
 rw[this];exact BV L
theorem Os{w:Aa}{c:Code}{a:Ae}{v:Value}
  (h: ∀(A:Al) (s:Ab),A.depth≤900→A.units≤9000→A.handled=none→An (kt w) s a→ ∀R:Result→Ab→Prop,(∀b,Ag (kt w) s b a a→R (.ok (.ret v)) b)→codeAny (model pw w) A c R s):Av w (IG c a v):=by
 intro A e g i s S _;refine h A s e g i S _ λb d=>⟨[],[],[],rfl,rfl,rfl,rfl,?_,d.toks⟩
 refine (?_:Ag (kt w) s b a (Bk a (a.map (·.2))++BH [] []));rw[Ue];exact d
theorem Qf{w:Aa}{A:Al}{s:Ab}{R:Result→Ab→Prop}{T:String}{i:Str}{d:String}{B:Builtin}{a:Value}{b:List Value}{S:PySem.Spec}(c:Slot T i d)(k:s.TypeIs a T)
  (e:entryFor table d=some B) (j:argsOk d ⟨a::b,[]⟩) (g:Meets (B ⟨a::b,[]⟩) S) (h:S A R s):codeAny (model pw w) A (.call (.builtin d) ⟨a::b,[]⟩) R s:=
 DT c.plain e (c.check _ _ _ _ _ _ _ _ k j (g pw w A R s h))
theorem Qg:LR= .type "list":=by
 refine (?_:Value.type s9222952809800978799x4=_);rw[←e9222952809800978799x4]
noncomputable def Qh(k:Int):Value→Bool
 | .int a _=>a==k
 |_=>false
noncomputable def Kp(g:Addr)(a:List Value)(n:Nat)(k:Int)(t:Nat)(b:Bool):Ak:=IG (.call (.builtin TU) ⟨[.ref g,.int k t],[]⟩) [(g,li a n)] (.bool b)
theorem BW(a:List Value)(n:Nat):li a n={cls:=.type "list",dict:=none,data:=.seq ⟨a⟩ n,slots:= #[]}:=by
 refine (?_:Obj.mk LR none _ _=_);rw[Qg]
theorem qS{k:Int}: ∀{b:List Value} {a:List Int},AX b a→b.any (Qh k)=decide (k∈a):=by
 intro b a h
 induction h with
 |nil=>rfl
 | @cons n t g a _ c=>
  rw[List.any_cons,c];show(n==k||decide (k∈a))=decide (k∈n::a)
  by_cases e:n=k
  ·subst e;(first|((repeat(first|exact .head _|apply List.mem_cons_of_mem));done)|simp)
  ·have d:k≠n:=λx=>e x.symm
   simp[e,d]
theorem Qi: ∀{c:List Value} {d:List Int},AX c d→ ∀y∈c,B5 λa t=>y= .int a t:=by
 intro c d h
 induction h with
 |nil=>intro y b;cases b
 | @cons n t g d _ e=>
  intro y b;rcases List.mem_cons.mp b with rfl|b
  ·exact⟨_,_,rfl⟩
  ·exact e y b
theorem Mb{w:Aa}{g:Addr}{c:List Value}{n:Nat}{k:Int}{t:Nat}{b:Bool}{i:List Int}(h:AX c i)(j:decide (k∈i)=b):Av w (Kp g c n k t b):=by
 refine Os λA s _ _ _ S R l=> ?_;have d:=S.mem _ Bj;dsimp only at d;rw[BW]at d;rw[yV];refine Qf F.slot_list_contains (T:="list") ⟨_,d,rfl⟩ F.entry_list_contains (F.args_list_contains_2 _ _) (MeetsSeq.list_contains g ⟨c⟩ n (.int k t) (Qh k) (λy m=> ?_)) ⟨d,?_⟩
 ·obtain⟨a,u,rfl⟩:=Qi h y (by simpa using m)
  exact MeetsSeq.EqGives.int a k u t
 ·have e:(⟨c⟩:Array Value).any (Qh k)=b:=by
   rw[←j,←qS h,←Array.any_toList]
  rw[e];exact l s (.refl S)
noncomputable def II(c:Code)(b:Ae)(a:List Obj)(v:Value):Ak:={d:=900,u:=9000,h:=none,c:=c,idx:=[],pre:=b,na:=0,nt:=0,r:=λ_ _=>.ok (.ret v),outs:=λ_ _ _=>a,news:=λ_ _ _=>[]}
theorem Kq{w:Aa}{c:Code}{a:Ae}{b:List Obj}{v:Value}
  (h: ∀(A:Al) (s:Ab),A.depth≤900→A.units≤9000→A.handled=none→An (kt w) s a→ ∀R:Result→Ab→Prop,(∀d,Ag (kt w) s d a (Bk a b)→R (.ok (.ret v)) d)→codeAny (model pw w) A c R s):Av w (II c a b v):=by
 intro A g i j s S _;refine h A s g i j S _ λd e=>⟨[],[],[],rfl,rfl,rfl,rfl,?_,e.toks⟩
 refine (?_:Ag (kt w) s d a (Bk a b++[]));rw[BV];exact e
noncomputable def CQ(a:Addr)(b:List Value)(n:Nat)(x:Value):Ak:=II (.call (.builtin TV) ⟨[.ref a,x],[]⟩) [(a,li b n)] [li (b++[x]) (n+1)] .none
theorem EN{w:Aa}{a:Addr}{b:List Value}{n:Nat}{x:Value}(g:b.length≤1000):Av w (CQ a b n x):=by
 refine Kq λA s _ _ _ S R h=> ?_;have c:=S.mem _ Bj;have d:=S.set (i:=0) rfl (f:=Obj.mapSeq (·.push x)) (p:=(a,li b n)) rfl;have e:Obj.mapSeq (·.push x) (li b n)=li (b++[x]) (n+1):=by
  simp[Obj.mapSeq]
 dsimp only at c d;rw[e]at d;rw[BW]at c;rw[yW];refine DT slot_list_append.plain entry_list_append (slot_list_append.check _ _ _ _ _ _ _ _ ⟨_,c,rfl⟩ (args_list_append _ _) ?_);refine (?_:wpAny _ _ (updateSeq a (·.push x)>>=λ_=>ret .none) _ _ s);refine Af (wpAny_updateSeq c rfl (Aq (h _ d)) ?_ ?_)
 ·refine (?_:b.length≤_)
  exact Ay g (by decide)
 ·have:((⟨b⟩:Array Value).push x).size=b.length+1:=by (first|((repeat(first|exact .head _|apply List.mem_cons_of_mem));done)|simp)
  show((⟨b⟩:Array Value).push x).size≤_;rw[this];exact Ay (Eu g) (by decide)
noncomputable def AE:List (Nat×List Nat)→List (List Nat→List Nat→List Obj→Ak)→List (Nat×(List Nat→List Nat→List Obj→Ak))
 |c::a,e::b=>(c.1,λd g h=>(e d g h).at c.2)::AE a b
 |_,_=>[]
noncomputable def Bh:List Nat→List (List Nat→List Nat→List Obj→Value×Value)→List Wd
 |c::a,e::b=>(c,e)::Bh a b
 |_,_=>[]
noncomputable def DD(w:Aa)(a:List (List Nat→List Nat→List Obj→Ak)):Prop:= ∀e∈a,∀b c d,Av w (e b c d)
theorem AC{w:Aa}:DD w []:=λ_ h=>(nomatch h)
theorem Ah{w:Aa}{e:List Nat→List Nat→List Obj→Ak}{b:List (List Nat→List Nat→List Obj→Ak)}(h: ∀c d g,Av w (e c d g))(t:DD w b):DD w (e::b):=λf a=>by
 rcases List.mem_cons.mp a with rfl|a
 ·exact h
 ·exact t f a
theorem HD{w:Aa}{a b:List (List Nat→List Nat→List Obj→Ak)}(c:DD w a)(d:DD w b):DD w (a++b):=λe g=>(List.mem_append.mp g).elim (c e) (d e)
theorem AD{w:Aa}: ∀(d:List (Nat×List Nat)) (a:List (List Nat→List Nat→List Obj→Ak)),DD w a→ ∀q∈AE d a,∀g i j,Av w (q.2 g i j):=by
 intro d
 induction d with
 |nil=>intro a _ q b;cases a <;> cases b
 |cons c d k=>
  intro a h q b g i j;cases a with
  |nil=>cases b
  |cons e a=>
   rcases List.mem_cons.mp b with rfl|b
   ·exact h e Bj g i j
   ·exact k a (λf l=>h f (BB _ l)) q b g i j
noncomputable def E8(d:List (List Nat→List Nat→List Obj→Value×Value)):Prop:= ∀e∈d,∀a b c,(e a b c).1=(e a b c).2
theorem Bp:E8 []:=λ_ h=>(nomatch h)
theorem Az{e:List Nat→List Nat→List Obj→Value×Value}{b:List (List Nat→List Nat→List Obj→Value×Value)}(h: ∀c d g,(e c d g).1=(e c d g).2)(t:E8 b):E8 (e::b):=λf a=>by
 rcases List.mem_cons.mp a with rfl|a
 ·exact h
 ·exact t f a
theorem Bi: ∀(j:List Nat) (a:List (List Nat→List Nat→List Obj→Value×Value)),E8 a→ ∀q∈Bh j a,∀d g i,(q.2 d g i).1=(q.2 d g i).2:=by
 intro j
 induction j with
 |nil=>intro a _ q b;cases a <;> cases b
 |cons c j k=>
  intro a h q b d g i;cases a with
  |nil=>cases b
  |cons e a=>
   rcases List.mem_cons.mp b with rfl|b
   ·exact h e Bj d g i
   ·exact k a (λf l=>h f (BB _ l)) q b d g i
set_option maxHeartbeats 400000
section
theorem qT(w:Aa):(kt w).get 1=some (tw17094700465226760127 w.2):=by kernel_rfl
theorem Ot{w:Aa}{s:Ab}{L:Ae}(S:An (kt w) s L){p:Addr×Obj}(a:p∈L):(p.1==sysModules)=false:=by
 have h:=S.apart p a 1 _ (qT w);exact beq_eq_false_iff_ne.mpr λe=>h e.symm
theorem qU:P3= .type "dict":=by
 refine (?_:Value.type s14018661285674007319x4=_);rw[←e14018661285674007319x4]
theorem qV(es:List DictEntry)(n:Nat):di es n={cls:=.type "dict",dict:=none,data:=.dict ⟨es⟩ n,slots:= #[]}:=by
 refine (?_:Obj.mk P3 none _ _=_);rw[qU]
theorem Qj{w:Aa}{A:Al}{s:Ab}{R:Result→Ab→Prop}{T:String}{j:Str}{e:String}{B:Builtin}{a:Value}{b:List Value}{S:PySem.Spec}(c:Slot T j e)(m:s.TypeIs a T)
  (i:entryFor table e=some B) (l:argsOk e ⟨a::b,[]⟩) (g:MeetsIn pw w (B ⟨a::b,[]⟩) S) (h:S A R s):codeAny (model pw w) A (.call (.builtin e) ⟨a::b,[]⟩) R s:=
 DT c.plain i (c.check _ _ _ _ _ _ _ _ m l (g A R s h))
section
variable {w:Aa}{K:Type}[DecidableEq K](knd:KeyKind pw w K){k:K}{d:Addr}{es:List DictEntry}{n:Nat}{key dflt v:Value}
theorem JD{s:Ab}(a:s.heap.get? d=some (di es n))(b:KeysOf knd ⟨es⟩):s.heap.MapOf knd d (findBy knd.is ⟨es⟩):=by
 rw[qV]at a;exact⟨_,_,_,a,⟨rfl,rfl,rfl⟩,rfl,b,λ_=>rfl⟩
noncomputable def FK(d:Addr)(es:List DictEntry)(n:Nat)(key dflt v:Value):Ak:=IG (.call (.builtin JB) ⟨[.ref d,key,dflt],[]⟩) [(d,di es n)] v
theorem Kr(a:knd.is k key=true)(c:KeysOf knd ⟨es⟩)(e:(findBy knd.is ⟨es⟩ k).getD dflt=v):Av w (FK d es n key dflt v):=by
 refine Os λA s _ _ _ S R g=> ?_;have h:=S.mem _ Bj;have b:=JD knd h c;rw[TY];refine Qj F.slot_dict_get b.typeIs F.entry_dict_get (F.args_dict_get_3 _ _ _) (meets_dict_get_default knd d a (Ot S Bj) dflt) ⟨_,b,?_⟩;rw[e];exact g _ S.tok
theorem Uf{s:Ab}(S:An (kt w) s [(d,di es n)])(e:DictEntry):Ag (kt w) s {s with heap:=s.heap.update d (Obj.mapDictKeys (·.push e)),toks:=s.toks+1} [(d,di es n)] [(d,di (es++[e]) (n+1))]:=by
 have a:=S.tok.sat.set (i:=0) rfl (f:=Obj.mapDictKeys (·.push e)) (p:=(d,di es n)) rfl;have b:Obj.mapDictKeys (·.push e) (di es n)=di (es++[e]) (n+1):=by
  simp[Obj.mapDictKeys]
 dsimp only at a;rw[b]at a;exact S.tok.trans a
theorem Ug(h:findBy knd.is ⟨es⟩ k=none):(⟨es⟩:Array DictEntry).findIdx? (λe=>knd.is k e.key)=none:=by
 rw[findBy_of_findIdx?]at h;cases a:(⟨es⟩:Array DictEntry).findIdx? (λe=>knd.is k e.key)with
 |none=>rfl
 |some i=>
  rw[a]at h;dsimp only at h;obtain⟨b,_⟩:=Array.findIdx?_eq_some_iff_findIdx_eq.mp a;rw[Py b]at h;cases h
noncomputable def Ou(d:Addr)(es:List DictEntry)(n:Nat)(h:Int)(key dflt:Value):Ak:=II (.call (.builtin T3) ⟨[.ref d,key,dflt],[]⟩) [(d,di es n)] [di (es++[⟨h,key,dflt⟩]) (n+1)] dflt
theorem qW{h:Int}(b:knd.is k key=true)(j:h=knd.hash k)(g:KeysOf knd ⟨es⟩)(l:findBy knd.is ⟨es⟩ k=none)(hz:es.length≤1000):Av w (Ou d es n h key dflt):=by
 subst j;refine Kq λA s _ _ _ S R m=> ?_;have a:=S.mem _ Bj;have o:=JD knd a g;have i:es.length≤sizeLine:=Ay hz (by decide);rw[yZ];refine Qj F.slot_dict_setdefault o.typeIs F.entry_dict_setdefault (F.args_dict_setdefault_3 _ _ _) (S:=λ_ R s=>s.heap.get? d=some (di es n)∧(∀c,c={s with heap:=s.heap.update d (Obj.mapDictKeys (·.push ⟨knd.hash k,key,dflt⟩)),toks:=s.toks+1}→R (.ok (.ret dflt)) c)) (.of_wp λA R s hz=> ?_) ⟨a,λc e=>m c (e▸Uf S _)⟩;obtain⟨a,h⟩:=hz;unfold Builtin.«dict.setdefault»;refine Af ?_;unfold Builtin.Dict.keyAndDefault;refine Af (wpAny_notOrdered_dict (JD knd a g).typeIs ?_);refine (?_:wpAny _ _ (pure (d,key,some dflt)) _ _ s);refine Aq ?_;refine (?_:wpAny _ _ (if(d==sysModules)=true then _ else(dictSetDefault d key dflt>>=_)) _ _ s);rw[AH (by rw[Ot S Bj];exact Fm)];unfold dictSetDefault;refine Af (Di ?_);refine Af (knd.pyHash b ?_);refine Af (wpAny_dictFind_of (s:={s with toks:=s.toks+1}) b a rfl g ?_);rw[Ug knd l];exact Af (FH (Af (wpAny_updateDictKeys (hz:=i) (s:={s with toks:=s.toks+1}) a rfl (Aq (Aq ⟨dflt,rfl,h _ rfl⟩)))))
noncomputable def GQ(d:Addr)(es:List DictEntry)(n:Nat)(h:Int)(key v:Value):Ak:=II (.call (.builtin TZ) ⟨[.ref d,key,v],[]⟩) [(d,di es n)] [di (es++[⟨h,key,v⟩]) (n+1)] .none
theorem Ov{h:Int}(b:knd.is k key=true)(j:h=knd.hash k)(g:KeysOf knd ⟨es⟩)(l:findBy knd.is ⟨es⟩ k=none)(hz:es.length≤1000):Av w (GQ d es n h key v):=by
 subst j;refine Kq λA s _ _ _ S R m=> ?_;have a:=S.mem _ Bj;have o:=JD knd a g;have i:es.length≤sizeLine:=Ay hz (by decide);rw[yX];refine Qj F.slot_dict_setitem o.typeIs F.entry_dict_setitem (F.args_dict_setitem_3 _ _ _) (S:=λ_ R s=>s.heap.get? d=some (di es n)∧(∀c,c={s with heap:=s.heap.update d (Obj.mapDictKeys (·.push ⟨knd.hash k,key,v⟩)),toks:=s.toks+1}→R (.ok (.ret .none)) c)) (.of_wp λA R s hz=> ?_) ⟨a,λc e=>m c (e▸Uf S _)⟩;obtain⟨a,h⟩:=hz;refine (?_:wpAny _ _ (Builtin.Dict.notOrdered "__setitem__" ⟨[.ref d,key,v],[]⟩>>=_) _ _ s);refine Af (wpAny_notOrdered_dict (JD knd a g).typeIs ?_);refine (?_:wpAny _ _ (dictSet d key v>>=_) _ _ s);unfold dictSet;refine Af (Di ?_);refine Af (knd.pyHash b ?_);unfold dictSetHashed;refine Di ?_;refine Af (wpAny_dictFind_of (s:={s with toks:=s.toks+1}) b a rfl g ?_);rw[Ug knd l];exact Af (FH (wpAny_updateDictKeys (hz:=i) (s:={s with toks:=s.toks+1}) a rfl (Aq ⟨.none,rfl,h _ rfl⟩)))
end
end
theorem Uh:Ey= .type "str_ascii_iterator":=by
 refine (?_:Value.type s13500813778147066322x18=_);rw[←e13500813778147066322x18]
theorem Qk:Gf= .type "enumerate":=by
 refine (?_:Value.type s14340494229221121180x9=_);rw[←e14340494229221121180x9]
noncomputable abbrev Ql:String:=s7696299940892295456x17
theorem qX:Ql="enumerate.__new__":=e7696299940892295456x17.symm
noncomputable def Qm(x:Str)(t:Nat):Ak:=
 {d:=900,u:=9000,h:=none,c:=.call (.builtin Ql) ⟨[Gf,.str x t],[]⟩,idx:=[],pre:=[],na:=2,nt:=0,
  r:=λa _=>.ok (.ret (.ref (a.getD 1 0))),outs:=λ_ _ _=>[],
  news:=λa _ _=>[fi Ey [.str x t,.int 0 0],fi Gf [.none,.bool false,.ref (a.getD 0 0),.int 0 0,.none,.none]]}
theorem GR{w:Aa}{e:Ak}(h: ∀(A:Al) (s:Ab),A.depth≤e.d→A.units≤e.u→A.handled=e.h→An (kt w) s e.pre→ ∀R:Result→Ab→Prop,
  (∀b a t o,a.length=e.na→t.length=e.nt→o.length=e.no→Ag (kt w) s b e.pre (Bk e.pre (e.outs a t o)++BH a (e.news a t o))→AY s.toks b.toks t→R (e.rx o (e.r a t)) b)→codeAny (model pw w) A e.c R s)(c:e.gn=none:=by rfl):Av w e:=λA d g i s S _=>
 h A s d g i S _ λ_ a t o j k l m n=>⟨a,t,o,j,k,l,rfl,by rw[c];exact m,n⟩
theorem Ui{w:Aa}{x:Str}{t:Nat}(c:x.cps.all (· <128)=true):Av w (Qm x t):=by
 refine GR λA s j k l S R d=> ?_;refine (?_:codeAny _ _ (.call (.builtin Ql) ⟨[Gf,.str x t],[]⟩) _ s);rw[qX,Qk];refine DT (by decide+kernel) F.entry_enumerate_new ?_;rw[F.newCall_enumerate_1];refine Aq (meets_enumerate_newS x t pw w A _ s ?_);have e:strIterType x="str_ascii_iterator":=by simp only[strIterType,c,if_true]
 rw[e];have a:=S.push (o:=fi Ey [.str x t,.int 0 0]) rfl;have b:=a.sat.push (o:=fi Gf [.none,.bool false,.ref s.heap.objs.size,.int 0 0,.none,.none]) rfl;have g:=a.trans b;have h:(fi Ey [.str x t,.int 0 0]:Obj)={cls:=.type "str_ascii_iterator",data:=.fields #[.str x t,.int 0 0]}:=by
  refine (?_:Obj.mk Ey none _ _=_);rw[Uh]
 have i:(fi Gf [.none,.bool false,.ref s.heap.objs.size,.int 0 0,.none,.none]:Obj)={cls:=.type "enumerate",data:=.fields #[.none,.bool false,.ref s.heap.objs.size,rawInt 0,.none,.none]}:=by
  refine (?_:Obj.mk Gf none _ _=_);rw[Qk];rfl
 dsimp only;rw[←h,←i];exact d _ [s.heap.objs.size,(s.heap.push (fi Ey [.str x t,.int 0 0])).objs.size] [] [] rfl rfl rfl g (A7 _)
noncomputable def Ow(x:Str)(t:Nat):Ak:=
 {d:=900,u:=9000,h:=none,c:=.call (.builtin Qb) ⟨[.str x t],[]⟩,idx:=[],pre:=[],na:=1,nt:=0,
  r:=λa _=>.ok (.ret (.ref (a.getD 0 0))),outs:=λ_ _ _=>[],news:=λa _ _=>[fi Ey [.str x t,.int 0 0]]}
theorem Qn{w:Aa}{x:Str}{t:Nat}(c:x.cps.all (· <128)=true):Av w (Ow x t):=by
 refine GR λA s e g h S R d=> ?_;refine (?_:codeAny _ _ (.call (.builtin Qb) ⟨[.str x t],[]⟩) _ s);rw[qG];refine DT F.slot_str_iter.plain F.entry_str_iter (F.slot_str_iter.check _ _ _ _ _ _ _ _ (typeIs_str s x t) (F.args_str_iter_1 _) ?_);refine (?_:wpAny _ _ (do ret (←newFields (if(true&&x.cps.all (· <128))=true then "str_ascii_iterator" else "str_iterator") [.str x t,rawInt 0])) _ _ s);rw[c];have a:=S.push (o:=fi Ey [.str x t,.int 0 0]) rfl;have b:(fi Ey [.str x t,.int 0 0]:Obj)={cls:=.type "str_ascii_iterator",data:=.fields #[.str x t,.int 0 0]}:=by
  refine (?_:Obj.mk Ey none _ _=_);rw[Uh]
 rw[b]at a;refine Af (wpAny_newObj_type (Aq (d _ [s.heap.objs.size] [] [] rfl rfl rfl ?_ (A7 _))));refine (?_:Ag (kt w) s _ [] [(s.heap.objs.size,fi Ey [.str x t,.int 0 0])]);rw[b];exact a
noncomputable def Bg(P:Aj)(l:List (Str×Nat×Value)):List DictEntry:=l.map λx=>Ap P x.1 x.2.1 x.2.2
theorem GT(w:Aa)(l:List (Str×Nat×Value)):KeysOf (strKind pw w) ⟨Bg w.2 l⟩:=by
 intro e a;have a:e∈Bg w.2 l:=by simpa using a
 obtain⟨x,b,rfl⟩:=List.mem_map.mp a;refine⟨x.1,?_,rfl⟩;refine (?_:Value.isStrOf x.1 (.str x.1 x.2.1)=true);simp[Value.isStrOf]
noncomputable def E9(k:Str):List (Str×Nat×Value)→Option Value
 |[]=>none
 |x::l=>if x.1=k then some x.2.2 else E9 k l
theorem GU(w:Aa)(k:Str): ∀(l:List (Str×Nat×Value)),findBy (strKind pw w).is ⟨Bg w.2 l⟩ k=E9 k l:=by
 intro l
 induction l with
 |nil=>rfl
 |cons x l b=>
  unfold findBy at*;refine (?_:Option.map _ (Array.find? _ ⟨Ad w x.1 x.2.1 x.2.2::Bg w.2 l⟩)=if x.1=k then some x.2.2 else E9 k l)
  have e: ∀(y:DictEntry) (a:List DictEntry) (p:DictEntry→Bool),(⟨y::a⟩:Array DictEntry).find? p=if p y=true then some y else(⟨a⟩:Array DictEntry).find? p:=by
   intro y a p;rw[←Array.find?_toList,←Array.find?_toList];refine (?_:List.find? p (y::a)=_);rw[List.find?_cons];cases p y <;> (first|((repeat(first|exact .head _|apply List.mem_cons_of_mem));done)|simp)
  rw[e]
  by_cases h:x.1=k
  ·rw[AS (by refine (?_:Value.isStrOf k (.str x.1 x.2.1)=true);simp[Value.isStrOf,h]),AS h];rfl
  ·rw[AH (by show¬Value.isStrOf k (.str x.1 x.2.1)=true;simp[Value.isStrOf,h]),AH h];exact b
theorem GV(w:Aa)(k:Str)(t:Nat):(strKind pw w).is k (.str k t)=true:=by
 refine (?_:Value.isStrOf k (.str k t)=true);simp[Value.isStrOf]
theorem Qo(P:Aj)(l:List (Str×Nat×Value))(k:Str)(t:Nat)(v:Value):Bg P l++[⟨PyData.keyHash P k,.str k t,v⟩]=Bg P (l++[(k,t,v)]):=by
 simp[Bg]
noncomputable abbrev IK:Value:=(.bool true)
noncomputable abbrev AT(P:Aj)(q:Nat→Nat)(a b c d:Value)(e g h:Nat):Obj:=
 di [Ap P TP (q 0) .none,Ap P Co (q 1) a,Ap P LU (q 2) b,Ap P TH (q 3) IK,Ap P P6 (q 4) c,Ap P TS (q 5) .none,Ap P Oh (q 6) d,Ap P Oe (q 7) (.ref e),Ap P TK (q 8) (.ref g),Ap P TN (q 9) (.ref h)] 10
noncomputable abbrev mO(d:Nat):Obj:=⟨.ref 270,some d,.plain,⟨[]⟩⟩
noncomputable abbrev CD(P:Aj):Obj:=⟨xN,none,.set ⟨[]⟩ 0 {mask:=7,place:=⟨[]⟩,dummies:=⟨[]⟩,finger:=0,led:= !P.followText "set-order",moves:=0,plain:=true},⟨[]⟩⟩
noncomputable def Uj(w:Aa):Code×Ae:=(.call (.ref 270) ⟨[],[]⟩,[])
noncomputable def qY(w:Aa):List (List Nat→List Nat→List Obj→Ak):=[λa b c=>Qm ⟨⟨[]⟩⟩ 540]
theorem qZ(w:Aa):AI w 950 (Uj w).1 (Uj w).2 [0,0,0,0,0,0,0,0,0,0,0,0,0,0,0,0,0,0,0,0,0,2,0,2,0,0,0,0,0,0,0,0,3,3,0,3,3,0,3,3,0,3,3,0,3,3,0,1,3,3,2,0,0,0,2,0,2,0,2,0,0,0,2,0,0,1,1,1,3,2,0,0,0,2,0,2,0,2,0,0,0,2,0,0,1,1,1,3,2,0,0,0,2,0,2,0,2,0,0,0,2,0,0,1,1,1,3,3,2,0,0,0,2,0,2,0,2,0,0,0,2,0,0,1,1,1,3,2,0,0,0,2,0,0,0,2,0,0,0,0,2,1,3,3,0,0,0,0,4,4,0,4,4,0,4,4,0,1,4,2,0,0,0,2,0,0,0,2,0,0,0,0,2,1,4,0,0,0,0,5,5,0,5,5,0,1,5,5,2,0,0,0,2,0,0,0,2,2,0,1,5,5,2,0,0,0,2,0,2,0,2,0,0,0,2,0,0,1,1,1,5,2,0,0,0,2,0,2,0,2,0,0,0,2,0,0,1,1,1,5,2,0,0,0,2,0,2,0,2,0,0,0,2,0,0,1,1,1,4,2,0,0,0,2,0,0,0,2,0,0,0,0,2,1,4,0,0,0,0,6,6,0,6,6,0,1,6,6,2,0,0,0,2,0,0,0,2,2,0,1,6,6,2,0,0,0,2,0,2,0,2,0,0,0,2,0,0,1,1,1,6,2,0,0,0,2,0,2,0,2,0,0,0,2,0,0,1,1,1,6,2,0,0,0,2,0,2,0,2,0,0,0,2,0,0,1,1,1,6,2,0,0,0,2,0,2,0,2,0,0,0,2,0,0,1,1,1,6,2,0,0,0,2,0,0,0,2,0,0,0,0,2,1,0,0,0,0,7,7,0,1,7,2,0,0,0,2,0,0,0,2,2,0,1,0,7,7,7,2,0,0,0,2,0,2,0,2,0,0,0,2,0,0,1,1,1,0,7,7,0,0,7,10,10,10,10,10,10,1,10,10,10,10,10,9,9,9,9,9,9,12,0,0,0,13,13,13,13,13,13,7,2,0,0,0,2,0,2,0,2,0,0,0,2,0,0,1,1,1,0,7,7,7,2,0,0,0,2,0,0,0,2,2,0,1,0,7,7,7,0,0,0,14,14,14,14,14,14,7,2,0,0,0,2,0,2,0,2,0,0,0,2,0,0,1,1,1,0,7,7,0,0,7,0,7,7,7,2,0,0,0,2,0,0,0,2,2,0,1,7,1] (AE [(22,[])] (qY w)) [] 5 520 3000 [1,0,7,12,13]
  (λa b c=>.done (.ret (.ref (a 1))))
  (λa b c=>[(a 1,mO (a 0)),(a 0,AT w.2 (λi=>([b 7,b 9,b 11,b 13,b 25,b 27,b 39,b 44,b 47,b 52]:List Nat).getD i 0) (.str ⟨⟨[]⟩⟩ 539) (.str ⟨⟨[]⟩⟩ 540) .none .none (a 7) (a 12) (a 13)),(a 7,di [] 0),(a 12,CD w.2),(a 13,CD w.2)]) 59:=by
 kernel_rfl
section
noncomputable def sf(c:Nat→Nat):Str:=⟨⟨[c 0,c 1,c 2,c 3,c 4,c 5,c 6,c 7]⟩⟩
noncomputable def c1(x:Nat):Str:=⟨⟨[x]⟩⟩
noncomputable def BS(s:Stmt)(it:Nat)(a:Env):Code:=.forLoop (A9 (Kh s) 0) (.ref it) (AN s) (Dt s) a
noncomputable def tk(a:List Nat)(i:Nat):Nat:=a.getD i 0
noncomputable abbrev GW(f:Nat):Env:={scope:=EH (EK 6 11),locals:=f,globals:=3,cells:=[],qual:=⟨⟨[83,101,113,117,101,110,99,101,77,97,116,99,104,101,114,46,113,117,105,99,107,95,114,97,116,105,111,46,60,108,111,99,97,108,115,62,46]⟩⟩,func:=some 260,code:=.ref 259,frame:=some f,builtins:=0}
noncomputable abbrev Mc:Stmt:=AB (AN (AB (AN (EK 6 11)) 1)) 1
noncomputable abbrev Md:Stmt:=AB (AN (EK 6 11)) 5
noncomputable abbrev Ox(a:Nat):=fi Jz [.builtin HC,.ref a]
noncomputable def Uk(a d:Nat)(es:List DictEntry)(n:Nat)(x:Str)(t:Nat)(b:Bool):Ak:=
 IG (.call (.ref a) ⟨[.str x t],[]⟩) [(a,Ox d),(d,di es n)] (.bool b)
noncomputable abbrev Dx(c:Nat→Nat)(u:Nat)(i:Int):Obj:=fi Ey [.str (sf c) u,.int i 0]
noncomputable def Oy(it:Nat)(c:Nat→Nat)(u:Nat)(i:Nat):Ak:=
 {d:=900,u:=9000,h:=none,c:=.call (.builtin T7) ⟨[.ref it],[]⟩,idx:=[],pre:=[(it,Dx c u i)],na:=0,nt:=1,
  r:=λ_ t=>.ok (.ret (.str (c1 (c i)) (t.getD 0 0))),outs:=λ_ _ _=>[Dx c u (i+1:Nat)],news:=λ_ _ _=>[]}
theorem wA(w:Aa)(b a:Nat)(es:List DictEntry)(n:Nat)(x:Str)(t:Nat):
  AI w 10 (.call (.ref b) ⟨[.str x t],[]⟩) ([(b,Ox a),(a,di es n)]) [1,2,2,2] [] [] 0 900 9000 [0,1]
   (λd e g=>.again (.builtin HC ⟨[.ref a,.str x t],[]⟩)) (λd e g=>[(b,fi Jz [.builtin HC,.ref a]),(a,di es n)]) 0:=by
 kernel_rfl
noncomputable abbrev Ft(a:Nat→Nat)(b c:Nat):Value:=(.str (c1 (a b)) c)
theorem wB(w:Aa)(it:Nat)(c:Nat→Nat)(u i:Nat)(e:i<8):
  AI w 13 (.call (.builtin T7) ⟨[.ref it],[]⟩) ([(it,Dx c u i)]) [1,1,1,1,1] [] [] 1 900 9000 [0]
   (λb a d=>.done (.ret (Ft c i (a 0)))) (λb a d=>[(it,Dx c u (i+1:Nat))]) 1:=by
 revert i;exact GN 8 (by kernel_rfl)
section
variable (P:Aj)(c:Nat→Nat)(t1 t2 m fd:Nat)(v:Bool)(x t3 tx:Nat)
noncomputable abbrev JE:Obj:=fr ([Ap P HA t1 (.ref m),Ap P Oh t2 (.ref fd)]++cond v [Ap P Og t3 (.str (c1 x) tx)] []) (cond v 3 2)
end
section
variable (w:Aa)(f it fd m n i:Nat)(c:Nat→Nat)(u t1 t2:Nat)(v:Bool)(x t3 tx:Nat)(es:List DictEntry)
noncomputable abbrev Bu(a:Nat):Value:=(.int 0 a)
noncomputable abbrev Dk(a:Nat):Value:=(.int 1 a)
noncomputable def wC:List (List Nat→List Nat→List Obj→Ak):=[λb a d=>Oy it c u i,λb a d=>FK fd es n (Ft c i (tk a 0)) (Bu (tk a 2)) (Bu (tk a 2)),λb a d=>GQ fd es n (PyData.keyHash w.2 (c1 (c i))) (Ft c i (tk a 0)) (Dk (tk a 4))]
theorem wD:AI w 45 (BS Mc it (GW f)) [(f,JE w.2 t1 t2 m fd v x t3 tx),(it,Dx c u i),(fd,di es n)] (dg 4 408419679) (AE [(0,[1]),(0,[2]),(1,[2])] (wC w it fd n i c u es)) [] 0 620 4000 [0,1,2]
   (λb a d=>.again (BS Mc it (GW f))) (λb a d=>[(f,JE w.2 t1 t2 m fd true (c i) (cond v t3 (a 1)) (a 0)),(it,Dx c u (i+1:Nat)),(fd,di (es++[⟨PyData.keyHash w.2 (c1 (c i)),.str (c1 (c i)) (a 0),.int 1 (a 4)⟩]) (n+1))]) 5:=by
 revert v;exact Ek (by kernel_rfl)
end
theorem wE(w:Aa)(f it:Nat)(c:Nat→Nat)(u:Nat)(o:Obj):
  AI w 23 (BS Mc it (GW f)) ([(f,o),(it,Dx c u 8)]) [2,2,2,2,2,2,4] [] [] 1 620 4000 [0,1]
   (λa b d=>.done .next) (λa b d=>[(f,o),(it,fi Ey [.none,.int 8 0])]) 0:=by
 kernel_rfl
theorem wF(w:Aa)(f it:Nat)(c:Nat→Nat)(u:Nat)(o:Obj):
  AI w 23 (BS Md it (GW f)) ([(f,o),(it,Dx c u 8)]) [2,2,2,2,2,2,4] [] [] 1 620 4000 [0,1]
   (λa b d=>.done .next) (λa b d=>[(f,o),(it,fi Ey [.none,.int 8 0])]) 0:=by
 kernel_rfl
structure QC where
 t1:Nat
 t2:Nat
 t3:Nat
 t4:Nat
 t5:Nat
 m:Nat
 fd:Nat
 av:Nat
 ah:Nat
structure QS where
 x:Nat
 t6:Nat
 tx:Nat
 t:Nat
 t7:Nat
 y:Nat
 ty:Nat
section
variable (P:Aj)(Q:QC)(ab v:Bool)(k:Int)(S:QS)
noncomputable def JF:Obj:=fr ([Ap P HA Q.t1 (.ref Q.m),Ap P Oh Q.t2 (.ref Q.fd)]++cond ab [Ap P Og S.t6 (.str (c1 S.x) S.tx)] []++[Ap P xT Q.t3 (.ref Q.av),Ap P Hz Q.t4 (.int k S.t),Ap P xU Q.t5 (.ref Q.ah)]++cond v (cond ab [] [Ap P Og S.t6 (.str (c1 S.x) S.tx)]++[Ap P yL S.t7 (.int S.y S.ty)]) []) (cond v 7 (cond ab 6 5))
end
section
variable (w:Aa)(f it n1 n2 i:Nat)(c:Nat→Nat)(u tv:Nat)(es1 es2:List DictEntry)(Q:QC)(ab v h:Bool)(k:Int)(S:QS)
noncomputable def wG:List (List Nat→List Nat→List Obj→Ak):=[λb a d=>Oy it c u i,λb a d=>Uk Q.ah Q.av es2 n2 (c1 (c i)) (tk a 0) false,λb a d=>FK Q.fd es1 n1 (Ft c i (tk a 0)) (Bu (tk a 2)) (cond h (.int 1 tv) (Bu (tk a 2))),λb a d=>GQ Q.av es2 n2 (PyData.keyHash w.2 (c1 (c i))) (Ft c i (tk a 0)) (.int (cond h 0 (-1)) (tk a 5))]
noncomputable abbrev Oz(o:Obj):Ae:=[(f,o),(it,Dx c u i),(Q.fd,di es1 n1),(Q.av,di es2 n2),(Q.ah,fi Jz [.builtin HC,.ref Q.av])]
noncomputable def wH(b a:Nat→Nat):QS:=⟨c i,cond ab S.t6 (cond v S.t6 (a 1)),a 0,cond h (a 8) S.t,cond v S.t7 (a 3),cond h 1 0,cond h tv (a 2)⟩
theorem wI:AI w (cond h 90 74) (BS Md it (GW f)) (Oz f it n1 n2 i c u es1 es2 Q (JF w.2 Q ab v k S)) ((dg 6 0xeac8aae2dec8027)++cond h [1,0,1,1] []) (AE [(0,[1]),(0,[4,3]),(0,[2]),(1,[3])] (wG w it n1 n2 i c u tv es1 es2 Q h)) [] 0 620 4000 (.range 5)
   (λb a d=>.again (BS Md it (GW f))) (λb a d=>Oz f it n1 (n2+1) (i+1) c u es1 (es2++[⟨PyData.keyHash w.2 (c1 (c i)),.str (c1 (c i)) (a 0),.int (cond h 0 (-1)) (a 5)⟩]) Q (JF w.2 Q ab true (cond h (k+1) k) (wH i c tv ab v h S b a))) (cond h 10 7):=by
 revert ab v h;exact Ob (by kernel_rfl)
end
end
noncomputable def Lt(c:Nat→Nat):Prop:= ∀i,i<8→c i=65+i∨c i=97+i
theorem Lt.inj{c d:Nat→Nat}(h:Lt c)(g:Lt d){i j:Nat}(k:i<8)(l:j<8)(e:c i=d j):i=j:=by
 rcases h i k with a|a <;> rcases g j l with b|b <;> (first|lia|omega)
theorem Ul{x y:Nat}(h:c1 x=c1 y):x=y:=by
 have:=Am (λs:Str=>s.cps.toList) h;simpa[c1]using this
theorem Lt.ascii{c:Nat→Nat}(h:Lt c):(sf c).cps.all (· <128)=true:=by
 have k: ∀i,i<8→c i<128:=λi b=>by rcases h i b with a|a <;> (first|lia|omega)
 simp only[sf,List.all_toArray,List.all_cons,List.all_nil,Bool.and_true];simp[k 0 (by (first|lia|omega)),k 1 (by (first|lia|omega)),k 2 (by (first|lia|omega)),k 3 (by (first|lia|omega)),k 4 (by (first|lia|omega)),k 5 (by (first|lia|omega)),k 6 (by (first|lia|omega)),k 7 (by (first|lia|omega))]
noncomputable def BI(c g:Nat→Nat)(v:Nat→Value)(i:Nat):List (Str×Nat×Value):=(List.range i).map λk=>(c1 (c k),g k,v k)
noncomputable def DL{a:Type}(g:Nat→a)(i:Nat)(x:a):Nat→a:=λk=>if k=i then x else g k
theorem Qp(c g:Nat→Nat)(v:Nat→Value)(i t:Nat)(x:Value):BI c g v i++[(c1 (c i),t,x)]=BI c (DL g i t) (DL v i x) (i+1):=by
 unfold BI;rw[Kb,BC,List.map_singleton];congr 1
 ·apply DU
  intro k a;have:k≠i:=λe=>by rw[e]at a;simp at a
  simp[DL,this]
 ·simp[DL]
theorem Ks{c d g:Nat→Nat}{v:Nat→Value}(h:Lt c)(s:Lt d){i j:Nat}(t:i≤8)(u:j<8)(n: ∀k,k<i→c k≠d j):E9 (c1 (d j)) (BI c g v i)=none:=by
 induction i with
 |zero=>rfl
 |succ i a=>
  have a:=a (by (first|lia|omega)) λk w=>n k (by (first|lia|omega));have e:BI c g v (i+1)=BI c g v i++[(c1 (c i),g i,v i)]:=by
   unfold BI;rw[Kb,BC,List.map_singleton]
  have o: ∀(l:List (Str×Nat×Value)) (k:Str) (x:Str×Nat×Value),E9 k l=none→x.1≠k→E9 k (l++[x])=none:=by
   intro l
   induction l with
   |nil=>intro k x _ m;simp[E9,m]
   |cons y l a=>
    intro k x b m;unfold E9 at b
    split at b
    ·cases b
    ·rename_i r
     show(if y.1=k then some y.2.2 else E9 k (l++[x]))=none;rw[AH r];exact a k x b m
  rw[e];exact o _ _ _ a λq=>n i (by (first|lia|omega)) (Ul q)
theorem Qq{c a g:Nat→Nat}{v:Nat→Value}(h:Lt c)(d:Lt a){i j:Nat}(s:i≤8)(t:j<i)(e:c j=a j):E9 (c1 (a j)) (BI c g v i)=some (v j):=by
 have key: ∀(m n:Nat),n+m≤8→n≤j→j<n+m→E9 (c1 (a j)) ((List.range' n m).map λk=>(c1 (c k),g k,v k))=some (v j):=by
  intro m
  induction m with
  |zero=>intro n _ l o;(first|lia|omega)
  |succ m r=>
   intro n u l o;rw[NM,Eh];show(if c1 (c n)=c1 (a j)then some (v n)else E9 _ _)=_
   by_cases b:n=j
   ·subst b;rw[AS (by rw[e])]
   ·rw[AH λq=>b (h.inj d (by (first|lia|omega)) (by (first|lia|omega)) (Ul q))]
    exact r (n+1) (by (first|lia|omega)) (by (first|lia|omega)) (by (first|lia|omega))
 have:=key i 0 (by (first|lia|omega)) (by (first|lia|omega)) (by (first|lia|omega));unfold BI;rw[Hk];exact this
theorem Qr{w:Aa}{A:Al}{c:Code}{L:Ae}{j:Result→Ae→List Nat→Prop}(h: ∀(s:Ab),An (kt w) s L→ ∀R:Result→Ab→Prop,(∀r i e g,j r e g→Ag (kt w) s i L e→AY s.toks i.toks g→R r i)→codeAny (model pw w) A c R s):RunsW w A c L j:=
 λs S=>h s S _ λ_ _ e g a b d=>⟨e,g,a,b,d⟩
theorem Ag.frame{kt:KT}{s m:Ab}{L j F:Ae}(S:An kt s (L++F))(x:Ag kt s m L j):Ag kt s m (L++F) (j++F):=by
 have n: ∀p∈F,p.1<s.heap.objs.size:=λp c=>Heap.lt_size (S.mem p (BG _ c));have g:=S.nd;rw[BC,Fn]at g;have t: ∀p∈j,∀q∈F,p.1≠q.1:=by
  intro p c q d e;rcases x.new p c with⟨r,k,u⟩|h
  ·exact g.2.2 r.1 (B6 k) q.1 (B6 d) (u.trans e)
  ·exact absurd (n q d) (Nat.not_lt.mpr (e▸h))
 refine⟨⟨λp c=> ?_,?_,x.sat.old,λp c a o i=> ?_⟩,λb o l v=>x.keep b o l λp c=>v p (Dh _ c),λp c=> ?_,x.size,x.gens,x.os,x.drawn,x.toks⟩
 ·rcases List.mem_append.mp c with c|c
  ·exact x.sat.mem p c
  ·exact x.keep _ _ (S.mem p (BG _ c)) λq d e=>g.2.2 q.1 (B6 d) p.1 (B6 c) e
 ·rw[BC,Fn]
  refine⟨x.sat.nd,g.2.1,λa i b l=> ?_⟩;obtain⟨p,c,rfl⟩:=List.mem_map.mp i;obtain⟨q,d,rfl⟩:=List.mem_map.mp l;exact t p c q d
 ·rcases List.mem_append.mp c with c|c
  ·exact x.sat.apart p c a o i
  ·exact S.apart p (BG _ c) a o i
 ·rcases List.mem_append.mp c with c|c
  ·rcases x.new p c with⟨r,k,e⟩|h
   ·exact .inl ⟨r,Dh _ k,e⟩
   ·exact .inr h
  ·exact .inl ⟨p,BG _ c,rfl⟩
theorem An.left{kt:KT}{s:Ab}{L F:Ae}(S:An kt s (L++F)):An kt s L:=by
 have b:=S.nd;rw[BC,Fn]at b;exact⟨λp a=>S.mem p (Dh _ a),b.1,S.old,λp a=>S.apart p (Dh _ a)⟩
theorem Me{w:Aa}{A:Al}{c:Code}{L F:Ae}{Φ i:Result→Ae→List Nat→Prop}(h:RunsW w A c L Φ)(m: ∀r e g,Φ r e g→i r (e++F) g):RunsW w A c (L++F) i:=λs S=>
 B4 (h s S.left) (by rintro r j ⟨e,g,a,b,d⟩;exact⟨e++F,g,m r e g a,b.frame S,d⟩)
theorem Qs{w:Aa}{a:Nat}{c:Nat→Nat}{u i:Nat}(b:i<8):Av w (Oy a c u i):=by
 refine Ba.ext λA d e g=> ?_;exact Bf (wB w a c u i b) [0] g d e AR Ar λh j k=>⟨[],[],rfl,rfl,rfl,rfl,rfl⟩
theorem wJ{w:Aa}{c a n t:Nat}{l:List (Str×Nat×Value)}{x:Str}{b:Bool}(g:(E9 x l).isSome=b):Av w (Uk c a (Bg w.2 l) n x t b):=by
 refine Os λA s h i j S R d=> ?_;have r:RunsW w A (.call (.ref c) ⟨[.str x t],[]⟩) [(c,Ox a),(a,di (Bg w.2 l) n)] λr e m=>r= .ok (.ret (.bool b))∧e=[(c,Ox a),(a,di (Bg w.2 l) n)]:=by
  refine EZ (wA w c a (Bg w.2 l) n x t) [] j h i AR Ar λD E G=>Qr λs S R d=> ?_;have o:=S.mem (a,di (Bg w.2 l) n) (by (first|((repeat(first|exact .head _|apply List.mem_cons_of_mem));done)|simp));have u:=JD (strKind pw w) o (GT w l);refine (?_:codeAny _ _ (.builtin HC ⟨[.ref a,.str x t],[]⟩) _ s);rw[show HC="dict.__contains__" from qB];have v:plainId "dict.__contains__"=true:=F.slot_dict_contains.plain;refine EG F.entry_dict_contains ?_;rw[EE v];refine meets_dict_contains (strKind pw w) (k:=x) a (GV w x t) (Ot S (p:=(a,di (Bg w.2 l) n)) (by (first|((repeat(first|exact .head _|apply List.mem_cons_of_mem));done)|simp))) A _ s ⟨_,u,?_⟩;rw[GU,g];exact d _ _ _ [] ⟨rfl,rfl⟩ S.tok (Jq _)
 refine B4 (r s S) λH y hz=> ?_;obtain⟨e,m,⟨z,B⟩,C,I⟩:=hz;subst z B;exact d y C
theorem Um{P:Aj}{c g:Nat→Nat}{v:Nat→Value}{i:Nat}:(Bg P (BI c g v i)).length=i:=(BY _).trans ((BY _).trans F9)
theorem Un{w:Aa}{A:Al}(C:A.handled=none)(D:A.depth≤620)(E:A.units≤4000){f l a m u y z:Nat}{c:Nat→Nat}(n:Lt c):
  ∀(j i:Nat),i+j=8→ ∀(g h:Nat→Nat) (v:Bool) (x b d:Nat),(0<i→v=true∧x=c (i-1))→
   RunsW w A (BS Mc l (GW f)) [(f,JE w.2 y z m a v x b d),(l,Dx c u i),(a,di (Bg w.2 (BI c g (λk=>.int 1 (h k)) i)) i)]
    λr B o=>r= .ok .next∧LA λ (o1:Obj) (g h:Nat→Nat) (b d:Nat)=>B=[(f,JE w.2 y z m a true (c 7) b d),(l,o1),(a,di (Bg w.2 (BI c g (λk=>.int 1 (h k)) 8)) 8)]
 |0,i,G,g,h,v,x,b,d,H=>by
  obtain rfl:i=8:=G;obtain⟨M,N⟩:=H (Jk 7);rw[M,N];refine Me (Bf (wE w f l c u _) [] C D E AR Ar (Φ:=λr B o=>r= .ok .next∧B=[(f,JE w.2 y z m a true (c 7) b d),(l,(fi Ey [.none,.int 8 0]))]) λO s P=>⟨rfl,rfl⟩) (F:=[(a,_)]) λr B o hz=> ?_;exact⟨hz.1,_,g,h,b,d,Am (· ++[(a,_)]) hz.2⟩
 |j+1,i,G,g,h,v,x,b,d,H=>by
  have t:i<8:=by (first|lia|omega)
  have I:findBy (strKind pw w).is ⟨Bg w.2 (BI c g (λk=>.int 1 (h k)) i)⟩ (c1 (c i))=none:=by
   rw[GU];exact Ks n n (Bw t) t λk J e=>CN J (n.inj n (Dz J t) t e)
  refine EZ (wD w f l a m i i c u y z v x b d _) [] C D E (AD _ _ (Ah (λK o L=>Qs t) (Ah (λK o L=>Kr (strKind pw w) (GV w _ _) (GT w _) (by rw[I];rfl)) (Ah (λK o L=>Ov (strKind pw w) (GV w _ _) rfl (GT w _) I (by rw[Um];(first|lia|omega))) AC)))) Ar λO s P=> ?_;have e:Bg w.2 (BI c g (λk=>.int 1 (h k)) i)++[⟨PyData.keyHash w.2 (c1 (c i)),.str (c1 (c i)) (s 0),.int 1 (s 4)⟩]=Bg w.2 (BI c (DL g i (s 0)) (λk=>.int 1 (DL h i (s 4) k)) (i+1)):=by
   rw[Qo,Qp];congr 2;funext k;unfold DL
   split <;> rfl
  rw[e];exact Un C D E n j (i+1) (by (first|lia|omega)) _ _ true (c i) _ _ λ_=>⟨rfl,rfl⟩
noncomputable def cnt(a b:Nat→Nat):Nat→Nat
 |0=>0
 |i+1=>cnt a b i+if a i=b i then 1 else 0
theorem wK(a b:Nat→Nat)(i:Nat):((cnt a b (i+1):Nat):Int)=cond (decide (a i=b i)) ((cnt a b i:Int)+1) (cnt a b i):=by
 show((cnt a b i+if a i=b i then 1 else 0:Nat):Int)=_
 by_cases h:a i=b i
 ·rw[AS h,C3 h]
  rfl
 ·rw[AH h,BQ h]
  rfl
noncomputable abbrev Kt(a b c:Nat→Nat):=(BI a b (λk=>.int 1 (c k)) 8)
theorem Uo{w:Aa}{A:Al}(C:A.handled=none)(D:A.depth≤620)(E:A.units≤4000){f l u:Nat}{Q:QC}{a b g h:Nat→Nat}(c:Lt a)(s:Lt b){y:Bool}:
  ∀(j i:Nat),i+j=8→ ∀(n:Nat→Nat) (o:Nat→Value) (v:Bool) (S:QS),(0<i→v=true∧S.x=a (i-1))→
   RunsW w A (BS Md l (GW f)) (Oz f l 8 i i a u (Bg w.2 (Kt b g h)) (Bg w.2 (BI a n o i)) Q (JF w.2 Q y v (cnt a b i) S))
    λr z m=>r= .ok .next∧Ei λ (o1 o2:Obj) (S:QS)=>S.x=a 7∧z=[(f,JF w.2 Q y true (cnt a b 8) S),(l,o1),(Q.fd,di (Bg w.2 (Kt b g h)) 8),(Q.av,o2),(Q.ah,fi Jz [.builtin HC,.ref Q.av])]
 |0,i,I,n,o,v,S,J=>by
  obtain rfl:i=8:=I;obtain⟨N,O⟩:=J (Jk 7);rw[N];refine Me (Bf (wF w f l a u _) [] C D E AR Ar (Φ:=λr z m=>r= .ok .next∧z=[(f,JF w.2 Q y true (cnt a b 8) S),(l,(fi Ey [.none,.int 8 0]))]) λP R T=>⟨rfl,rfl⟩) (F:=[(Q.fd,_),(Q.av,_),(Q.ah,_)]) λr z m hz=> ?_;exact⟨hz.1,_,_,S,O,Am (· ++[(Q.fd,_),(Q.av,_),(Q.ah,_)]) hz.2⟩
 |j+1,i,I,n,o,v,S,J=>by
  have d:i<8:=by (first|lia|omega)
  have K:findBy (strKind pw w).is ⟨Bg w.2 (BI a n o i)⟩ (c1 (a i))=none:=by
   rw[GU];exact Ks c c (Bw d) d λk B e=>CN B (c.inj c (Dz B d) d e)
  have L:(E9 (c1 (a i)) (BI a n o i)).isSome=false:=by
   rw[←GU,K];rfl
  have M: ∀t,(findBy (strKind pw w).is ⟨Bg w.2 (Kt b g h)⟩ (c1 (a i))).getD (.int 0 t)=cond (decide (a i=b i)) (.int 1 (h i)) (.int 0 t):=λt=>by
   rw[GU]
   by_cases e:a i=b i
   ·rw[Qq s c (A7 8) d e.symm,C3 e]
    rfl
   ·rw[Ks s c (A7 8) d λk B q=>e ?_,BQ e]
    ·rfl
    ·exact q.symm.trans (Am b (s.inj c B d q))
  refine EZ (wI w f l 8 i i a u (h i) _ _ Q y v (decide (a i=b i)) (cnt a b i) S) [] C D E (AD _ _ (Ah (λG m H=>Qs d) (Ah (λG m H=>wJ L) (Ah (λG m H=>Kr (strKind pw w) (GV w _ _) (GT w _) (M _)) (Ah (λG m H=>Ov (strKind pw w) (GV w _ _) rfl (GT w _) K (by rw[Um];(first|lia|omega))) AC))))) Ar λP R T=> ?_;rw[Qo,Qp,←wK];exact Uo C D E c s j (i+1) (by (first|lia|omega)) _ _ true _ λ_=>⟨rfl,rfl⟩
noncomputable def Bl:Nat→UInt64
 |0=>0
 |1=>4593671619917905920
 |2=>4598175219545276416
 |3=>4600427019358961664
 |4=>4602678819172646912
 |5=>4603804719079489536
 |6=>4604930618986332160
 |7=>4606056518893174784
 |_=>4607182418800017408
noncomputable def OA(i t u:Nat):Ak:=
 {d:=600,u:=3800,h:=none,c:=.call (.ref 173) ⟨[.int i t,.int 16 u],[]⟩,idx:=[],pre:=[],na:=0,nt:=1,r:=λ_ t=>.ok (.ret (.float (Bl i) (t.getD 0 0))),outs:=λ_ _ _=>[],news:=λ_ _ _=>[]}
noncomputable def Uq(P:Aj)(f b a m u e g:Nat)(c:Nat→Nat):Ak:=
 {d:=620,u:=4000,h:=none,c:=BS Mc b (GW f),idx:=[],pre:=[(f,JE P e g m a false 0 0 0),(b,Dx c u 0),(a,di [] 0)],na:=0,nt:=0,no:=19,r:=λ_ _=>.ok .next,
  outs:=λ_ _ o=>[JE P e g m a true (c 7) (Ao o 17) (Ao o 18),o.getD 0 default,di (Bg P (BI c (λi=>Ao o (1+i)) (λk=>.int 1 (Ao o (9+k))) 8)) 8],news:=λ_ _ _=>[]}
noncomputable def Qt(e:Bool)(P:Aj)(f i u:Nat)(Q:QC)(S:QS)(a b g h:Nat→Nat):Ak:=
 {d:=620,u:=4000,h:=none,c:=BS Md i (GW f),idx:=[],pre:=Oz f i 8 0 0 a u (Bg P (Kt b g h)) [] Q (JF P Q e false 0 S),na:=0,nt:=0,no:=8,r:=λ_ _=>.ok .next,
  outs:=λ_ _ o=>[JF P Q e true (cnt a b 8) ⟨a 7,Ao o 2,Ao o 3,Ao o 4,Ao o 5,Ao o 6,Ao o 7⟩,o.getD 0 default,di (Bg P (Kt b g h)) 8,o.getD 1 default,fi Jz [.builtin HC,.ref Q.av]],news:=λ_ _ _=>[]}
noncomputable abbrev JG(P:Aj)(b g h:Nat→Nat):Obj:=di (Bg P (Kt b g h)) 8
theorem kk(w:Aa)(t u i:Nat)(d:i<9):AI w 43 (.call (.ref 173) ⟨[.int i t,.int 16 u],[]⟩) [] [0,0,0,1,1,0,1,1,0,1,1,1,1] [] [] 1 600 3800 [] (λb a c=>.done (.ret (.float (Bl i) (a 4)))) (λb a c=>[]) 5:=by
 revert i;exact GN 9 (by kernel_rfl)
theorem Qu{w:Aa}{i t u:Nat}(a:i<9):Av w (OA i t u):=
 Ba.ext λA b c d=>Bf (kk w t u i a) [4] d b c AR Ar λe g h=>⟨[],[],rfl,rfl,rfl,rfl,rfl⟩
noncomputable abbrev AG(a:Nat→Nat)(b:Nat):Value:=(.str (sf a) b)
theorem wL(w:Aa)(m d e g h:Nat)(q:Nat→Nat)(i:Value)(a b:Nat→Nat)(t u:Nat):
  AI w 277 (.call (.ref 267) ⟨[.ref m],[]⟩) ([(m,mO d),(d,AT w.2 q (AG a t) (AG b u) .none i e g h)]) (dg 14 0x8deacdc6c33a8d836b0fa021368425f5408e5302c0ad86a49e4e524e5ec40479bfe08b785368178df9562833435af301060bdf4cfed8762d3e245129f0f) [] (Bh [2,2] [λk c l=>(.int 8 (tk c 4),.int 8 (tk c 4)),λk c l=>(.int 8 (tk c 7),.int 8 (tk c 7))]) 1 570 3500 [0,1]
   (λn j o=>.done (.ret (.float 4607182418800017408 (j 15)))) (λn j o=>[(m,⟨.ref 270,some d,Data.plain,⟨[]⟩⟩),(d,di [Ad w TP (q 0) .none,Ad w Co (q 1) (.str ⟨⟨[a 0,a 1,a 2,a 3,a 4,a 5,a 6,a 7]⟩⟩ t),Ad w LU (q 2) (.str ⟨⟨[b 0,b 1,b 2,b 3,b 4,b 5,b 6,b 7]⟩⟩ u),Ad w TH (q 3) IK,Ad w P6 (q 4) .none,Ad w TS (q 5) .none,Ad w Oh (q 6) i,Ad w Oe (q 7) (.ref e),Ad w TK (q 8) (.ref g),Ad w TN (q 9) (.ref h)] 10)]) 16:=by
 kernel_rfl
theorem wM(w:Aa)(m d l n o:Nat)(q:Nat→Nat)(a b:Nat→Nat)(t u:Nat):
  AI w 323 (.call (.ref 260) ⟨[.ref m],[]⟩) ([(m,mO d),(d,AT w.2 q (AG a t) (AG b u) .none .none l n o)]) (dg 13 0x5f304743b7846eb318558fb53ce3ac0cb9fede6f2c79415b2b1399a00da6653b64ea1a85bb933388216b6ffe4ccc48004e76d3fdf819cdc55ee82dc3da3827b768db718c44417e47cb7151872) (AE [(3,[]),(0,[2,4,3]),(8,[]),(0,[2,11,3,5,6]),(7,[])] ([λe c g=>Ow (sf b) u,λe c g=>Uq w.2 (tk e 0) (tk e 2) (tk e 1) m u (tk c 0) (tk c 5) b,λe c g=>Ow (sf a) t,λe c g=>Qt true w.2 (tk e 0) (tk e 9) t ⟨tk c 0,tk c 5,tk c 9,tk c 12,tk c 13,m,tk e 1,tk e 3,tk e 4⟩ ⟨b 7,Ao g 17,Ao g 18,tk c 11,0,0,0⟩ a b (λi=>Ao g (1+i)) (λk=>Ao g (9+k)),λe c g=>OA (cnt a b 8) (Ao g 23) (tk c 21)])) [] 1 570 3500 [0,1,3]
   (λh r j=>.done (.ret (.float (Bl (cnt a b 8)) (r 22)))) (λh r j=>[(m,mO d),(d,AT w.2 q (AG a t) (AG b u) .none (.ref (h 1)) l n o),(h 1,JG w.2 b (λi=>BP (j (1+i))) (λk=>BP (j (9+k))))]) 23:=by
 kernel_rfl
theorem wN(w:Aa)(m d k l n i:Nat)(q:Nat→Nat)(a b g h:Nat→Nat)(t u:Nat):
  AI w 261 (.call (.ref 260) ⟨[.ref m],[]⟩) ([(m,mO d),(d,AT w.2 q (AG a t) (AG b u) .none (.ref i) k l n),(i,JG w.2 b g h)]) (dg 12 0x756ad672b41dea09b48542539321856238f4919fa04716cb04d0a8e2ddc789cc3781ceea0791a7af27f55f6fe24998e0d86351c072b3aa157d8) (AE [(9,[]),(0,[3,10,2,4,5]),(7,[])] ([λe c j=>Ow (sf a) t,λe c j=>Qt false w.2 (tk e 0) (tk e 7) t ⟨tk c 0,tk c 4,tk c 5,tk c 8,tk c 9,m,i,tk e 1,tk e 2⟩ ⟨0,0,0,tk c 7,0,0,0⟩ a b g h,λe c j=>OA (cnt a b 8) (Ao j 4) (tk c 17)])) [] 1 570 3500 [0,1,2]
   (λr o s=>.done (.ret (.float (Bl (cnt a b 8)) (o 18)))) (λr o s=>[(m,mO d),(d,AT w.2 q (AG a t) (AG b u) .none (.ref i) k l n),(i,JG w.2 b g h)]) 19:=by
 kernel_rfl
theorem Mg{w:Aa}{A:Al}{c:Code}{L:Ae}{Φ:Result→Ae→List Nat→Prop}(h:RunsW w A c L Φ):RunsW w A c L λr e g=>g=[]∧ ∃i,Φ r e i:=λs S=>
 B4 (h s S) (by rintro r j ⟨e,g,a,b,d⟩;exact⟨e,[],⟨rfl,g,a⟩,b,d.le⟩)
theorem wO{w:Aa}{f a b m u d i:Nat}{c:Nat→Nat}(j:Lt c):Av w (Uq w.2 f a b m u d i c):=by
 refine Ba.ext λA k l n=>(Mg (Un n k l j 8 0 rfl (λ_=>0) (λ_=>0) false 0 0 0 λh=>absurd h (It 0))).mono ?_;rintro r z B ⟨e,y,o,o1,g,h,s,t,v⟩;refine⟨[],[o1,Ac (g 0),Ac (g 1),Ac (g 2),Ac (g 3),Ac (g 4),Ac (g 5),Ac (g 6),Ac (g 7),Ac (h 0),Ac (h 1),Ac (h 2),Ac (h 3),Ac (h 4),Ac (h 5),Ac (h 6),Ac (h 7),Ac s,Ac t],rfl,by rw[e];rfl,rfl,o,?_⟩;rw[v];kernel_rfl
theorem Ur{c:Bool}{w:Aa}{f d u:Nat}{Q:QC}{S:QS}{a b g h:Nat→Nat}(i:Lt a)(j:Lt b):Av w (Qt c w.2 f d u Q S a b g h):=by
 refine Ba.ext λA k l m=>(Mg (Uo m k l i j 8 0 rfl (λ_=>0) (λ_=>.none) false S λh=>absurd h (It 0))).mono ?_;rintro r v y ⟨e,t,n,o1,o2,S,o,s⟩;refine⟨[],[o1,o2,Ac S.t6,Ac S.tx,Ac S.t,Ac S.t7,Ac S.y,Ac S.ty],rfl,by rw[e];rfl,rfl,n,s.trans ?_⟩;cases S;cases o;rfl
theorem Mh(a b:Nat→Nat): ∀i,cnt a b i≤i:=by
 intro i
 induction i with
 |zero=>exact A7 _
 |succ i c=>unfold cnt;split <;> (first|lia|omega)
noncomputable def Us(P:Aj)(m d e g i:Nat)(q:Nat→Nat)(j:Value)(a b:Nat→Nat)(t u:Nat):Ak:=
 {d:=570,u:=3500,h:=none,c:=.call (.ref 267) ⟨[.ref m],[]⟩,idx:=[],pre:=[(m,mO d),(d,AT P q (.str (sf a) t) (AG b u) .none j e g i)],na:=0,nt:=1,
  r:=λ_ t=>.ok (.ret (.float 4607182418800017408 (t.getD 0 0))),outs:=λ_ _ _=>[mO d,AT P q (.str (sf a) t) (AG b u) .none j e g i],news:=λ_ _ _=>[]}
theorem wP{w:Aa}{m d c e g:Nat}{q:Nat→Nat}{h:Value}{a b:Nat→Nat}{t u:Nat}:Av w (Us w.2 m d c e g q h a b t u):=by
 refine Ba.ext λA i j k=> ?_;exact Bf (wL w m d c e g q h a b t u) [15] k i j AR (Bi _ _ (Az (λ_ _ _=>rfl) (Az (λ_ _ _=>rfl) Bp))) λl n o=>⟨[],[],rfl,rfl,rfl,rfl,rfl⟩
noncomputable def Ut(P:Aj)(m d e g j:Nat)(q:Nat→Nat)(a b:Nat→Nat)(t u:Nat):Ak:=
 {d:=570,u:=3500,h:=none,c:=.call (.ref 260) ⟨[.ref m],[]⟩,idx:=[],pre:=[(m,mO d),(d,AT P q (.str (sf a) t) (AG b u) .none .none e g j)],na:=1,nt:=1,no:=16,
  r:=λ_ t=>.ok (.ret (.float (Bl (cnt a b 8)) (t.getD 0 0))),outs:=λx _ _=>[mO d,AT P q (.str (sf a) t) (AG b u) .none (.ref (x.getD 0 0)) e g j],news:=λ_ _ o=>[JG P b (λi=>Ao o i) (λk=>Ao o (8+k))]}
theorem wQ{w:Aa}{m d g h i:Nat}{q:Nat→Nat}{a b:Nat→Nat}{t u:Nat}(j:Lt a)(e:Lt b):Av w (Ut w.2 m d g h i q a b t u):=by
 refine Ba.ext λA k l n=> ?_;refine Bf (wM w m d g h i q a b t u) [22] n k l (AD _ _ (Ah (λ_ _ _=>Qn e.ascii) (Ah (λ_ _ _=>wO e) (Ah (λ_ _ _=>Qn j.ascii) (Ah (λ_ _ _=>Ur j e) (Ah (λ_ _ _=>Qu (F8 (Mh a b 8))) AC)))))) Ar
  λo r c=>⟨[o 1],[c 1,c 2,c 3,c 4,c 5,c 6,c 7,c 8,c 9,c 10,c 11,c 12,c 13,c 14,c 15,c 16],rfl,rfl,rfl,rfl,?_⟩
 kernel_rfl
noncomputable def Uu(P:Aj)(m d i j k e:Nat)(q:Nat→Nat)(a b g h:Nat→Nat)(t u:Nat):Ak:=
 {d:=570,u:=3500,h:=none,c:=.call (.ref 260) ⟨[.ref m],[]⟩,idx:=[],pre:=[(m,mO d),(d,AT P q (.str (sf a) t) (AG b u) .none (.ref e) i j k),(e,JG P b g h)],na:=0,nt:=1,no:=0,
  r:=λ_ t=>.ok (.ret (.float (Bl (cnt a b 8)) (t.getD 0 0))),outs:=λ_ _ _=>[mO d,AT P q (.str (sf a) t) (AG b u) .none (.ref e) i j k,JG P b g h],news:=λ_ _ o=>[]}
theorem wT{w:Aa}{m d c e i j:Nat}{q:Nat→Nat}{a b g h:Nat→Nat}{t u:Nat}(k:Lt a)(l:Lt b):Av w (Uu w.2 m d c e i j q a b g h t u):=by
 refine Ba.ext λA n o r=> ?_;exact Bf (wN w m d c e i j q a b g h t u) [18] r n o (AD _ _ (Ah (λ_ _ _=>Qn k.ascii) (Ah (λ_ _ _=>Ur k l) (Ah (λ_ _ _=>Qu (F8 (Mh a b 8))) AC)))) Ar
  λs v y=>⟨[],[],rfl,rfl,rfl,rfl,rfl⟩
noncomputable abbrev Uv(f:Nat):Env:={scope:=EH (EK 6 6),locals:=f,globals:=3,cells:=[],qual:=⟨⟨[83,101,113,117,101,110,99,101,77,97,116,99,104,101,114,46,102,105,110,100,95,108,111,110,103,101,115,116,95,109,97,116,99,104,46,60,108,111,99,97,108,115,62,46]⟩⟩,func:=some 224,code:=.ref 223,frame:=some f,builtins:=0}
noncomputable abbrev Uw:Stmt:=AB (AN (EK 6 6)) 7
noncomputable abbrev Bb(i n:Nat):Obj:=fi Ex [.int i 0,.int n 0,.int 1 0]
noncomputable def Fu(a i n:Nat):Ak:=
 {d:=900,u:=9000,h:=none,c:=.call (.builtin Ub) ⟨[.ref a],[]⟩,idx:=[],pre:=[(a,Bb i (n+1))],na:=0,nt:=1,
  r:=λ_ t=>.ok (.ret (.int i (t.getD 0 0))),outs:=λ_ _ _=>[Bb (i+1) n],news:=λ_ _ _=>[]}
noncomputable def Cd(c:Nat→Nat)(u i a:Nat):Ak:=
 {d:=900,u:=9000,h:=none,c:=.call (.builtin T5) ⟨[.str (sf c) u,.int i a],[]⟩,idx:=[],pre:=[],na:=0,nt:=1,
  r:=λ_ t=>.ok (.ret (.str (c1 (c i)) (t.getD 0 0))),outs:=λ_ _ _=>[],news:=λ_ _ _=>[]}
noncomputable abbrev OB(a b:Nat)(c:List DictEntry)(d:Nat):=[(a,fi Jz [.builtin JB,.ref b]),(b,di c d)]
noncomputable def IL(b c:Nat)(d:List DictEntry)(n:Nat)(key a v:Value):Ak:=
 IG (.call (.ref b) ⟨[key,a],[]⟩) (OB b c d n) v
noncomputable abbrev Cj(P:Aj)(e:Nat→Nat)(m c d:Nat)(s:Nat→Nat)(a b:Nat→Nat)(t u g h no i p z tz j tp:Nat)(x:List DictEntry)(n:Nat):Obj:=
 fr ([Ap P HA (e 0) (.ref m),Ap P TG (e 1) (.int c (s 0)),Ap P TF (e 2) (.int d (s 1)),Ap P TM (e 3) (.int c (s 2)),Ap P TJ (e 4) (.int d (s 3)),Ap P Co (e 5) (AG a t),Ap P LU (e 6) (AG b u),Ap P Oe (e 7) (.ref g),Ap P yD (e 8) (.ref h),Ap P xX (e 9) (.int z tz),Ap P xW (e 10) (.int p j),Ap P xV (e 11) (.int p tp),Ap P yE (e 12) (.ref i),Ap P yK (e 13) (.ref no)]++x) n
noncomputable abbrev Ku(P:Aj)(a b c i d e g:Nat):List DictEntry:=[Ap P By a (.int i d),Ap P TQ b (.ref e),Ap P TR c (.ref g)]
noncomputable abbrev Fv(P:Aj)(b c d e g i h l m j n k a:Nat):List DictEntry:=[Ap P By b (.int i h),Ap P TQ c (.ref l),Ap P TR d (.ref m),Ap P CH e (.int j n),Ap P DC g (.int k a)]
theorem wU(w:Aa)(a i n:Nat)(c:i+n<8):
  AI w 16 (.call (.builtin Ub) ⟨[.ref a],[]⟩) ([(a,Bb i (n+1))]) [1,1,1,1,1,1,1,1] [] [] 1 900 9000 [0]
   (λd b e=>.done (.ret (.int i (b 0)))) (λd b e=>[(a,Bb (i+1) n)]) 1:=by
 have g:i<8:=by (first|lia|omega)
 have h:n<8:=by (first|lia|omega)
 clear c;revert n;revert i;exact xL 8 (by kernel_rfl)
theorem wV(w:Aa)(c:Nat→Nat)(u i b:Nat)(g:i<8):
  AI w 8 (.call (.builtin T5) ⟨[.str (sf c) u,.int i b],[]⟩) ([]) [] [] [] 1 900 9000 []
   (λd a e=>.done (.ret (Ft c i (a 0)))) (λd a e=>[]) 1:=by
 revert i;exact GN 8 (by kernel_rfl)
theorem wW(w:Aa)(c a:Nat)(e:List DictEntry)(n:Nat)(k d:Int)(b g:Nat):
  AI w 10 (.call (.ref c) ⟨[.int k b,.int d g],[]⟩) (OB c a e n) [1,2,2,2] [] [] 0 900 9000 [0,1]
   (λh i j=>.again (.builtin JB ⟨[.ref a,.int k b,.int d g],[]⟩)) (λh i j=>[(c,fi Jz [.builtin JB,.ref a]),(a,di e n)]) 0:=by
 kernel_rfl
noncomputable abbrev OC(a b c:Nat)(d:Nat→Nat)(e f:Nat)(g:List DictEntry)(h i:Nat):=(AE [(0,[1]),(2,[]),(0,[2])] ([λk j l=>Fu a b c,λk j l=>Cd d e b (tk j 0),λk j l=>FK f g h (Ft d b (tk j 5)) (.ref i) (.ref i)]))
noncomputable abbrev CR(a b:Nat):=(BS Uw a (Uv b))
theorem wX(w:Aa)(f c m v y d A no B p z tz C tp i n:Nat)(e s a b:Nat→Nat)(t u:Nat)(k D:List DictEntry)(o E G H I J K L M N O P Q R S l g r T:Nat):
  AI w 111 (CR c f) ([(f,Cj w.2 e m v y s a b t u d A no B p z tz C tp [] 14),(c,Bb i (n+1)),(d,di k o),(B,di D E),(no,li [] 0)]) (dg 11 0x2e77a73bb4e5b35f22b7b6dac7d59350a6b3a) (OC c i n a t d k o no) [] 0 620 4000 [0,1,2,6,4]
   (λh j F=>.again (CR c f)) (λh j F=>[(f,Cj w.2 e m v y s a b t u d A no (h 1) p z tz C tp (Ku w.2 (j 1) (j 3) (j 4) i (j 0) (h 0) (h 1)) 17),(c,Bb (i+1) n),(d,di k o),(h 1,di [] 0),(no,li [] 0)]) 7:=by
 kernel_rfl
noncomputable abbrev Kv:=[(0,[1]),(2,[]),(0,[2]),(6,[6,3]),(1,[7])]
noncomputable abbrev OE:=(rl 256 0x121011346011201133413621161956192011a7101148218a311a1b5a1b6a1b6a1b6a1b2d1011201120112946192f1110112)
theorem wY(w:Aa)(f k m y A o E no B p z tz H tp i n:Nat)(e s a b:Nat→Nat)(t u:Nat)(C F:List DictEntry)(D G J K L M N O P Q R S T U V l g r W:Nat):
  AI w 306 (CR k f) ([(f,Cj w.2 e m y A s a b t u o E no B p z tz H tp [] 14),(k,Bb i (n+1)),(o,di C D),(B,di F G),(no,li [] 0),(l,li [.int i g] 1)]) OE (AE Kv ([λd c j=>Fu k i n,λd c j=>Cd a t i (tk c 0),λd c j=>FK o C D (.str (c1 (a i)) (tk c 5)) (.ref no) (.ref l),λd c j=>IL (tk d 0) B F G (.int ((i:Int)-1) (tk c 8)) (Bu (tk c 9)) (Bu (tk c 9)),λd c j=>GQ (tk d 1) [] 0 (hashInt i) (.int i g) (.int (0+1:Nat) (tk c 11))])) (Bh [4,0,1,0,1,1] [λd c j=>(.bool (decide ((i:Int)<y)),.bool false),λd c j=>(.bool (decide ((i:Int)≥A)),.bool false),λd c j=>(.int ((0:Nat)+1) (tk c 11),.int (0+1:Nat) (tk c 11)),λd c j=>(.bool (decide (((0+1:Nat):Int)> z)),.bool true),λd c j=>(.int ((i:Int)-(0+1:Nat)+1) (tk c 15),.int (i-0:Nat) (tk c 15)),λd c j=>(.int ((i:Int)-(0+1:Nat)+1) (tk c 18),.int (i-0:Nat) (tk c 18))]) 0 620 4000 [0,1,2,7,4,5]
   (λv h I=>.again (CR k f)) (λv h I=>[(f,Cj w.2 e m y A s a b t u o E no (v 1) (i-0) (0+1) (h 11) (h 18) (h 15) (Fv w.2 (h 1) (h 3) (h 4) (h 6) (h 12) i (h 0) (v 0) (v 1) i g (0+1) (h 11)) 19),(k,Bb (i+1) n),(o,di C D),(v 1,di [⟨hashInt i,.int i g,.int (0+1:Nat) (h 11)⟩] 1),(no,li [] 0),(l,li [.int i g] 1)]) 23:=by
 kernel_rfl
theorem wZ(w:Aa)(f c m o v d y no A p z tz B tp i n:Nat)(e s a b:Nat→Nat)(t u:Nat)(j G:List DictEntry)(k H I J K L N O P Q C D E R S l g r T:Nat):
  AI w 111 (CR c f) ([(f,Cj w.2 e m o v s a b t u d y no A p z tz B tp (Ku w.2 C D E I J K L) 17),(c,Bb i (n+1)),(d,di j k),(A,di G H),(no,li [] 0)]) (dg 11 0x2e77a73bb4e5b35f22b7b6dac7d59350a6b3a) (OC c i n a t d j k no) [] 0 620 4000 [0,1,2,6,4]
   (λh F M=>.again (CR c f)) (λh F M=>[(f,Cj w.2 e m o v s a b t u d y no (h 1) p z tz B tp (Ku w.2 C D E i (F 0) (h 0) (h 1)) 17),(c,Bb (i+1) n),(d,di j k),(h 1,di [] 0),(no,li [] 0)]) 7:=by
 kernel_rfl
theorem kA(w:Aa)(f k m y A o E no B p z tz K tp i n:Nat)(e s a b:Nat→Nat)(t u:Nat)(C F:List DictEntry)(D G L M N O Q R S T H I J U V l g r W:Nat):
  AI w 306 (CR k f) ([(f,Cj w.2 e m y A s a b t u o E no B p z tz K tp (Ku w.2 H I J L M N O) 17),(k,Bb i (n+1)),(o,di C D),(B,di F G),(no,li [] 0),(l,li [.int i g] 1)]) OE (AE Kv ([λd c h=>Fu k i n,λd c h=>Cd a t i (tk c 0),λd c h=>FK o C D (.str (c1 (a i)) (tk c 5)) (.ref no) (.ref l),λd c h=>IL (tk d 0) B F G (.int ((i:Int)-1) (tk c 8)) (Bu (tk c 9)) (Bu (tk c 9)),λd c h=>GQ (tk d 1) [] 0 (hashInt i) (.int i g) (.int (0+1:Nat) (tk c 11))])) (Bh [4,0,1,0,1,1] [λd c h=>(.bool (decide ((i:Int)<y)),.bool false),λd c h=>(.bool (decide ((i:Int)≥A)),.bool false),λd c h=>(.int ((0:Nat)+1) (tk c 11),.int (0+1:Nat) (tk c 11)),λd c h=>(.bool (decide (((0+1:Nat):Int)> z)),.bool true),λd c h=>(.int ((i:Int)-(0+1:Nat)+1) (tk c 15),.int (i-0:Nat) (tk c 15)),λd c h=>(.int ((i:Int)-(0+1:Nat)+1) (tk c 18),.int (i-0:Nat) (tk c 18))]) 0 620 4000 [0,1,2,7,4,5]
   (λv j P=>.again (CR k f)) (λv j P=>[(f,Cj w.2 e m y A s a b t u o E no (v 1) (i-0) (0+1) (j 11) (j 18) (j 15) (Fv w.2 H I J (j 6) (j 12) i (j 0) (v 0) (v 1) i g (0+1) (j 11)) 19),(k,Bb (i+1) n),(o,di C D),(v 1,di [⟨hashInt i,.int i g,.int (0+1:Nat) (j 11)⟩] 1),(no,li [] 0),(l,li [.int i g] 1)]) 23:=by
 kernel_rfl
theorem Ux(w:Aa)(f c m o v d y no A p z tz B tp i n:Nat)(e s a b:Nat→Nat)(t u:Nat)(j M:List DictEntry)(k N O P Q R C D E F G H I J K l g r T:Nat):
  AI w 111 (CR c f) ([(f,Cj w.2 e m o v s a b t u d y no A p z tz B tp (Fv w.2 G H I J K O P Q R C D E F) 19),(c,Bb i (n+1)),(d,di j k),(A,di M N),(no,li [] 0)]) (dg 11 0x2e77a73bb4e5b35f22b7b6dac7d59350a6b3a) (OC c i n a t d j k no) [] 0 620 4000 [0,1,2,6,4]
   (λh L S=>.again (CR c f)) (λh L S=>[(f,Cj w.2 e m o v s a b t u d y no (h 1) p z tz B tp (Fv w.2 G H I J K i (L 0) (h 0) (h 1) C D E F) 19),(c,Bb (i+1) n),(d,di j k),(h 1,di [] 0),(no,li [] 0)]) 7:=by
 kernel_rfl
theorem kB(w:Aa)(f k m y A o E no B p z tz M tp i n:Nat)(e s a b:Nat→Nat)(t u:Nat)(C F:List DictEntry)(D G N O P Q R S T U H I J K L l g r V:Nat):
  AI w 306 (CR k f) ([(f,Cj w.2 e m y A s a b t u o E no B p z tz M tp (Fv w.2 H I J K L N O P Q R S T U) 19),(k,Bb i (n+1)),(o,di C D),(B,di F G),(no,li [] 0),(l,li [.int i g] 1)]) OE (AE Kv ([λd c h=>Fu k i n,λd c h=>Cd a t i (tk c 0),λd c h=>FK o C D (.str (c1 (a i)) (tk c 5)) (.ref no) (.ref l),λd c h=>IL (tk d 0) B F G (.int ((i:Int)-1) (tk c 8)) (Bu (tk c 9)) (.int r V),λd c h=>GQ (tk d 1) [] 0 (hashInt i) (.int i g) (.int (r+1:Nat) (tk c 11))])) (Bh [4,0,1,0,1,1] [λd c h=>(.bool (decide ((i:Int)<y)),.bool false),λd c h=>(.bool (decide ((i:Int)≥A)),.bool false),λd c h=>(.int ((r:Nat)+1) (tk c 11),.int (r+1:Nat) (tk c 11)),λd c h=>(.bool (decide (((r+1:Nat):Int)> z)),.bool true),λd c h=>(.int ((i:Int)-(r+1:Nat)+1) (tk c 15),.int (i-r:Nat) (tk c 15)),λd c h=>(.int ((i:Int)-(r+1:Nat)+1) (tk c 18),.int (i-r:Nat) (tk c 18))]) 0 620 4000 [0,1,2,7,4,5]
   (λv j W=>.again (CR k f)) (λv j W=>[(f,Cj w.2 e m y A s a b t u o E no (v 1) (i-r) (r+1) (j 11) (j 18) (j 15) (Fv w.2 H I J K L i (j 0) (v 0) (v 1) i g (r+1) (j 11)) 19),(k,Bb (i+1) n),(o,di C D),(v 1,di [⟨hashInt i,.int i g,.int (r+1:Nat) (j 11)⟩] 1),(no,li [] 0),(l,li [.int i g] 1)]) 23:=by
 kernel_rfl
theorem kC(w:Aa)(f j m y A k E no B p z tz F tp i n:Nat)(e s a b:Nat→Nat)(t u:Nat)(C G:List DictEntry)(D H N O P Q R S T U I J K L M l g r V:Nat):
  AI w 197 (CR j f) ([(f,Cj w.2 e m y A s a b t u k E no B p z tz F tp (Fv w.2 I J K L M N O P Q R S T U) 19),(j,Bb i (n+1)),(k,di C D),(B,di G H),(no,li [] 0),(l,li [.int i g] 1)]) (rl 192 0xdb727feb4cd6268296840e85b5d7d02fcc8b111240565b2733cb590d2) (AE Kv ([λd c h=>Fu j i n,λd c h=>Cd a t i (tk c 0),λd c h=>FK k C D (.str (c1 (a i)) (tk c 5)) (.ref no) (.ref l),λd c h=>IL (tk d 0) B G H (.int ((i:Int)-1) (tk c 8)) (Bu (tk c 9)) (.int r V),λd c h=>GQ (tk d 1) [] 0 (hashInt i) (.int i g) (.int (r+1:Nat) (tk c 11))])) (Bh [4,0,1,0] [λd c h=>(.bool (decide ((i:Int)<y)),.bool false),λd c h=>(.bool (decide ((i:Int)≥A)),.bool false),λd c h=>(.int ((r:Nat)+1) (tk c 11),.int (r+1:Nat) (tk c 11)),λd c h=>(.bool (decide (((r+1:Nat):Int)> z)),.bool false)]) 0 620 4000 [0,1,2,7,4,5]
   (λo v W=>.again (CR j f)) (λo v W=>[(f,Cj w.2 e m y A s a b t u k E no (o 1) p z tz F tp (Fv w.2 I J K L M i (v 0) (o 0) (o 1) i g (r+1) (v 11)) 19),(j,Bb (i+1) n),(k,di C D),(o 1,di [⟨hashInt i,.int i g,.int (r+1:Nat) (v 11)⟩] 1),(no,li [] 0),(l,li [.int i g] 1)]) 14:=by
 kernel_rfl
theorem kD(w:Aa)(f j m y A k E no B p z tz F tp i n:Nat)(e s a b:Nat→Nat)(t u:Nat)(C G:List DictEntry)(D H N O P Q R S T U I J K L M l g r W:Nat):
  AI w 197 (CR j f) ([(f,Cj w.2 e m y A s a b t u k E no B p z tz F tp (Fv w.2 I J K L M N O P Q R S T U) 19),(j,Bb i (n+1)),(k,di C D),(B,di G H),(no,li [] 0),(l,li [.int i g] 1)]) (rl 192 0xdb727feb4cd6268296840e85b5d7d02fcc8b111240565b2733cb590d2) (AE Kv ([λd c h=>Fu j i n,λd c h=>Cd a t i (tk c 0),λd c h=>FK k C D (.str (c1 (a i)) (tk c 5)) (.ref no) (.ref l),λd c h=>IL (tk d 0) B G H (.int ((i:Int)-1) (tk c 8)) (Bu (tk c 9)) (Bu (tk c 9)),λd c h=>GQ (tk d 1) [] 0 (hashInt i) (.int i g) (.int (0+1:Nat) (tk c 11))])) (Bh [4,0,1,0] [λd c h=>(.bool (decide ((i:Int)<y)),.bool false),λd c h=>(.bool (decide ((i:Int)≥A)),.bool false),λd c h=>(.int ((0:Nat)+1) (tk c 11),.int (0+1:Nat) (tk c 11)),λd c h=>(.bool (decide (((0+1:Nat):Int)> z)),.bool false)]) 0 620 4000 [0,1,2,7,4,5]
   (λo v V=>.again (CR j f)) (λo v V=>[(f,Cj w.2 e m y A s a b t u k E no (o 1) p z tz F tp (Fv w.2 I J K L M i (v 0) (o 0) (o 1) i g (0+1) (v 11)) 19),(j,Bb (i+1) n),(k,di C D),(o 1,di [⟨hashInt i,.int i g,.int (0+1:Nat) (v 11)⟩] 1),(no,li [] 0),(l,li [.int i g] 1)]) 14:=by
 kernel_rfl
theorem kE(w:Aa)(f c m y A d B no k p z tz C tp i n:Nat)(e s a b:Nat→Nat)(t u:Nat)(o D:List DictEntry)(v E G H I J K L M N O P Q R S l g r T:Nat):
  AI w 111 (CR c f) ([(f,Cj w.2 e m y A s a b t u d B no k p z tz C tp [] 14),(c,Bb i (n+1)),(d,di o v),(k,di D E),(no,li [] 0)]) (dg 11 0x2e77a73bb4e5b35f22b7b6dac7d59350a6b3a) (OC c i n a t d o v no) [] 0 620 4000 [0,1,2,6,4,3]
   (λh j F=>.again (CR c f)) (λh j F=>[(f,Cj w.2 e m y A s a b t u d B no (h 1) p z tz C tp (Ku w.2 (j 1) (j 3) (j 4) i (j 0) (h 0) (h 1)) 17),(c,Bb (i+1) n),(d,di o v),(h 1,di [] 0),(no,li [] 0),(k,di D E)]) 7:=by
 kernel_rfl
theorem kF(w:Aa)(f k m A B o G no y p z tz H tp i n:Nat)(e s a b:Nat→Nat)(t u:Nat)(C D:List DictEntry)(E F J K L M N O P Q R S T U V l g r W:Nat):
  AI w 306 (CR k f) ([(f,Cj w.2 e m A B s a b t u o G no y p z tz H tp [] 14),(k,Bb i (n+1)),(o,di C E),(y,di D F),(no,li [] 0),(l,li [.int i g] 1)]) OE (AE Kv ([λd c j=>Fu k i n,λd c j=>Cd a t i (tk c 0),λd c j=>FK o C E (.str (c1 (a i)) (tk c 5)) (.ref no) (.ref l),λd c j=>IL (tk d 0) y D F (.int ((i:Int)-1) (tk c 8)) (Bu (tk c 9)) (Bu (tk c 9)),λd c j=>GQ (tk d 1) [] 0 (hashInt i) (.int i g) (.int (0+1:Nat) (tk c 11))])) (Bh [4,0,1,0,1,1] [λd c j=>(.bool (decide ((i:Int)<A)),.bool false),λd c j=>(.bool (decide ((i:Int)≥B)),.bool false),λd c j=>(.int ((0:Nat)+1) (tk c 11),.int (0+1:Nat) (tk c 11)),λd c j=>(.bool (decide (((0+1:Nat):Int)> z)),.bool true),λd c j=>(.int ((i:Int)-(0+1:Nat)+1) (tk c 15),.int (i-0:Nat) (tk c 15)),λd c j=>(.int ((i:Int)-(0+1:Nat)+1) (tk c 18),.int (i-0:Nat) (tk c 18))]) 0 620 4000 [0,1,2,7,4,5,3]
   (λv h I=>.again (CR k f)) (λv h I=>[(f,Cj w.2 e m A B s a b t u o G no (v 1) (i-0) (0+1) (h 11) (h 18) (h 15) (Fv w.2 (h 1) (h 3) (h 4) (h 6) (h 12) i (h 0) (v 0) (v 1) i g (0+1) (h 11)) 19),(k,Bb (i+1) n),(o,di C E),(v 1,di [⟨hashInt i,.int i g,.int (0+1:Nat) (h 11)⟩] 1),(no,li [] 0),(l,li [.int i g] 1),(y,di D F)]) 23:=by
 kernel_rfl
noncomputable abbrev OF(a:Nat):=fi Ex [.int (↑ a) 0,.int 0 0,.int 1 0]
theorem kG(w:Aa)(f a i:Nat)(o:Obj):
  AI w 21 (CR a f) ([(f,o),(a,Bb i 0)]) [2,2,2,2,2,4] [] [] 1 620 4000 [0,1]
   (λb c d=>.done .next) (λb c d=>[(f,o),(a,OF i)]) 0:=by
 kernel_rfl
theorem An.perm{kt:KT}{s:Ab}{L b:Ae}(S:An kt s L)(h:L.Perm b):An kt s b:=
 ⟨λp a=>S.mem p (h.mem_iff.mpr a),(h.map _).nodup_iff.mp S.nd,S.old,λp a=>S.apart p (h.mem_iff.mpr a)⟩
theorem Ag.permR{kt:KT}{s a:Ab}{L b L'':Ae}(x:Ag kt s a L b)(h:b.Perm L''):Ag kt s a L L'':=
 ⟨x.sat.perm h,x.keep,λp c=>x.new p (h.mem_iff.mpr c),x.size,x.gens,x.os,x.drawn,x.toks⟩
theorem Ag.permL{kt:KT}{s d:Ab}{L g a:Ae}(x:Ag kt s d L g)(h:L.Perm a):Ag kt s d a g:=
 ⟨x.sat,λb o e n=>x.keep b o e λp c=>n p (h.mem_iff.mp c),λp c=>(x.new p c).imp (by rintro⟨q,i,e⟩;exact⟨q,h.mem_iff.mp i,e⟩) id,x.size,x.gens,x.os,x.drawn,x.toks⟩
theorem Gj{w:Aa}{A:Al}{c:Code}{L L1:Ae}(F:Ae){Φ j:Result→Ae→List Nat→Prop}(k:(L1++F).Perm L)(h:RunsW w A c L1 Φ)
  (m: ∀r g e,Φ r g e→ ∃i,(g++F).Perm i∧j r i e):RunsW w A c L j:=λs S=>by
 have l:=S.perm k.symm;refine B4 (h s l.left) λr n hz=> ?_;obtain⟨g,e,a,b,d⟩:=hz;obtain⟨i,q,z⟩:=m r g e a;exact⟨i,e,z,((b.frame l).permR q).permL k,d⟩
theorem JH{w:Aa}{a i n:Nat}(h:i+n<8):Av w (Fu a i n):=by
 refine Ba.ext λA b c d=> ?_;exact Bf (wU w a i n h) [0] d b c AR Ar λe g j=>⟨[],[],rfl,rfl,rfl,rfl,rfl⟩
theorem HF{w:Aa}{c:Nat→Nat}{u i a:Nat}(h:i<8):Av w (Cd c u i a):=by
 refine Ba.ext λA b d e=> ?_;exact Bf (wV w c u i a h) [0] e b d AR Ar λg j k=>⟨[],[],rfl,rfl,rfl,rfl,rfl⟩
theorem Mi(w:Aa)(k:Int)(t:Nat):(intKind pw w).is k (.int k t)=true:=by
 refine (?_:Value.isInt k (.int k t)=true);simp[Value.isInt]
theorem Uz{w:Aa}{g a n b e:Nat}{c:List DictEntry}{k d:Int}{v:Value}(j:KeysOf (intKind pw w) ⟨c⟩)(l:(findBy (intKind pw w).is ⟨c⟩ k).getD (.int d e)=v):
  Av w (IL g a c n (.int k b) (.int d e) v):=by
 refine Os λA s m o t S R h=> ?_;have r:RunsW w A (.call (.ref g) ⟨[.int k b,.int d e],[]⟩) (OB g a c n) λr i u=>r= .ok (.ret v)∧i=(OB g a c n):=by
  refine EZ (wW w g a c n k d b e) [] t m o AR Ar λH I J=>Qr λs S R h=> ?_;have y:=S.mem (a,di c n) (by (first|((repeat(first|exact .head _|apply List.mem_cons_of_mem));done)|simp));have z:=JD (intKind pw w) y j;refine (?_:codeAny _ _ (.builtin JB ⟨[.ref a,.int k b,.int d e],[]⟩) _ s);rw[show JB="dict.get" from TY];have B:plainId "dict.get"=true:=F.slot_dict_get.plain;refine EG F.entry_dict_get ?_;rw[EE B];refine meets_dict_get_default (intKind pw w) (k:=k) a (Mi w k b) (Ot S (p:=(a,di c n)) (by (first|((repeat(first|exact .head _|apply List.mem_cons_of_mem));done)|simp))) (.int d e) A _ s ⟨_,z,?_⟩;rw[l];exact h _ _ _ [] ⟨rfl,rfl⟩ S.tok (Jq _)
 refine B4 (r s S) λK C hz=> ?_;obtain⟨i,u,⟨D,E⟩,G,L⟩:=hz;subst D E;exact h C G
theorem Kw(w:Aa):KeysOf (intKind pw w) ⟨[]⟩:=λe a=>by simp at a
theorem UA(w:Aa)(k:Int)(t:Nat)(v:Value):KeysOf (intKind pw w) ⟨[⟨hashInt k,.int k t,v⟩]⟩:=λe a=>by
 have:e=⟨hashInt k,.int k t,v⟩:=by simpa using a
 subst this;exact⟨k,Mi w k t,rfl⟩
noncomputable def D9(a b:Nat→Nat)(i:Nat)(s:Nat×Nat×Nat):Nat×Nat×Nat:=
 if a i=b i then(if s.2.2<s.1+1 then(s.1+1,i-s.1,s.1+1)else(s.1+1,s.2.1,s.2.2))else(0,s.2.1,s.2.2)
noncomputable def B8(a b:Nat→Nat):Nat→Nat→Nat×Nat×Nat→Nat×Nat×Nat
 |0,_,s=>s
 |n+1,i,s=>B8 a b n (i+1) (D9 a b i s)
inductive Fl
 |s0
 |s1 (y1 y2 y3 x0 x1 x2 x3:Nat)
 |s2 (z y1 y2 y3 y4 y5 x0 x1 x2 x3 x4 x5 x6 x7:Nat)
 |s3 (r z g tr y1 y2 y3 y4 y5 x0 x1 x2 x3 x4 x5 x6 x7:Nat)
noncomputable def Fl.r:Fl→Nat
 | .s3 r .. =>r+1
 |_=>0
noncomputable def Fl.z:Fl→Nat
 | .s2 z .. =>z+1
 | .s3 _ z .. =>z+1
 |_=>0
noncomputable def Fl.x(P:Aj):Fl→List DictEntry
 | .s0=>[]
 | .s1 a b c d e g h=>Ku P a b c d e g h
 | .s2 _ a b c i j d e g h k l m n=>Fv P a b c i j d e g h k l m n
 | .s3 _ _ _ _ a b c i j d e g h k l m n=>Fv P a b c i j d e g h k l m n
noncomputable def Fl.nx:Fl→Nat
 | .s0=>14
 | .s1 .. =>17
 |_=>19
noncomputable def Fl.ej(i:Nat):Fl→List DictEntry
 | .s3 r _ g a .. =>[⟨hashInt (i-1:Nat),.int (i-1:Nat) g,.int (r+1:Nat) a⟩]
 |_=>[]
noncomputable def Fl.nj:Fl→Nat
 | .s3 .. =>1
 |_=>0
noncomputable abbrev GX(a b c:Nat→Nat):=(BI a b (λk=>.ref (c k)) 8)
noncomputable abbrev B2(P:Aj)(b g l:Nat→Nat):Obj:=di (Bg P (GX b g l)) 8
noncomputable def AZ(l a:Nat→Nat):Ae:=(List.range 8).map λk=>(l k,li [.int k (a k)] 1)
theorem kH{a:Type}: ∀(l:List a) (i:Nat) (x:a),l[i]? =some x→(x::l.eraseIdx i).Perm l:=by
 intro l
 induction l with
 |nil=>intro i x h;cases i <;> cases h
 |cons y l b=>
  intro i x h;cases i with
  |zero=>cases h;exact AW _
  |succ i=>exact(List.Perm.swap y x _).trans ((b i x h).cons y)
theorem kI(l a:Nat→Nat){i:Nat}(b:i<8)(X:Ae):((X++[(l i,li [.int i (a i)] 1)])++(AZ l a).eraseIdx i).Perm (X++AZ l a):=by
 rw[Dr];refine List.Perm.append_left X ?_;exact kH _ i _ (by simp[AZ,Ll b])
theorem EO{w:Aa}{A:Al}{c:Code}{L Lt:Ae}{B:Result→Ae→List Nat→Prop}{H:List Nat}{E:List (Nat×(List Nat→List Nat→List Obj→Ak))}{W:List Wd}{j d u n N:Nat}{C:List Nat}{f:Au→Au→AU→Code}{D:Au→Au→AU→Ae}
  (k:AI w n c L H E W j d u C (λb a g=>.again (f b a g)) D N) (F:Ae) (G:(L++F).Perm Lt) (tk:List Nat) (P:A.handled=none) (Q:A.depth≤d) (R:A.units≤u) (X: ∀q∈E,∀l i m,Av w (q.2 l i m)) (Y: ∀q∈W,∀l i m,(q.2 l i m).1=(q.2 l i m).2)
  (fi: ∀b a g,∃v,(D b a g++F).Perm v∧RunsW w A (f b a g) v λr o i=>B r o (tk.map a++i)) (y:BR C=true:=by rfl) (I:Gd tk 0 N=true:=by rfl):RunsW w A c Lt B:=by
 intro s S;have J:=S.perm G.symm;refine N0 GJ (GL pw w w) (FJ pw w) (hS w) (H:=H) (E:=E) (W:=W) (ag:=j) n P Q R (λq T l i m _ _=>(X q T l i m).frm) Y J.left λb a g=> ?_;have h:=Ge k b a g;have U:=Am Prod.fst h;have V:=Am (λx=>x.2.1) h;have Z:=Am (λx=>x.2.2.1) h;have h4:(walk w n b a g c L H E W j d u).ts=Dj a N:=Am (λx=>x.2.2.2) h;refine⟨U,λK st ri _=> ?_⟩;have M:=st.pick Z y;have O:AY s.toks K.toks (tk.map a):=ri.sub (by
  show(tk.map a).Sublist (walk w n b a g c L H E W j d u).ts;rw[h4,Kj];have:=(Kk I).map a;rwa[Kd,←Hk]at this)
 have e1:(Ej den rooms GM ⟨pw,w.2⟩ ⟨pw,(wR true w).params⟩ ⟨pw,(wR false w).params⟩ (kt w) n b a g ⟨den c,c,[],L,[],[],[],H,E,W,j,d,u,.free⟩).e= .again (f b a g):=V;rw[e1];obtain⟨v,q,z⟩:=fi b a g;have t:=(M.frame J).permR q;refine B4 (z K t.sat) ?_;rintro r aa ⟨o,i,x1,x2,x3⟩;exact⟨o,_,x1,(t.trans x2).permL G,O.app x3⟩
theorem FM(l a:Nat→Nat){i:Nat}(h:i<8)(b c d e g:Addr×Obj):(([b,c,d,e,g,(l i,li [.int i (a i)] 1)]:Ae)++(AZ l a).eraseIdx i).Perm (([b,c,d,e,g]:Ae)++AZ l a):=kI l a h [b,c,d,e,g]
inductive kJ (P:Aj) (f it m lo hi j2 jb no t u:Nat) (e s a b g l g':Nat→Nat) (R:Nat×Nat×Nat) (r':Result) (L':Ae) (ts:List Nat):Prop
 |mk (h:r'= .ok .next) (o1 oj:Obj) (jl tz tq tp nx:Nat) (x:List DictEntry) (hL:L'=[(f,Cj P e m lo hi s a b t u j2 jb no jl R.2.1 R.2.2 tz tq tp x nx),(it,o1),(j2,B2 P b g l),(jl,oj),(no,li [] 0)]++AZ l g')
theorem Qv{a b:Nat→Nat}{n i r p z:Nat}{R:Nat×Nat×Nat}(c:a i=b i)(h:B8 a b (n+1) i (r,p,z)=R)(hz:z<r+1):B8 a b n (i+1) (r+1,i-r,r+1)=R:=by
 have e:D9 a b i (r,p,z)=(r+1,i-r,r+1):=(AS c).trans (AS hz);exact(Am (B8 a b n (i+1)) e).symm.trans h
theorem UB{a b:Nat→Nat}{n i r p z:Nat}{R:Nat×Nat×Nat}(c:a i=b i)(h:B8 a b (n+1) i (r,p,z)=R)(hz: ¬z<r+1):B8 a b n (i+1) (r+1,p,z)=R:=by
 have e:D9 a b i (r,p,z)=(r+1,p,z):=(AS c).trans (AH hz);exact(Am (B8 a b n (i+1)) e).symm.trans h
theorem kK{a b:Nat→Nat}{n i r p z:Nat}{R:Nat×Nat×Nat}(c: ¬a i=b i)(h:B8 a b (n+1) i (r,p,z)=R):B8 a b n (i+1) (0,p,z)=R:=
 (Am (B8 a b n (i+1)) (show D9 a b i (r,p,z)=(0,p,z)from AH c)).symm.trans h
noncomputable abbrev kL(P:Aj)(a b g l h:Nat→Nat)(j i n t k no m o R:Nat)(r:List DictEntry)(v:List Nat→Value):List (List Nat→List Nat→List Obj→Ak):=
 [λd c e=>Fu j i n,λd c e=>Cd a t i (tk c 0),λd c e=>FK k (Bg P (GX b g l)) 8 (.str (c1 (a i)) (tk c 5)) (.ref no) (.ref (l i)),λd c e=>IL (tk d 0) m r o (.int ((i:Int)-1) (tk c 8)) (Bu (tk c 9)) (v c),λd c e=>GQ (tk d 1) [] 0 (hashInt i) (.int i (h i)) (.int (R+1:Nat) (tk c 11))]
theorem Mj{w:Aa}{a b g l h:Nat→Nat}{j i n t k no m o R:Nat}{d:List DictEntry}{v:List Nat→Value}(r:Lt a)(s:Lt b)(u:i+n<8)(e:a i=b i)(y:KeysOf (intKind pw w) ⟨d⟩)(z: ∀c:List Nat,(findBy (intKind pw w).is ⟨d⟩ ((i:Int)-1)).getD (Bu (tk c 9))=v c):DD w (kL w.2 a b g l h j i n t k no m o R d v):=by
 have A:findBy (strKind pw w).is ⟨Bg w.2 (GX b g l)⟩ (c1 (a i))=some (.ref (l i)):=by
  rw[GU];exact Qq s r (by (first|lia|omega)) (by (first|lia|omega)) e.symm
 exact Ah (λ_ _ _=>JH u) (Ah (λ_ _ _=>HF (by (first|lia|omega))) (Ah (λ_ _ _=>Kr (strKind pw w) (GV w _ _) (GT w _) (by rw[A];rfl)) (Ah (λ_ c _=>Uz y (z c)) (Ah (λ_ _ _=>Ov (intKind pw w) (Mi w _ _) rfl (Kw w) rfl (by (first|((repeat(first|exact .head _|apply List.mem_cons_of_mem));done)|simp))) AC))))
noncomputable abbrev UC(i d e R z:Nat)(q:Bool):List (List Nat→List Nat→List Obj→Value×Value):=[λb a c=>(.bool (decide ((i:Int)<d)),.bool false),λb a c=>(.bool (decide ((i:Int)≥e)),.bool false),λb a c=>(.int ((R:Nat)+1) (tk a 11),.int (R+1:Nat) (tk a 11)),λb a c=>(.bool (decide (((R+1:Nat):Int)> z)),.bool q)]
theorem UD{i a b R z:Nat}{q:Bool}(d:a≤i)(e:i<b)(c:decide (((R+1:Nat):Int)> z)=q):E8 (UC i a b R z q):=
 Az (λ_ _ _=>Am Value.bool (BQ (by (first|lia|omega)))) (Az (λ_ _ _=>Am Value.bool (BQ (by (first|lia|omega)))) (Az (λ_ _ _=>rfl) (Az (λ_ _ _=>Am Value.bool c) Bp)))
theorem Qw{i b c R z:Nat}(h:b≤i)(j:i<c)(hz:z<R+1)(k:R≤i):E8 (UC i b c R z true++[λd a g=>(.int ((i:Int)-(R+1:Nat)+1) (tk a 15),.int (i-R:Nat) (tk a 15)),λd a g=>(.int ((i:Int)-(R+1:Nat)+1) (tk a 18),.int (i-R:Nat) (tk a 18))]):=by
 have e:(i:Int)-(R+1:Nat)+1=(i-R:Nat):=by (first|lia|omega)
 exact Az (λ_ _ _=>Am Value.bool (BQ (by (first|lia|omega)))) (Az (λ_ _ _=>Am Value.bool (BQ (by (first|lia|omega)))) (Az (λ_ _ _=>rfl) (Az (λ_ _ _=>Am Value.bool (C3 (by (first|lia|omega)))) (Az (λ_ a _=>Am (λx=>Value.int x (tk a 15)) e) (Az (λ_ a _=>Am (λx=>Value.int x (tk a 18)) e) Bp)))))
theorem Kx{w:Aa}{A:Al}{c:Code}{L a:Ae}{b:Result→Ae→List Nat→Prop}(d:L.Perm a)(h:RunsW w A c a b):RunsW w A c L b:=λs S=>
 B4 (h s (S.perm d)) λr l z=>by
  obtain⟨e,g,i,j,k⟩:=z;exact⟨e,g,i,j.permL d.symm,k⟩
theorem GY{w:Aa}{A:Al}{c:Code}{L Lt:Ae}{l:Result→Ae→List Nat→Prop}{H:List Nat}{E:List (Nat×(List Nat→List Nat→List Obj→Ak))}{W:List Wd}{r d u n N:Nat}{m:List Nat}{f:Au→Au→AU→Code}{o:Au→Au→AU→Ae}
  (k:AI w n c L H E W r d u m (λa b e=>.again (f a b e)) o N) (F:Ae) (s:(L++F).Perm Lt) (t:A.handled=none) (v:A.depth≤d) (y:A.units≤u) (X: ∀q∈E,∀g h i,Av w (q.2 g h i)) (Y: ∀q∈W,∀g h i,(q.2 g h i).1=(q.2 g h i).2)
  (fi: ∀a b e,RunsW w A (f a b e) (o a b e++F) l) (j:BR m=true:=by rfl):RunsW w A c Lt l:=
 EO k F s [] t v y X Y (λa b e=>⟨_,.refl _,fi a b e⟩) j rfl
theorem kN{w:Aa}{A:Al}(P:A.handled=none)(Q:A.depth≤620)(S:A.units≤4000){f B m D hi y F no t u:Nat}{e s a b g l c:Nat→Nat}(ha:Lt a)(hb:Lt b)(h8:hi≤8){R:Nat×Nat×Nat}:
  ∀(n i:Nat),i+n=hi→D≤i→ ∀(d:Fl) (p v tz C tp:Nat),B8 a b n i (d.r,p,d.z)=R→d.r≤i→
   RunsW w A (CR B f) ([(f,Cj w.2 e m D hi s a b t u y F no v p d.z tz C tp (d.x w.2) d.nx),(B,Bb i n),(y,B2 w.2 b g l),(v,di (d.ej i) d.nj),(no,li [] 0)]++AZ l c)
    (kJ w.2 f B m D hi y F no t u e s a b g l c R):=by
 intro n
 induction n with
 |zero=>
  intro i aa T d p v tz C tp G H;subst G;exact Gj ([(y,B2 w.2 b g l),(v,di (d.ej i) d.nj),(no,li [] 0)]++AZ l c) (L1:=[(f,Cj w.2 e m D hi s a b t u y F no v p d.z tz C tp (d.x w.2) d.nx),(B,Bb i 0)]) (AW _)
   (Bf (kG w f B i _) [] P Q S AR Ar (Φ:=λr L' U=>r= .ok .next∧L'=[(f,Cj w.2 e m D hi s a b t u y F no v p d.z tz C tp (d.x w.2) d.nx),(B,fi Ex [.int i 0,.int 0 0,.int 1 0])]) λV W Y=>⟨rfl,rfl⟩) λr' L0 U h=>⟨_,AW _,h.1,fi Ex [.int i 0,.int 0 0,.int 1 0],di (d.ej i) d.nj,v,tz,C,tp,d.nx,d.x w.2,Am (· ++([(y,B2 w.2 b g l),(v,di (d.ej i) d.nj),(no,li [] 0)]++AZ l c)) h.2⟩
 |succ n ih=>
  intro i aa T d p v tz C tp G H;have i8:i+n<8:=by (first|lia|omega)
  have j:i<8:=by (first|lia|omega)
  have E:=ih (i+1) (by (first|lia|omega)) (by (first|lia|omega));have Z:i<hi:=by (first|lia|omega)
  clear ih aa
  by_cases o:a i=b i
  ·cases d with
   |s0=>exact GY (wY w f B m D _ y F no v p 0 tz C tp i n e s a b t u _ [] 8 0 0 0 0 0 0 0 0 0 0 0 0 0 0 (l i) (c i) 0 0) ((AZ l c).eraseIdx i) (FM l c j _ _ _ _ _) P Q S (AD _ _ (Mj ha hb i8 o (Kw w) λ_=>rfl)) (Bi _ _ (Qw T Z (Gb _) H)) λV W Y=>Kx (FM l c j _ _ _ _ _) (E (.s3 0 0 ..) _ _ _ _ _ (Qv o G (Gb _)) (Eu H))
   |s1 I J K L M N O=>exact GY (kA w f B m D _ y F no v p 0 tz C tp i n e s a b t u _ [] 8 0 L M N O 0 0 0 0 I J K 0 0 (l i) (c i) 0 0) ((AZ l c).eraseIdx i) (FM l c j _ _ _ _ _) P Q S (AD _ _ (Mj ha hb i8 o (Kw w) λ_=>rfl)) (Bi _ _ (Qw T Z (Gb _) H)) λV W Y=>Kx (FM l c j _ _ _ _ _) (E (.s3 0 0 ..) _ _ _ _ _ (Qv o G (Gb _)) (Eu H))
   |s2 z I J K y4 y5 L M N O x4 x5 x6 x7=>exact GY (kD w f B m D _ y F no v p (z+1) tz C tp i n e s a b t u _ [] 8 0 L M N O x4 x5 x6 x7 I J K y4 y5 (l i) (c i) 0 0) ((AZ l c).eraseIdx i) (FM l c j _ _ _ _ _) P Q S (AD _ _ (Mj ha hb i8 o (Kw w) λ_=>rfl)) (Bi _ _ (UD (R:=0) T Z (BQ (by (first|lia|omega))))) λV W Y=>Kx (FM l c j _ _ _ _ _) (E (.s3 0 z ..) _ _ _ _ _ (UB o G (show¬z+1<0+1 by (first|lia|omega))) (Eu H))
   |s3 r z gg tr I J K y4 y5 L M N O x4 x5 x6 x7=>
    have H:r+1≤i:=H;have hv: ∀U:List Nat,(findBy (intKind pw w).is ⟨[⟨hashInt (i-1:Nat),.int (i-1:Nat) gg,.int (r+1:Nat) tr⟩]⟩ ((i:Int)-1)).getD (Bu (tk U 9))= .int (r+1:Nat) tr:=λU=>by
     have e:(i:Int)-1=(i-1:Nat):=by (first|lia|omega)
     rw[e];have:(intKind pw w).is ((i-1:Nat):Int) (.int (i-1:Nat) gg)=true:=Mi w _ _;simp[findBy,←Array.find?_toList,this]
    by_cases hz:z+1<r+1+1
    ·exact GY (kB w f B m D _ y F no v p (z+1) tz C tp i n e s a b t u _ _ 8 1 L M N O x4 x5 x6 x7 I J K y4 y5 (l i) (c i) (r+1) tr) ((AZ l c).eraseIdx i) (FM l c j _ _ _ _ _) P Q S (AD _ _ (Mj ha hb i8 o (UA w _ _ _) hv)) (Bi _ _ (Qw T Z hz H)) λV W Y=>Kx (FM l c j _ _ _ _ _) (E (.s3 (r+1) (r+1) ..) _ _ _ _ _ (Qv o G hz) (Eu H))
    ·exact GY (kC w f B m D _ y F no v p (z+1) tz C tp i n e s a b t u _ _ 8 1 L M N O x4 x5 x6 x7 I J K y4 y5 (l i) (c i) (r+1) tr) ((AZ l c).eraseIdx i) (FM l c j _ _ _ _ _) P Q S (AD _ _ (Mj ha hb i8 o (UA w _ _ _) hv)) (Bi _ _ (UD T Z (BQ (by (first|lia|omega))))) λV W Y=>Kx (FM l c j _ _ _ _ _) (E (.s3 (r+1) z ..) _ _ _ _ _ (UB o G hz) (Eu H))
  ·have nf:findBy (strKind pw w).is ⟨Bg w.2 (GX b g l)⟩ (c1 (a i))=none:=by
    rw[GU];exact Ks hb ha (by (first|lia|omega)) j λk hk q=>o (by
     have:=hb.inj ha (by (first|lia|omega)) j q;rw[this]at q;exact q.symm)
   have X:DD w [λas U gh=>Fu B i n,λas U gh=>Cd a t i (tk U 0),λas U gh=>FK y (Bg w.2 (GX b g l)) 8 (.str (c1 (a i)) (tk U 5)) (.ref no) (.ref no)]:=
    Ah (λ_ _ _=>JH i8) (Ah (λ_ _ _=>HF j) (Ah (λ_ _ _=>Kr (strKind pw w) (GV w _ _) (GT w _) (by rw[nf];rfl)) AC))
   have G:=kK o G;clear H o;cases d with
   |s0=>exact GY (wX w f B m D _ y F no v p 0 tz C tp i n e s a b t u _ [] 8 0 0 0 0 0 0 0 0 0 0 0 0 0 0 0 0 0 0) (AZ l c) (AW _) P Q S (AD _ _ X) Ar λV W Y=>E (.s1 ..) _ _ _ _ _ G (B7 _)
   |s1 I J K L M N O=>exact GY (wZ w f B m D _ y F no v p 0 tz C tp i n e s a b t u _ [] 8 0 L M N O 0 0 0 0 I J K 0 0 0 0 0 0) (AZ l c) (AW _) P Q S (AD _ _ X) Ar λV W Y=>E (.s1 ..) _ _ _ _ _ G (B7 _)
   |s2 z I J K y4 y5 L M N O x4 x5 x6 x7=>exact GY (Ux w f B m D _ y F no v p (z+1) tz C tp i n e s a b t u _ [] 8 0 L M N O x4 x5 x6 x7 I J K y4 y5 0 0 0 0) (AZ l c) (AW _) P Q S (AD _ _ X) Ar λV W Y=>E (.s2 z ..) _ _ _ _ _ G (B7 _)
   |s3 r z gg tr I J K y4 y5 L M N O x4 x5 x6 x7=>exact GY (Ux w f B m D _ y F no v p (z+1) tz C tp i n e s a b t u _ _ 8 1 L M N O x4 x5 x6 x7 I J K y4 y5 0 0 0 0) (AZ l c) (AW _) P Q S (AD _ _ X) Ar λV W Y=>E (.s2 z ..) _ _ _ _ _ G (B7 _)
theorem kP(l b:Nat→Nat){a:Nat}(j:a<8)(d e g h i c:Addr×Obj):(([d,e,g,h,i,(l a,li [.int a (b a)] 1),c]:Ae)++(AZ l b).eraseIdx a).Perm (([d,e,g,h,i]++AZ l b)++[c]):=by
 have k:(([d,e,g,h,i,(l a,li [.int a (b a)] 1),c]:Ae)++(AZ l b).eraseIdx a).Perm (([d,e,g,h,i,(l a,li [.int a (b a)] 1)]++(AZ l b).eraseIdx a)++[c]):=by
  show(d::e::g::h::i::(l a,li [.int a (b a)] 1)::(c::(AZ l b).eraseIdx a)).Perm (d::e::g::h::i::(l a,li [.int a (b a)] 1)::((AZ l b).eraseIdx a++[c]));refine List.Perm.cons _ (List.Perm.cons _ (List.Perm.cons _ (List.Perm.cons _ (List.Perm.cons _ (List.Perm.cons _ ?_)))));exact ED (l₁:=[c])
 exact k.trans ((FM l b j d e g h i).append_right [c])
theorem kQ(l b:Nat→Nat)(c d e g h a:Addr×Obj):(([c,d,e,g,h,a]:Ae)++AZ l b).Perm (([c,d,e,g,h]++AZ l b)++[a]):=by
 show(c::d::e::g::h::(a::AZ l b)).Perm (c::d::e::g::h::(AZ l b++[a]));refine List.Perm.cons _ (List.Perm.cons _ (List.Perm.cons _ (List.Perm.cons _ (List.Perm.cons _ ?_))));exact ED (l₁:=[a])
inductive UE (P:Aj) (f it m lo hi j2 jb no t u jl:Nat) (e s a b g l g':Nat→Nat) (R:Nat×Nat×Nat) (r':Result) (L':Ae) (ts:List Nat):Prop
 |mk (h:r'= .ok .next) (o1 oj:Obj) (jl' tz tq tp nx:Nat) (x:List DictEntry) (hL:L'=[(f,Cj P e m lo hi s a b t u j2 jb no jl' R.2.1 R.2.2 tz tq tp x nx),(it,o1),(j2,B2 P b g l),(jl,di [] 0),(no,li [] 0)]++AZ l g'++[(jl',oj)])
theorem kR{w:Aa}{A:Al}(I:A.handled=none)(J:A.depth≤620)(K:A.units≤4000){f r m c v y D no t u i tz o tp n:Nat}{e s a b g l h:Nat→Nat}(G:Lt a)(H:Lt b)(M:v≤8)(Y:c+(n+1)=v):
   RunsW w A (CR r f) ([(f,Cj w.2 e m c v s a b t u y D no i c 0 tz o tp [] 14),(r,Bb c (n+1)),(y,B2 w.2 b g l),(i,di [] 0),(no,li [] 0)]++AZ l h)
    (UE w.2 f r m c v y D no t u i e s a b g l h (B8 a b (n+1) c (0,c,0))):=by
 have z:c<8:=by (first|lia|omega)
 have fin: ∀(d:Fl) (p B tz o tp:Nat),d.r≤c+1→
   RunsW w A (CR r f) (([(f,Cj w.2 e m c v s a b t u y D no B p d.z tz o tp (d.x w.2) d.nx),(r,Bb (c+1) n),(y,B2 w.2 b g l),(B,di (d.ej (c+1)) d.nj),(no,li [] 0)]++AZ l h)++[(i,di [] 0)])
    (UE w.2 f r m c v y D no t u i e s a b g l h (B8 a b n (c+1) (d.r,p,d.z))):=λd p B tz o tp N=>
  Gj [(i,di [] 0)] (AW _) (kN I J K G H M n (c+1) (by (first|lia|omega)) (by (first|lia|omega)) d p B tz o tp rfl N) λZ L0 F O=>by
   obtain⟨P,o1,E,j,tz,o,tp,Q,x,R⟩:=O;refine⟨_,?_,P,o1,E,j,tz,o,tp,Q,x,rfl⟩;rw[R];refine List.Perm.cons _ (List.Perm.cons _ (List.Perm.cons _ ?_));show(((j,E)::(no,li [] 0)::AZ l h)++[(i,di [] 0)]).Perm ((i,di [] 0)::(no,li [] 0)::(AZ l h++[(j,E)]));have S:(((j,E)::(no,li [] 0)::AZ l h)++[(i,di [] 0)]).Perm ((i,di [] 0)::(j,E)::(no,li [] 0)::AZ l h):=ED;refine S.trans (List.Perm.cons _ ?_);exact(List.Perm.swap _ _ _).trans (List.Perm.cons _ (ED (l₁:=[(j,E)])))
 by_cases C:a c=b c
 ·have L:B8 a b (n+1) c (0,c,0)=B8 a b n (c+1) (1,c-0,1):=by
   refine (?_:B8 a b n (c+1) (D9 a b c (0,c,0))=_);unfold D9;rw[AS C,AS (by (first|((repeat(first|exact .head _|apply List.mem_cons_of_mem));done)|simp))]
  rw[L];have T:findBy (strKind pw w).is ⟨Bg w.2 (GX b g l)⟩ (c1 (a c))=some (.ref (l c)):=by
   rw[GU];exact Qq H G (by (first|lia|omega)) z C.symm
  refine EO (kF w f r m c v y D no i c 0 tz o tp c n e s a b t u _ [] 8 0 0 0 0 0 0 0 0 0 0 0 0 0 0 (l c) (h c) 0 0) ((AZ l h).eraseIdx c) (FM l h z _ _ _ _ _) [] I J K
   (AD _ _ (Ah (λ_ _ _=>JH (by (first|lia|omega))) (Ah (λ_ _ _=>HF z) (Ah (λ_ _ _=>Kr (strKind pw w) (GV w _ _) (GT w _) (by rw[T];rfl)) (Ah (λ_ F _=>Uz (Kw w) rfl) (Ah (λ_ _ _=>Ov (intKind pw w) (Mi w _ _) rfl (Kw w) rfl (by (first|((repeat(first|exact .head _|apply List.mem_cons_of_mem));done)|simp))) AC))))))
   (Bi _ _ ?_) λU V W=>⟨_,kP l h z _ _ _ _ _ _,fin (.s3 0 0 ..) (c-0) _ _ _ _ (Eu (B7 _))⟩
  have e:(c:Int)-(0+1:Nat)+1=(c-0:Nat):=by (first|lia|omega)
  exact Az (λ_ _ _=>Am Value.bool (BQ (by (first|lia|omega)))) (Az (λ_ _ _=>Am Value.bool (BQ (by (first|lia|omega)))) (Az (λ_ _ _=>rfl) (Az (λ_ _ _=>Am Value.bool (C3 (by (first|lia|omega)))) (Az (λ_ F _=>Am (λx=>Value.int x (tk F 15)) e) (Az (λ_ F _=>Am (λx=>Value.int x (tk F 18)) e) Bp)))))
 ·have L:B8 a b (n+1) c (0,c,0)=B8 a b n (c+1) (0,c,0):=by
   refine (?_:B8 a b n (c+1) (D9 a b c (0,c,0))=_);unfold D9;rw[AH C]
  rw[L];have X:findBy (strKind pw w).is ⟨Bg w.2 (GX b g l)⟩ (c1 (a c))=none:=by
   rw[GU];exact Ks H G (by (first|lia|omega)) z λk hk q=>C (by
    have:=H.inj G (by (first|lia|omega)) z q;rw[this]at q;exact q.symm)
  exact EO (kE w f r m c v y D no i c 0 tz o tp c n e s a b t u _ [] 8 0 0 0 0 0 0 0 0 0 0 0 0 0 0 0 0 0 0) (AZ l h) (AW _) [] I J K
   (AD _ _ (Ah (λ_ _ _=>JH (by (first|lia|omega))) (Ah (λ_ _ _=>HF z) (Ah (λ_ _ _=>Kr (strKind pw w) (GV w _ _) (GT w _) (by rw[X];rfl)) AC)))) Ar
   λU V W=>⟨_,kQ l h _ _ _ _ _ _,fin (.s1 ..) c _ _ _ _ (B7 _)⟩
theorem kS:P4= .type "tuple":=by
 refine (?_:Value.type s2766695959194262286x5=_);rw[←e2766695959194262286x5]
theorem JI(a:List Value)(n:Nat):tu a n={cls:=.type "tuple",dict:=none,data:=.seq ⟨a⟩ n,slots:= #[]}:=by
 refine (?_:Obj.mk P4 none _ _=_);rw[kS]
noncomputable def IM(c:String)(x:Nat)(v:Value)(b:List Value)(n:Nat):Ak:=
 {d:=900,u:=9000,h:=none,c:=.builtin c ⟨[.ref x],[]⟩,idx:=[],pre:=[(x,tu (v::b) n)],na:=1,nt:=0,r:=λa _=>.ok (.ret (.ref (a.getD 0 0))),outs:=λ_ _ _=>[tu (v::b) n],news:=λ_ _ _=>[li (v::b) 1]}
theorem UF{w:Aa}{c:String}{x n:Nat}{v:Value}{a:List Value}(g:c="proto.collect")(h:a.length≤1000):Av w (IM c x v a n):=by
 refine GR λA s u y z S R j=> ?_;have k:=S.mem (x,tu (v::a) n) (by simp[IM]);refine (?_:codeAny _ _ (.builtin c ⟨[.ref x],[]⟩) _ s);rw[g];refine EG F.entry_proto_collect ?_;rw[EE F.plain_proto_collect _];refine (?_:wpAny _ A.in1 (newList []>>=λl=>again (.builtin "list.__iadd__" ⟨[l,.ref x],[]⟩)) _ _ s);have d:=S.push (o:=li [] 0) rfl;have b:=d.sat.set (i:=1) (p:=(s.heap.objs.size,li [] 0)) rfl (f:=Obj.mapSeq (· ++(⟨v::a⟩:Array Value))) rfl;have m:Obj.mapSeq (· ++(⟨v::a⟩:Array Value)) (li [] 0)=li (v::a) 1:=by
  simp[Obj.mapSeq]
 dsimp only at b;rw[m]at b;have r:=d.trans b;have t:li [] 0={cls:=.type "list",data:=.seq ([]:List Value).toArray}:=BW [] 0;refine Af (wpAny_newObj_type ?_);refine Aq ⟨plainId_quiet F.plain_list_iadd _,EG F.entry_list_iadd ?_⟩;rw[EE F.plain_list_iadd _];refine (?_:wpAny _ A.in1 (Builtin.List.listExtendWith (.ref s.heap.objs.size) (.ref x) (.ref s.heap.objs.size)) _ _ _);have hS:(s.heap.push {cls:=.type "list",data:=.seq ([]:List Value).toArray}).get? s.heap.objs.size=some {cls:=.type "list",data:=.seq #[] 0}:=Heap.get?_push_size _ rfl;have e:=k;rw[JI]at e;refine wpAny_extend_seq (hsz:=by show(v::a).length≤_;exact Ay (Eu h) (by decide)) (A:=A) (R:=R)
  (s:={s with heap:=s.heap.push {cls:=.type "list",data:=.seq ([]:List Value).toArray}}) _ x _ 0 (.inr rfl) hS (Heap.get?_push_of_some _ e) rfl rfl ?_
 rw[←t];exact j _ [s.heap.objs.size] [] [] rfl rfl rfl r (A7 _)
noncomputable abbrev JJ:String:=s14938210572253517480x13
theorem UG:JJ="proto.collect":=e14938210572253517480x13.symm
noncomputable abbrev UH:String:=s3845080603208081625x14
noncomputable def Mk(b e s0 s1:Nat):Ak:=
 {d:=900,u:=9000,h:=none,c:=.call Od ⟨[.int b s0,.int e s1],[]⟩,idx:=[],pre:=[],na:=1,nt:=1,r:=λa _=>.ok (.ret (.ref (a.getD 0 0))),outs:=λ_ _ _=>[],news:=λ_ t _=>[fi Od [.int b s0,.int e s1,.int 1 (t.getD 0 0)]]}
noncomputable abbrev Ml(a b c d e:Nat):=fi Od [.int a b,.int c d,.int 1 e]
noncomputable def Mm(x b e s0 s1 s2:Nat):Ak:=
 {d:=900,u:=9000,h:=none,c:=.call (.builtin UH) ⟨[.ref x],[]⟩,idx:=[],pre:=[(x,Ml b s0 e s1 s2)],na:=1,nt:=0,r:=λa _=>.ok (.ret (.ref (a.getD 0 0))),outs:=λ_ _ _=>[Ml b s0 e s1 s2],news:=λ_ t _=>[Bb b (e-b)]}
noncomputable def kT(o:Obj):List DictEntry:=match o.data with
 | .dict a _=>a.toList
 |_=>[]
noncomputable def Ky(P:Aj)(f n m i j k v no w t u tz A tp p z:Nat)(e s a b g l y:Nat→Nat):Ak:=
 {d:=620,u:=4000,h:=none,c:=BS Uw n (Uv f),idx:=[],pre:=[(f,Cj P e m i j s a b t u k v no w i 0 tz A tp [] 14),(n,Bb i (j-i)),(k,B2 P b g l),(w,di [] 0),(no,li [] 0)]++AZ l y,na:=1,nt:=0,no:=7,r:=λ_ _=>.ok .next,
  outs:=λx _ o=>[Cj P e m i j s a b t u k v no (x.getD 0 0) p z (Ao o 2) (Ao o 3) (Ao o 4) (kT (o.getD 5 default)) (Ao o 6),o.getD 0 default,B2 P b g l,di [] 0,li [] 0]++(AZ l y).map (·.2),news:=λ_ _ o=>[o.getD 1 default]}
noncomputable abbrev EP(d p z tp a tz:Nat):Obj:=⟨.ref 163,some d,.seq ⟨[.int p tp,.int p a,.int z tz]⟩ 0,⟨[]⟩⟩
theorem kU(w:Aa)(b a s0 s1:Nat)(h:b<a)(e:a≤8):
  AI w 19 (.call Od ⟨[.int b s0,.int a s1],[]⟩) ([]) [1,1,1,1] [] [] 2 900 9000 [0]
   (λc d g=>.done (.ret (.ref (c 0)))) (λc d g=>[(c 0,Ml b s0 a s1 (d 0))]) 1:=by
 have i:a<9:=by (first|lia|omega)
 clear e;revert b;revert a;exact Ty 9 (by kernel_rfl)
theorem kW(w:Aa)(x b a s0 s1 s2:Nat)(h:b<a)(d:a≤8):
  AI w 12 (.call (.builtin UH) ⟨[.ref x],[]⟩) ([(x,Ml b s0 a s1 s2)]) [1,1,1,1] [] [] 2 900 9000 [0,1]
   (λc e g=>.done (.ret (.ref (c 0)))) (λc e g=>[(x,Ml b s0 a s1 s2),(c 0,Bb b (a-b))]) 0:=by
 have i:a<9:=by (first|lia|omega)
 clear d;revert b;revert a;exact Ty 9 (by kernel_rfl)
noncomputable abbrev OG(a:List Nat):=[tk a 0,tk a 1,tk a 2,tk a 3,tk a 4,tk a 11,tk a 12,tk a 13,tk a 14,tk a 16,tk a 17,tk a 18,tk a 19,tk a 20]
theorem kY(w:Aa)(m d n r A j k p z:Nat)(q s a b g l y:Nat→Nat)(B:Value)(t u:Nat):
  AI w 544 (.call (.ref 224) ⟨[.ref m,.int j (s 0),.int k (s 1),.int j (s 2),.int k (s 3)],[]⟩) ([(m,mO d),(d,AT w.2 q (AG a t) (AG b u) .none B n r A),(r,CD w.2),(n,B2 w.2 b g l)]++AZ l y) (rl 528 0xdc47f739cbd50494393cec14df72f8cd18ed6f27b0038e7a0957489fd055230dcdfa7099004c6242998c7097c7365da48d8d1fce6aaa13271a7dc96fb2c303cd19a929adae2ccf0a9f224e521ccb4383f7cfe084ed4c320c640e748e9e8b060b12b85007a94d3fa3b51d14f0eae1e1ded5f7a095b3553b357827cfabe42b00ac06bad68b818c0dee1b59ecc562ee6a59817315) (AE [(18,[]),(0,[24]),(0,[12,25,3,22,23,4,5,6,7,8,9,10,11]),(16,[28])] ([λc e h=>Mk j k (s 0) (s 1),λc e h=>Mm (tk c 12) j k (s 0) (s 1) (tk e 21),λc e h=>Ky w.2 (tk c 0) (tk c 13) m j k n (tk c 1) (tk c 11) (tk c 10) t u (tk e 15) (s 2) (s 0) p z (λi=>(OG e).getD i 0) s a b g l y,λc e h=>IM JJ (tk c 16) (.int p (Ao h 4)) [.int p (Ao h 3),.int z (Ao h 2)] 0])) (Bh [16,1,0,1] [λc e h=>(.bool (decide ((p:Int)> j)),.bool false),λc e h=>(.bool (decide ((p:Int)+z<k)),.bool false),λc e h=>(.bool (decide ((p:Int)> j)),.bool false),λc e h=>(.bool (decide ((p:Int)+z<k)),.bool false)]) 1 600 3800 (zr 12 [31,30])
   (λo C v=>.done (.ret (.ref (o 19)))) (λo C v=>[(m,mO d),(d,AT w.2 q (AG a t) (AG b u) .none B n r A),(r,CD w.2),(n,B2 w.2 b g l)]++AZ l y++[(o 19,EP (o 18) p z (BP (v 4)) (BP (v 3)) (BP (v 2))),(o 18,di [] 0)]) 31:=by
 kernel_rfl
theorem kZ(w:Aa)(m d n r A k j p z:Nat)(q s a b g l y:Nat→Nat)(B:Value)(t u:Nat):
  AI w 677 (.call (.ref 224) ⟨[.ref m,.int k (s 0),.int j (s 1),.int k (s 2),.int j (s 3)],[]⟩) ([(m,mO d),(d,AT w.2 q (AG a t) (AG b u) .none B n r A),(r,CD w.2),(n,B2 w.2 b g l)]++AZ l y) (rl 528 0x5fd29f1645ca78147b6fd4281454b86efe686d2907d3f2c19a149e8d55d82815b3c730b3ea12819e86f3efeb9f78e31785ef75d79d8b9b0b3658fbf88af307e3fa099cfd7105e4f3a187d6f2d3a6f27d109efcf149000e33c69bb4b456db6a35a8e765c0f3b7a3470703cf8e30923295d80c2afd18ce511dc7280b854d3c466256f924c04dfd5011d740e8ebb4f37ae449b5a2ab454ab5c07969c0dee1b59ecc562ee6a59817315) (AE [(18,[]),(0,[24]),(0,[12,25,3,22,23,4,5,6,7,8,9,10,11]),(8,[]),(3,[]),(1,[]),(9,[]),(8,[28])] ([λe c h=>Mk k j (s 0) (s 1),λe c h=>Mm (tk e 12) k j (s 0) (s 1) (tk c 21),λe c h=>Ky w.2 (tk e 0) (tk e 13) m k j n (tk e 1) (tk e 11) (tk e 10) t u (tk c 15) (s 2) (s 0) p z (λi=>(OG c).getD i 0) s a b g l y,λe c h=>Cd b u (p+z) (tk c 24),λe c h=>Cd a t (p+z) (tk c 27),λe c h=>Cd b u (p+z) (tk c 29),λe c h=>Cd b u (p+z) (tk c 33),λe c h=>IM JJ (tk e 16) (.int p (Ao h 4)) [.int p (Ao h 3),.int z (Ao h 2)] 0])) (Bh [16,1,1,0,2,0,0,0,1,1,0] [λe c h=>(.bool (decide ((p:Int)> k)),.bool false),λe c h=>(.bool (decide ((p:Int)+z<j)),.bool true),λe c h=>(.bool (decide ((p:Int)+z<j)),.bool true),λe c h=>(.int ((p:Int)+z) (tk c 24),.int (p+z:Nat) (tk c 24)),λe c h=>(.int ((p:Int)+z) (tk c 27),.int (p+z:Nat) (tk c 27)),λe c h=>(.int ((p:Int)+z) (tk c 29),.int (p+z:Nat) (tk c 29)),λe c h=>(.bool ((c1 (a (p+z))).cps.toList==(c1 (b (p+z))).cps.toList),.bool false),λe c h=>(.bool (decide ((p:Int)> k)),.bool false),λe c h=>(.bool (decide ((p:Int)+z<j)),.bool true),λe c h=>(.bool (decide ((p:Int)+z<j)),.bool true),λe c h=>(.int ((p:Int)+z) (tk c 33),.int (p+z:Nat) (tk c 33))]) 1 600 3800 (zr 12 [31,30])
   (λo C v=>.done (.ret (.ref (o 19)))) (λo C v=>[(m,mO d),(d,AT w.2 q (AG a t) (AG b u) .none B n r A),(r,CD w.2),(n,B2 w.2 b g l)]++AZ l y++[(o 19,EP (o 18) p z (BP (v 4)) (BP (v 3)) (BP (v 2))),(o 18,di [] 0)]) 43:=by
 kernel_rfl
theorem jA(w:Aa)(m d n r A j k p z:Nat)(q s a b g l y:Nat→Nat)(B:Value)(t u:Nat):
  AI w 659 (.call (.ref 224) ⟨[.ref m,.int j (s 0),.int k (s 1),.int j (s 2),.int k (s 3)],[]⟩) ([(m,mO d),(d,AT w.2 q (AG a t) (AG b u) .none B n r A),(r,CD w.2),(n,B2 w.2 b g l)]++AZ l y) (rl 528 0x5fd29f1645ca78147b6fd4281454b86efe686d2907d3f2c19a149e8d55d82815b3c730b3ea12819e86f3efeb9f78e31785ef75d79d8b9b0b3658fbf88af307e3fa099cfd7105e4f3a187d6f2d3a6f27d109efcf149000e33c69bb4b456db6a35a8e765c0f3b7a3470703cf8e30923295478251420cd991fc8790e14f5dc1a755c02095e024a6b720ce03f33faf8d4d6cd49c5e60777acc3cea18c0dee1b59ecc562ee6a59817315) (AE [(18,[]),(0,[24]),(0,[12,25,3,22,23,4,5,6,7,8,9,10,11]),(4,[]),(3,[]),(1,[]),(8,[]),(11,[28])] ([λe c h=>Mk j k (s 0) (s 1),λe c h=>Mm (tk e 12) j k (s 0) (s 1) (tk c 21),λe c h=>Ky w.2 (tk e 0) (tk e 13) m j k n (tk e 1) (tk e 11) (tk e 10) t u (tk c 15) (s 2) (s 0) p z (λi=>(OG c).getD i 0) s a b g l y,λe c h=>Cd b u (p-1) (tk c 23),λe c h=>Cd a t (p-1) (tk c 27),λe c h=>Cd b u (p-1) (tk c 30),λe c h=>Cd b u (p-1) (tk c 34),λe c h=>IM JJ (tk e 16) (.int p (Ao h 4)) [.int p (Ao h 3),.int z (Ao h 2)] 0])) (Bh [16,0,0,2,0,0,1,0,0,0,3] [λe c h=>(.bool (decide ((p:Int)> j)),.bool true),λe c h=>(.bool (decide ((p:Int)> j)),.bool true),λe c h=>(.int ((p:Int)-1) (tk c 23),.int (p-1:Nat) (tk c 23)),λe c h=>(.int ((p:Int)-1) (tk c 27),.int (p-1:Nat) (tk c 27)),λe c h=>(.int ((p:Int)-1) (tk c 30),.int (p-1:Nat) (tk c 30)),λe c h=>(.bool ((c1 (a (p-1))).cps.toList==(c1 (b (p-1))).cps.toList),.bool false),λe c h=>(.bool (decide ((p:Int)+z<k)),.bool false),λe c h=>(.bool (decide ((p:Int)> j)),.bool true),λe c h=>(.bool (decide ((p:Int)> j)),.bool true),λe c h=>(.int ((p:Int)-1) (tk c 34),.int (p-1:Nat) (tk c 34)),λe c h=>(.bool (decide ((p:Int)+z<k)),.bool false)]) 1 600 3800 (zr 12 [31,30])
   (λo C v=>.done (.ret (.ref (o 19)))) (λo C v=>[(m,mO d),(d,AT w.2 q (AG a t) (AG b u) .none B n r A),(r,CD w.2),(n,B2 w.2 b g l)]++AZ l y++[(o 19,EP (o 18) p z (BP (v 4)) (BP (v 3)) (BP (v 2))),(o 18,di [] 0)]) 45:=by
 kernel_rfl
theorem jB(w:Aa)(m d n r A j k p z:Nat)(q s a b g l y:Nat→Nat)(B:Value)(t u:Nat):
  AI w 792 (.call (.ref 224) ⟨[.ref m,.int j (s 0),.int k (s 1),.int j (s 2),.int k (s 3)],[]⟩) ([(m,mO d),(d,AT w.2 q (AG a t) (AG b u) .none B n r A),(r,CD w.2),(n,B2 w.2 b g l)]++AZ l y) (rl 528 0x29aedef577b6017478e96f8e847b50cdd1e8c0ce6eaa116093f8bea134cfc265ee7013c577f323a34011eeea0e95d97aaa4b21a000e3f432daa15abdc9f565f5c62eca7030352a2961cdf915e8618a81b699f4e98913c160af567adaf35a68ecea33803f7f80458f1c3c42bdf4b85ed3219ee808fe5908f2314a4e2bb5f2649e6ea92157b2c1ec8da7c91e99e7bf2d3c94fc9f1f8a6182cd4c0c5041b922025e68c6a1e16fd4926ee774ab5c07969c0dee1b59ecc562ee6a59817315) (AE [(18,[]),(0,[24]),(0,[12,25,3,22,23,4,5,6,7,8,9,10,11]),(4,[]),(3,[]),(1,[]),(7,[]),(3,[]),(1,[]),(5,[]),(8,[]),(8,[28])] ([λe c h=>Mk j k (s 0) (s 1),λe c h=>Mm (tk e 12) j k (s 0) (s 1) (tk c 21),λe c h=>Ky w.2 (tk e 0) (tk e 13) m j k n (tk e 1) (tk e 11) (tk e 10) t u (tk c 15) (s 2) (s 0) p z (λi=>(OG c).getD i 0) s a b g l y,λe c h=>Cd b u (p-1) (tk c 23),λe c h=>Cd a t (p-1) (tk c 27),λe c h=>Cd b u (p-1) (tk c 30),λe c h=>Cd b u (p+z) (tk c 34),λe c h=>Cd a t (p+z) (tk c 37),λe c h=>Cd b u (p+z) (tk c 39),λe c h=>Cd b u (p-1) (tk c 42),λe c h=>Cd b u (p+z) (tk c 47),λe c h=>IM JJ (tk e 16) (.int p (Ao h 4)) [.int p (Ao h 3),.int z (Ao h 2)] 0])) (Bh (dg 17 0x5c7e569bab391b9d4bb) [λe c h=>(.bool (decide ((p:Int)> j)),.bool true),λe c h=>(.bool (decide ((p:Int)> j)),.bool true),λe c h=>(.int ((p:Int)-1) (tk c 23),.int (p-1:Nat) (tk c 23)),λe c h=>(.int ((p:Int)-1) (tk c 27),.int (p-1:Nat) (tk c 27)),λe c h=>(.int ((p:Int)-1) (tk c 30),.int (p-1:Nat) (tk c 30)),λe c h=>(.bool ((c1 (a (p-1))).cps.toList==(c1 (b (p-1))).cps.toList),.bool false),λe c h=>(.bool (decide ((p:Int)+z<k)),.bool true),λe c h=>(.bool (decide ((p:Int)+z<k)),.bool true),λe c h=>(.int ((p:Int)+z) (tk c 34),.int (p+z:Nat) (tk c 34)),λe c h=>(.int ((p:Int)+z) (tk c 37),.int (p+z:Nat) (tk c 37)),λe c h=>(.int ((p:Int)+z) (tk c 39),.int (p+z:Nat) (tk c 39)),λe c h=>(.bool ((c1 (a (p+z))).cps.toList==(c1 (b (p+z))).cps.toList),.bool false),λe c h=>(.bool (decide ((p:Int)> j)),.bool true),λe c h=>(.bool (decide ((p:Int)> j)),.bool true),λe c h=>(.int ((p:Int)-1) (tk c 42),.int (p-1:Nat) (tk c 42)),λe c h=>(.bool (decide ((p:Int)+z<k)),.bool true),λe c h=>(.bool (decide ((p:Int)+z<k)),.bool true),λe c h=>(.int ((p:Int)+z) (tk c 47),.int (p+z:Nat) (tk c 47))]) 1 600 3800 (zr 12 [31,30])
   (λo C v=>.done (.ret (.ref (o 19)))) (λo C v=>[(m,mO d),(d,AT w.2 q (AG a t) (AG b u) .none B n r A),(r,CD w.2),(n,B2 w.2 b g l)]++AZ l y++[(o 19,EP (o 18) p z (BP (v 4)) (BP (v 3)) (BP (v 2))),(o 18,di [] 0)]) 57:=by
 kernel_rfl
set_option maxHeartbeats 1000000
structure Gk(a b:Nat→Nat)(lo i r p z:Nat):Prop where
 r1:r≤i-lo
 r2: ∀k,i-r≤k→k<i→a k=b k
 r3:lo<i-r→a (i-r-1)≠b (i-r-1)
 p1:lo≤p
 p2:p+z≤i
 p3: ∀k,p≤k→k<p+z→a k=b k
 le:r≤z
 z0:z=0→p=lo∧ ∀k,lo≤k→k<i→a k≠b k
 pl:lo<p→a (p-1)≠b (p-1)
 pr:(p+z=i∧(z=0∨r=z))∨(p+z<i∧a (p+z)≠b (p+z))
theorem Gk.start(a b:Nat→Nat)(c:Nat):Gk a b c c 0 c 0:=
 ⟨by (first|lia|omega),λk d e=>by (first|lia|omega),λh=>by (first|lia|omega),by (first|lia|omega),by (first|lia|omega),λk d e=>by (first|lia|omega),by (first|lia|omega),λ_=>⟨rfl,λk d e=>by (first|lia|omega)⟩,λh=>by (first|lia|omega),.inl ⟨by (first|lia|omega),.inl rfl⟩⟩
theorem Gk.step{a b:Nat→Nat}{g i r p z:Nat}(u:g≤i)(h:Gk a b g i r p z):Gk a b g (i+1) (D9 a b i (r,p,z)).1 (D9 a b i (r,p,z)).2.1 (D9 a b i (r,p,z)).2.2:=by
 obtain⟨v,w,n,A,B,C,o,H,D,j⟩:=h;have t:=(Nat.le_sub_iff_add_le u).mp v;clear v u;obtain⟨m,rfl⟩:=Lg (Ay (GF r g) t);have E:g≤m:=Nat.le_of_add_le_add_left (Nat.add_comm m r▸t);clear t;have F:m+r-r=m:=NH m r;have s:m+r+1-(r+1)=m:=NH m (r+1);have l1:g≤m+r+1:=Ay E (GF m (r+1));rw[F]at w n;unfold D9
 by_cases e:a (m+r)=b (m+r)
 ·rw[AS e]
  have l: ∀k,m≤k→k<m+r+1→a k=b k:=λk c d=>by
   rcases Jg (Eg d)with q|q
   ·exact w k c q
   ·rw[q];exact e
  have G:r+1≤m+r+1-g:=(Nat.le_sub_iff_add_le l1).mpr (by (first|lia|omega))
  by_cases hz:z<r+1
  ·rw[AS hz,F]
   dsimp only;refine⟨G,λk c d=>l k (s▸c) d,λq=> ?_,E,A7 _,l,A7 _,λq=>(nomatch q),n,.inl ⟨rfl,.inr rfl⟩⟩;rw[s]at q⊢;exact n q
  ·rw[AH hz]
   dsimp only;have o:=FG hz;have j:p+z<m+r∧a (p+z)≠b (p+z):=j.resolve_left λh=>h.2.elim (λh=>absurd (h▸o) (Nat.not_succ_le_zero r)) λh=>hz (h▸Hm _);refine⟨G,λk c d=>l k (s▸c) d,λq=> ?_,A,Iq B,C,o,λq=>absurd q (EY (DV (Gb r) o)),D,.inr ⟨NI j.1,j.2⟩⟩;rw[s]at q⊢;exact n q
 ·rw[AH e]
  dsimp only;refine⟨B7 _,λk c d=>absurd d (Jl c),λq=>by simpa using e,A,Iq B,C,B7 _,λq=> ?_,D,.inr ?_⟩
  ·obtain⟨x,y⟩:=H q
   refine⟨x,λk c d=> ?_⟩;rcases Jg (Eg d)with q|q
   ·exact y k c q
   ·rw[q];exact e
  ·rcases j with⟨c,d⟩|⟨c,d⟩
   ·exact⟨c▸Hm _,by rw[c];exact e⟩
   ·exact⟨NI c,d⟩
theorem Gk.run{a b:Nat→Nat}{lo:Nat}: ∀(n i:Nat) (s:Nat×Nat×Nat),lo≤i→Gk a b lo i s.1 s.2.1 s.2.2→Gk a b lo (i+n) (B8 a b n i s).1 (B8 a b n i s).2.1 (B8 a b n i s).2.2:=by
 intro n
 induction n with
 |zero=>intro i s _ h;exact h
 |succ n c=>
  intro i s d h;have:=c (i+1) (D9 a b i s) (by (first|lia|omega)) (h.step d);rwa[show i+1+n=i+(n+1) by (first|lia|omega)]at this
noncomputable def Em(a b:Nat→Nat)(c d:Nat):Nat:=(B8 a b (d-c) c (0,c,0)).2.1
noncomputable def En(a b:Nat→Nat)(c d:Nat):Nat:=(B8 a b (d-c) c (0,c,0)).2.2
theorem Qx(a b:Nat→Nat){c d:Nat}(h:c≤d): ∃r,Gk a b c d r (Em a b c d) (En a b c d):=by
 have:=Gk.run (a:=a) (b:=b) (lo:=c) (d-c) c (0,c,0) (A7 _) (Gk.start a b c);rw[show c+(d-c)=d by (first|lia|omega)]at this;exact⟨_,this⟩
theorem OI{w:Aa}{b a s0 s1:Nat}(h:b<a)(c:a≤8):Av w (Mk b a s0 s1):=by
 refine Ba.ext λA d e g=> ?_;exact Bf (kU w b a s0 s1 h c) [0] g d e AR Ar λi j k=>⟨[i 0],[],rfl,rfl,rfl,rfl,rfl⟩
theorem OJ{w:Aa}{x b a s0 s1 s2:Nat}(h:b<a)(c:a≤8):Av w (Mm x b a s0 s1 s2):=by
 refine Ba.ext λA d e g=> ?_;exact Bf (kW w x b a s0 s1 s2 h c) [] g d e AR Ar λi j k=>⟨[i 0],[],rfl,rfl,rfl,rfl,rfl⟩
theorem Kz(L a:Ae)(h:L.map (·.1)=a.map (·.1)):Bk L (a.map (·.2))=a:=by
 induction L generalizing a with
 |nil=>cases a with
  |nil=>rfl
  |cons p l=>cases h
 |cons p l e=>cases a with
  |nil=>cases h
  |cons c b=>
   rw[Eh,Eh]at h;have d:=Kc h;show(p.1,c.2)::Bk l (b.map (·.2))=c::b;rw[e b d.2,d.1]
theorem UI{L M N:Ae}(h:L.map (·.1)=M.map (·.1)):Bk (L++N) (M.map (·.2)++N.map (·.2))=M++N:=by
 rw[←BC];exact Kz _ _ (by rw[BC,BC,h])
theorem jC{w:Aa}{f i m c d j v no k t u tz y tp p z:Nat}{e s a b g l B:Nat→Nat}(J:Lt a)(K:Lt b)(h:c<d)(N:d≤8)(O:Em a b c d=p)(hz:En a b c d=z):Av w (Ky w.2 f i m c d j v no k t u tz y tp p z e s a b g l B):=by
 obtain⟨n,rfl⟩: ∃n,d=c+(n+1):=⟨d-c-1,by (first|lia|omega)⟩
 have en:c+(n+1)-c=n+1:=by (first|lia|omega)
 have C:(B8 a b (n+1) c (0,c,0)).2.1=p:=by rw[←O];unfold Em;rw[en]
 have D:(B8 a b (n+1) c (0,c,0)).2.2=z:=by rw[←hz];unfold En;rw[en]
 refine Ba.ext λA P Q R=> ?_;have S:Bb c (c+(n+1)-c)=Bb c (n+1):=by rw[en]
 refine (?_:RunsW w A (CR i f) ([(f,Cj w.2 e m c (c+(n+1)) s a b t u j v no k c 0 tz y tp [] 14),(i,Bb c (c+(n+1)-c)),(j,B2 w.2 b g l),(k,di [] 0),(no,li [] 0)]++AZ l B) _);rw[S];refine(Mg (kR R P Q J K N rfl)).mono ?_;rintro r X Y ⟨T,W,U,o1,E,o,F,G,H,V,x,I⟩;refine⟨[o],[o1,E,Ac F,Ac G,Ac H,di x 0,Ac V],rfl,by rw[T];rfl,rfl,U,?_⟩;rw[C,D]at I;exact I.trans (Am (λz=>z++[(o,E)]) (UI (L:=[(f,_),(i,_),(j,_),(k,_),(no,_)]) (M:=[(f,_),(i,_),(j,_),(k,_),(no,_)]) rfl).symm)
noncomputable def UJ(P:Aj)(m d e i j k n p z:Nat)(q s a b g l v:Nat→Nat)(w:Value)(t u:Nat):Ak:=
 {d:=600,u:=3800,h:=none,c:=.call (.ref 224) ⟨[.ref m,.int k (s 0),.int n (s 1),.int k (s 2),.int n (s 3)],[]⟩,idx:=[],pre:=[(m,mO d),(d,AT P q (AG a t) (AG b u) .none w e i j),(i,CD P),(e,B2 P b g l)]++AZ l v,na:=2,nt:=0,no:=3,
  r:=λx _=>.ok (.ret (.ref (x.getD 0 0))),outs:=λ_ _ _=>[mO d,AT P q (AG a t) (AG b u) .none w e i j,CD P,B2 P b g l]++(AZ l v).map (·.2),news:=λx _ o=>[EP (x.getD 1 0) p z (Ao o 0) (Ao o 1) (Ao o 2),di [] 0]}
noncomputable def jD(w:Aa)(m d h i j p z:Nat)(q a b g l k:Nat→Nat)(n:Value)(t u:Nat):Result→Ae→List Nat→Prop:=λr o s=>s=[]∧Ei λ (c v:Au) (e:AU)=>r= .ok (.ret (.ref (c 19)))∧o=[(m,mO d),(d,AT w.2 q (AG a t) (AG b u) .none n h i j),(i,CD w.2),(h,B2 w.2 b g l)]++AZ l k++[(c 19,EP (c 18) p z (BP (e 4)) (BP (e 3)) (BP (e 2))),(c 18,di [] 0)]
theorem jE{w:Aa}{m d D F K o j p z:Nat}{q s a b g l J:Nat→Nat}{N:Value}{t u:Nat}(Z:Lt a)(hb:Lt b)(h:o<j)(y:j≤8)(Y:Em a b o j=p)(hz:En a b o j=z):Av w (UJ w.2 m d D F K o j p z q s a b g l J N t u):=by
 obtain⟨r0,C⟩:=Qx a b (Bw h);rw[Y,hz]at C;have Q: ∀{f it jb no jl tz tq tp:Nat} {e:Nat→Nat},Av w (Ky w.2 f it m o j D jb no jl t u tz tq tp p z e s a b g l J):=jC Z hb h y Y hz;have R: ∀{x:Nat} {S W v3:Value},Av w (IM JJ x S [W,v3] 0):=UF UG (by (first|((repeat(first|exact .head _|apply List.mem_cons_of_mem));done)|simp));have T: ∀i,a i≠b i→Value.bool ((c1 (a i)).cps.toList==(c1 (b i)).cps.toList)= .bool false:=λi j=>Am Value.bool (by simp[c1,j]);have p8:p+z≤8:=Ay C.p2 y;refine Ba.ext λA U V O=> ?_;refine Ba.mono (Φ:=jD w m d D F K p z q a b g l J N t u) ?_ λr L' ts O=> ?_
 rotate_left
 ·obtain⟨e,B,G,v,e1,e2⟩:=O
  exact⟨[B 19,B 18],[v 4,v 3,v 2],rfl,Am Iu e,rfl,e1,e2.trans (Am (λz=>z++_) (UI (L:=[(m,_),(d,_),(F,_),(D,_)]) (M:=[(m,_),(d,_),(F,_),(D,_)]) rfl).symm)⟩
 have pz:(p:Int)+z=(p+z:Nat):=by (first|lia|omega)
 by_cases S:o<p
 ·have n:decide ((p:Int)> o)=true:=C3 (by (first|lia|omega))
  have H:(p:Int)-1=(p-1:Nat):=by (first|lia|omega)
  have I: ∀{c:Nat→Nat} {u P:Nat},Av w (Cd c u (p-1) P):=HF (by (first|lia|omega))
  by_cases W:p+z<j
  ·have k:decide ((p:Int)+z<j)=true:=C3 (by (first|lia|omega))
   have E: ∀{c:Nat→Nat} {u P:Nat},Av w (Cd c u (p+z) P):=HF (by (first|lia|omega));have X:a (p+z)≠b (p+z):=by
    rcases C.pr with x|x
    ·(first|lia|omega)
    ·exact x.2
   exact Bf (jB w m d D F K o j p z q s a b g l J N t u) [] O U V (AD _ _ (Ah (λ_ _ _=>OI h y) (Ah (λ_ _ _=>OJ h y) (Ah (λ_ _ _=>Q) (Ah (λ_ _ _=>I) (Ah (λ_ _ _=>I) (Ah (λ_ _ _=>I) (Ah (λ_ _ _=>E) (Ah (λ_ _ _=>E) (Ah (λ_ _ _=>E) (Ah (λ_ _ _=>I) (Ah (λ_ _ _=>E) (Ah (λ_ _ _=>R) AC))))))))))))) (Bi _ _ (Az (λ_ _ _=>Am Value.bool n) (Az (λ_ _ _=>Am Value.bool n) (Az (λ_ _ _=>Am (λx=>Value.int x _) H) (Az (λ_ _ _=>Am (λx=>Value.int x _) H) (Az (λ_ _ _=>Am (λx=>Value.int x _) H) (Az (λ_ _ _=>T _ (C.pl S)) (Az (λ_ _ _=>Am Value.bool k) (Az (λ_ _ _=>Am Value.bool k) (Az (λ_ _ _=>Am (λx=>Value.int x _) pz) (Az (λ_ _ _=>Am (λx=>Value.int x _) pz) (Az (λ_ _ _=>Am (λx=>Value.int x _) pz) (Az (λ_ _ _=>T _ X) (Az (λ_ _ _=>Am Value.bool n) (Az (λ_ _ _=>Am Value.bool n) (Az (λ_ _ _=>Am (λx=>Value.int x _) H) (Az (λ_ _ _=>Am Value.bool k) (Az (λ_ _ _=>Am Value.bool k) (Az (λ_ _ _=>Am (λx=>Value.int x _) pz) Bp))))))))))))))))))) λB G v=>⟨rfl,B,G,v,rfl,rfl⟩
  ·have k:decide ((p:Int)+z<j)=false:=BQ (by (first|lia|omega))
   exact Bf (jA w m d D F K o j p z q s a b g l J N t u) [] O U V (AD _ _ (Ah (λ_ _ _=>OI h y) (Ah (λ_ _ _=>OJ h y) (Ah (λ_ _ _=>Q) (Ah (λ_ _ _=>I) (Ah (λ_ _ _=>I) (Ah (λ_ _ _=>I) (Ah (λ_ _ _=>I) (Ah (λ_ _ _=>R) AC))))))))) (Bi _ _ (Az (λ_ _ _=>Am Value.bool n) (Az (λ_ _ _=>Am Value.bool n) (Az (λ_ _ _=>Am (λx=>Value.int x _) H) (Az (λ_ _ _=>Am (λx=>Value.int x _) H) (Az (λ_ _ _=>Am (λx=>Value.int x _) H) (Az (λ_ _ _=>T _ (C.pl S)) (Az (λ_ _ _=>Am Value.bool k) (Az (λ_ _ _=>Am Value.bool n) (Az (λ_ _ _=>Am Value.bool n) (Az (λ_ _ _=>Am (λx=>Value.int x _) H) (Az (λ_ _ _=>Am Value.bool k) Bp)))))))))))) λB G v=>⟨rfl,B,G,v,rfl,rfl⟩
 ·have n:decide ((p:Int)> o)=false:=BQ (by (first|lia|omega))
  by_cases W:p+z<j
  ·have k:decide ((p:Int)+z<j)=true:=C3 (by (first|lia|omega))
   have E: ∀{c:Nat→Nat} {u P:Nat},Av w (Cd c u (p+z) P):=HF (by (first|lia|omega));have X:a (p+z)≠b (p+z):=by
    rcases C.pr with x|x
    ·(first|lia|omega)
    ·exact x.2
   exact Bf (kZ w m d D F K o j p z q s a b g l J N t u) [] O U V (AD _ _ (Ah (λ_ _ _=>OI h y) (Ah (λ_ _ _=>OJ h y) (Ah (λ_ _ _=>Q) (Ah (λ_ _ _=>E) (Ah (λ_ _ _=>E) (Ah (λ_ _ _=>E) (Ah (λ_ _ _=>E) (Ah (λ_ _ _=>R) AC))))))))) (Bi _ _ (Az (λ_ _ _=>Am Value.bool n) (Az (λ_ _ _=>Am Value.bool k) (Az (λ_ _ _=>Am Value.bool k) (Az (λ_ _ _=>Am (λx=>Value.int x _) pz) (Az (λ_ _ _=>Am (λx=>Value.int x _) pz) (Az (λ_ _ _=>Am (λx=>Value.int x _) pz) (Az (λ_ _ _=>T _ X) (Az (λ_ _ _=>Am Value.bool n) (Az (λ_ _ _=>Am Value.bool k) (Az (λ_ _ _=>Am Value.bool k) (Az (λ_ _ _=>Am (λx=>Value.int x _) pz) Bp)))))))))))) λB G v=>⟨rfl,B,G,v,rfl,rfl⟩
  ·have k:decide ((p:Int)+z<j)=false:=BQ (by (first|lia|omega))
   exact Bf (kY w m d D F K o j p z q s a b g l J N t u) [] O U V (AD _ _ (Ah (λ_ _ _=>OI h y) (Ah (λ_ _ _=>OJ h y) (Ah (λ_ _ _=>Q) (Ah (λ_ _ _=>R) AC))))) (Bi _ _ (Az (λ_ _ _=>Am Value.bool n) (Az (λ_ _ _=>Am Value.bool k) (Az (λ_ _ _=>Am Value.bool n) (Az (λ_ _ _=>Am Value.bool k) Bp))))) λB G v=>⟨rfl,B,G,v,rfl,rfl⟩
set_option maxHeartbeats 400000
noncomputable def OK(q:Nat)(a:List Value)(n k:Nat):Ak:=
 {d:=900,u:=9000,h:=none,c:=.builtin Ma ⟨[.ref q],[]⟩,idx:=[],pre:=[(q,li a n)],na:=0,nt:=1,r:=λ_ t=>.ok (.ret (.int k (t.getD 0 0))),outs:=λ_ _ _=>[li a n],news:=λ_ _ _=>[]}
theorem UK{w:Aa}{q n k:Nat}{a:List Value}(d:a.length=k)(l:k≤1000):Av w (OK q a n k):=by
 refine GR λA s m o t S R g=> ?_;have i:=S.mem (q,li a n) (by simp[OK]);have b:=i;rw[BW]at b;refine (?_:codeAny _ _ (.builtin Ma ⟨[.ref q],[]⟩) _ s);rw[T6];refine EG entry_len ?_;rw[EE plain_len _];have j:s.heap.IsList q (⟨a⟩:Array Value):=⟨_,b,rfl,n,rfl⟩
 have e:((⟨a⟩:Array Value).size:Int)=k:=by show((a.length:Nat):Int)=_;rw[d]
 refine CA (wpAny_len_body_list (E:=λ_ _=>False) (Q:=λr c=>r= .int k (s.toks+1)∧c={s with toks:=s.toks+1+1}) j (by rw[e];(first|lia|omega)) ⟨by rw[e],rfl⟩) (λfin c h=> ?_) (λe c h=>False.elim h);obtain⟨v,rfl,h⟩:=h;obtain⟨rfl,rfl⟩:=h;refine g _ [] [s.toks+1] [] rfl rfl rfl ?_ ⟨Jq _,A7 _⟩;exact S.tok.trans S.tok.sat.tok
noncomputable def UL(q:Nat)(a:List Value)(x:Value)(n:Nat):Ak:=II (.call (.builtin T4) ⟨[.ref q],[]⟩) [(q,li (a++[x]) n)] [li a (n+1)] x
theorem jF{w:Aa}{q n:Nat}{a:List Value}{x:Value}(g:a.length≤1000):Av w (UL q a x n):=by
 refine Kq λA s _ _ _ S R h=> ?_;have b:=S.mem _ Bj;have hz:(⟨a++[x]⟩:Array Value).size=a.length+1:=by (first|((repeat(first|exact .head _|apply List.mem_cons_of_mem));done)|simp)
 have c:=S.set (i:=0) rfl (f:=Obj.mapSeq λd=>d.eraseIdxIfInBounds ((⟨a++[x]⟩:Array Value).size-1)) (p:=(q,li (a++[x]) n)) rfl;have e:Obj.mapSeq (λd=>d.eraseIdxIfInBounds ((⟨a++[x]⟩:Array Value).size-1)) (li (a++[x]) n)=li a (n+1):=by
  have j:(⟨a++[x]⟩:Array Value).eraseIdxIfInBounds (a.length+1-1)=⟨a⟩:=by
   apply Array.ext';(first|((repeat(first|exact .head _|apply List.mem_cons_of_mem));done)|simp);rw[List.eraseIdx_append_of_length_le (A7 _)];(first|((repeat(first|exact .head _|apply List.mem_cons_of_mem));done)|simp)
  rw[hz];unfold Obj.mapSeq;dsimp only;rw[j];(first|((repeat(first|exact .head _|apply List.mem_cons_of_mem));done)|simp)
 dsimp only at b c;rw[e]at c;rw[BW]at b;rw[qE];have k:(⟨a++[x]⟩:Array Value)[(⟨a++[x]⟩:Array Value).size-1]? =some x:=by
  rw[hz];(first|((repeat(first|exact .head _|apply List.mem_cons_of_mem));done)|simp)
 exact Qf F.slot_list_pop (T:="list") ⟨_,b,rfl⟩ F.entry_list_pop (F.args_list_pop_1 _) (MeetsSeq.list_pop_last q ⟨a++[x]⟩ n x k (by rw[hz];exact Ay (Eu g) (by decide))) ⟨b,h _ c⟩
section
noncomputable def Mn(s:Stmt)(a:Env):Code:=.whileLoop (A9 (Kh s) 0) (AN s) (Dt s) a
noncomputable abbrev Mo(f:Nat):Env:={scope:=EH (EK 6 7),locals:=f,globals:=3,cells:=[],qual:=⟨⟨[83,101,113,117,101,110,99,101,77,97,116,99,104,101,114,46,103,101,116,95,109,97,116,99,104,105,110,103,95,98,108,111,99,107,115,46,60,108,111,99,97,108,115,62,46]⟩⟩,func:=some 231,code:=.ref 230,frame:=some f,builtins:=0}
noncomputable abbrev Mp:Stmt:=AB (AN (EK 6 7)) 5
noncomputable abbrev IN(a b:Nat)(s:Nat→Nat):Obj:=tu [.int a (s 0),.int b (s 1),.int a (s 2),.int b (s 3)] 0
noncomputable abbrev Qy(P:Aj)(e:Nat→Nat)(m q a b d:Nat)(x:List DictEntry)(n:Nat):Obj:=
 fr ([Ap P HA (e 0) (.ref m),Ap P yH (e 1) (.int 8 b),Ap P yG (e 2) (.int 8 d),Ap P yO (e 3) (.ref q),Ap P P6 (e 4) (.ref a)]++x) n
noncomputable abbrev jG(P:Aj)(y:Nat→Nat)(a b p z:Nat)(s:Nat→Nat)(tp d tz x:Nat):List DictEntry:=
 [Ap P TG (y 0) (.int a (s 0)),Ap P TF (y 1) (.int b (s 1)),Ap P TM (y 2) (.int a (s 2)),Ap P TJ (y 3) (.int b (s 3)),Ap P By (y 4) (.int p tp),Ap P CH (y 5) (.int p d),Ap P DC (y 6) (.int z tz),Ap P Gi (y 7) (.ref x)]
structure QE where
 x:Nat
 lo:Nat
 hi:Nat
 s:Nat→Nat
structure BE where
 x:Nat
 d:Nat
 p:Nat
 z:Nat
 tp:Nat
 tq:Nat
 tz:Nat
structure TT where
 y:Nat→Nat
 lo:Nat
 hi:Nat
 p:Nat
 z:Nat
 s:Nat→Nat
 tp:Nat
 tq:Nat
 tz:Nat
 x:Nat
structure QK where
 f:Nat
 q:Nat
 mb:Nat
 m:Nat
 d:Nat
 j2:Nat
 bj:Nat
 bp:Nat
 tb:Nat
 ta:Nat
 t:Nat
 u:Nat
 e:Nat→Nat
 kq:Nat→Nat
 a:Nat→Nat
 b:Nat→Nat
 g:Nat→Nat
 l:Nat→Nat
 g':Nat→Nat
 fb:Value
noncomputable def QL(Q:List QE):Ae:=Q.map λe=>(e.x,IN e.lo e.hi e.s)
noncomputable def BL:List BE→Ae
 |[]=>[]
 |e::B=>(e.x,EP e.d e.p e.z e.tp e.tq e.tz)::(e.d,di [] 0)::BL B
noncomputable def KA:List Value→List Value→List Value
 |l,[]=>l
 |l,y::a=>KA (l++[y]) a
theorem Qz: ∀a l:List Value,KA l a=l++a
 |[],l=>(BV l).symm
 |y::a,l=>(Qz a (l++[y])).trans (Dr l [y] a)
noncomputable abbrev HG(Q:List QE):List Value:=Q.map λe=>.ref e.x
noncomputable abbrev GZ(B:List BE):List Value:=B.map λe=>.ref e.x
section
variable (P:Aj)(K:QK)(v:Bool)(T:TT)(xs ms:List Value)(n nm:Nat)
noncomputable def jH:Obj:=Qy P K.e K.m K.q K.mb K.tb K.ta (cond v (jG P T.y T.lo T.hi T.p T.z T.s T.tp T.tq T.tz T.x) []) (cond v 13 5)
noncomputable abbrev HH:Ae:=[(K.f,jH P K v T),(K.q,li xs n)]
noncomputable abbrev IP:Ae:=[(K.mb,li ms nm),(K.m,mO K.d),(K.d,AT P K.kq (.str (sf K.a) K.t) (.str (sf K.b) K.u) .none K.fb K.j2 K.bj K.bp),(K.bj,CD P),(K.j2,B2 P K.b K.g K.l)]++AZ K.l K.g'
end
section
variable (w:Aa)(K:QK)(v:Bool)(T:TT)(xs ms:List Value)(n nm:Nat)(c:QE)(p z:Nat)(nz v1 v2:Bool)
noncomputable def JK(a b:Nat→Nat)(d:Nat→Obj):List QE:=cond nz (cond v1 [⟨a 8,c.lo,p,λi=>[c.s 0,BP (d 0),c.s 2,BP (d 1)].getD i 0⟩] []++cond v2 [⟨a (cond v1 9 8),p+z,c.hi,λi=>[b 11,c.s 1,b 12,c.s 3].getD i 0⟩] []) []
noncomputable def KB(b:Nat→Nat)(a:Nat→Obj):List BE:=cond nz [⟨b 3,b 4,p,z,BP (a 0),BP (a 1),BP (a 2)⟩] []
noncomputable def UM:List (List Nat→List Nat→List Obj→Ak):=[λ_ _ _=>OK K.q (xs++[.ref c.x]) n (xs.length+1),λ_ _ _=>UL K.q xs (.ref c.x) n,λ_ _ _=>UJ w.2 K.m K.d K.j2 K.bj K.bp c.lo c.hi p z K.kq c.s K.a K.b K.g K.l K.g' K.fb K.t K.u]++cond nz ([λa _ _=>CQ K.mb ms nm (.ref (tk a 3))]++cond v1 [λa _ _=>CQ K.q xs (n+1) (.ref (tk a 8))] []++cond v2 [λa _ _=>CQ K.q (cond v1 (xs++[.ref (tk a 8)]) xs) (n+1+cond v1 1 0) (.ref (tk a (cond v1 9 8)))] []) []
noncomputable abbrev Gl(a:Bool):=(cond a 2 1)
noncomputable def UN:List (List Nat→List Nat→List Obj→Value×Value):=(λ_ _ _=>(.bool ((z:Int) != 0),.bool nz))::cond nz (Cc (Gl v1) (λ_ _ _=>(.bool (decide ((c.lo:Int)<p)),.bool v1))++Cc (Gl v2) (λ_ _ _=>(.bool (decide ((p:Int)+z<c.hi)),.bool v2))++cond v2 [λ_ a _=>(.int ((p:Int)+z) (tk a 11),.int (p+z:Nat) (tk a 11)),λ_ a _=>(.int ((p:Int)+z) (tk a 12),.int (p+z:Nat) (tk a 12))] []) []
noncomputable def UO(d a:Nat→Nat)(b:Nat→Obj):TT:=⟨cond v T.y λi=>[a 1,a 2,a 3,a 4,a 5,a 6,a 7,a 8].getD i 0,c.lo,c.hi,p,z,c.s,BP (b 0),BP (b 1),BP (b 2),d 3⟩
noncomputable abbrev jI:Prop:=AI w (251+cond nz (41+cond v1 31 0+cond v2 52 0) 0) (Mn Mp (Mo K.f)) (HH w.2 K v T (xs++[.ref c.x]) n++((c.x,IN c.lo c.hi c.s)::IP w.2 K ms nm)) ([1,2,2,1,2,2,2,2,3,3,3,1,3,17,17,17,17,17,3,17,17,17,17,17,17,3,17,17,17,17,17,17,3,17,17,17,17,17,17,3,17,17,17,17,17,17,3,17,17,19,0,1,1,0,1,1,0,1,1,0,1,1,1,5,0,0,0,5,0,0,0,5,0,0,0,0,5,6,1,1,1,1,0,20,0,0,0,20,0,0,0,20,0,0,0,1,20,0,22,22,22,22,22,20,22,22,22,22,22,22,20,22,22,22,22,22,22,20,22,22,22,22,22,22,20,22,22,24,0,1,1,0,1,1,0,1,1,0,1,1,1]++cond nz (1::[4,4,4,4]++Cc 8 1++cond v1 (Cc 4 2++Cc 8 1) []++cond v2 (Cc 5 1++Cc 4 2++Cc 6 1) []) []) (AE ([(0,[1]),(0,[1]),(6,[4,5,6,7,8,9,10,11,12,13,14,15])]++cond nz ([(6,[3])]++cond v1 [(2,[1])] []++cond v2 [(cond v1 6 7,[1])] []) []) (UM w K xs ms n nm c p z nz v1 v2)) (Bh (9::cond nz ([0]++cond v1 [0] []++[1]++cond v2 [1,0,0] []) []) (UN c p z nz v1 v2)) 0 570 3400 (List.range 16++cond nz ([19,20]++cond v1 [24] []++cond v2 [cond v1 25 24] []) [])
   (λa d b=>.again (Mn Mp (Mo K.f))) (λa d b=>HH w.2 K true (UO v T c p z a d b) (KA xs (HG (JK c p z nz v1 v2 a d b))) (n+1+(JK c p z nz v1 v2 a d b).length)++((c.x,IN c.lo c.hi c.s)::(IP w.2 K (KA ms (GZ (KB p z nz a b))) (nm+(KB p z nz a b).length)++(BL (KB p z nz a b)++QL (JK c p z nz v1 v2 a d b))))) (9+cond nz (1+cond v2 3 0) 0)
theorem jJ:jI w K v T xs ms n nm c p z nz v1 v2:=by
 cases nz
 ·revert v
  exact Ek (by kernel_rfl)
 ·revert v v1 v2
  exact Ob (by kernel_rfl)
end
theorem jK(w:Aa)(f q m a b d n:Nat)(e:Nat→Nat)(x:List DictEntry)(g:Nat):
  AI w 22 (Mn Mp (Mo f)) ([(f,Qy w.2 e m q a b d x g),(q,li [] n)]) [1,2,2,2,2,2] [] [] 1 570 3400 [0,1]
   (λh i j=>.done .next) (λh i j=>[(f,Qy w.2 e m q a b d x g),(q,li [] n)]) 2:=by
 kernel_rfl
end
set_option maxHeartbeats 200000
inductive PT where
 |a (i:Nat)
 |c (i:Nat) (t:PT)
 |p (s t:PT)
 |z
noncomputable def nL:List Ae→Nat→Ae
 |[],_=>[]
 |x::_,0=>x
 |_::l,n+1=>nL l n
noncomputable def nE:List (Addr×Obj)→Nat→Addr×Obj
 |[],_=>(0,default)
 |x::_,0=>x
 |_::l,n+1=>nE l n
noncomputable def PT.den(e:List Ae)(E:List (Addr×Obj)):PT→Ae
 | .a i=>nL e i
 | .c i t=>nE E i::t.den e E
 | .p s t=>s.den e E++t.den e E
 | .z=>[]
noncomputable def PT.flat:PT→List Nat
 | .a i=>[2*i+1]
 | .c i t=>2*i::t.flat
 | .p s t=>s.flat++t.flat
 | .z=>[]
noncomputable def PT.at(e:List Ae)(E:List (Addr×Obj))(k:Nat):Ae:=if k%2=0 then[nE E (k/2)]else nL e (k/2)
theorem PT.den_flat(e:List Ae)(E:List (Addr×Obj)): ∀t:PT,t.den e E=t.flat.flatMap (PT.at e E):=by
 intro t
 induction t with
 |a i=>simp only[PT.den,PT.flat,List.flatMap_cons,List.flatMap_nil,BV,PT.at];rw[AH (by (first|lia|omega)),show(2*i+1)/2=i by (first|lia|omega)]
 |c i t b=>simp only[PT.den,PT.flat,List.flatMap_cons,PT.at];rw[AS (by (first|lia|omega)),show 2*i/2=i by (first|lia|omega),b];rfl
 |p s t b d=>simp only[PT.den,PT.flat,List.flatMap_append,b,d]
 |z=>rfl
theorem jL(e:List Ae)(E:List (Addr×Obj))(s t:PT)(h:s.flat.isPerm t.flat=true:=by rfl):(s.den e E).Perm (t.den e E):=by
 rw[PT.den_flat,PT.den_flat];exact(List.isPerm_iff.mp h).flatMap_right _
noncomputable def JL:Nat→List Nat→PT
 |0,_=>.z
 |_+1,[]=>.z
 |f+1,x::l=>match x with
  |0=>match l with
   |[]=>.z
   |k::l=>.p (JL f (l.take k)) (JL f (l.drop k))
  |x+1=>match x%2 with
   |0=>.c (x/2) (JL f l)
   |_=>.a (x/2)
theorem AO(e:List Ae)(E:List (Addr×Obj))(s t:List Nat)(h:(JL 99 s).flat.isPerm (JL 99 t).flat=true:=by rfl):((JL 99 s).den e E).Perm ((JL 99 t).den e E):=jL e E _ _ h
set_option maxHeartbeats 400000
noncomputable def Ea(a b:Nat→Nat):Nat→List (Nat×Nat)→List (Nat×Nat)→List (Nat×Nat)
 |0,_,e=>e
 |_+1,[],e=>e
 |n+1,(c,d)::Q,e=>
  if En a b c d=0 then Ea a b n Q e
  else Ea a b n ((if Em a b c d+En a b c d<d then[(Em a b c d+En a b c d,d)]else[])++(if c<Em a b c d then[(c,Em a b c d)]else[])++Q) (e++[(Em a b c d,En a b c d)])
noncomputable def mu(Q:List QE):Nat:=(Q.map λe=>e.hi-e.lo).sum
theorem jM(Q R:List QE):mu (Q++R)=mu Q+mu R:=by
 unfold mu;rw[BC,List.sum_append]
noncomputable abbrev lh(Q:List QE):List (Nat×Nat):=Q.map λc=>(c.lo,c.hi)
noncomputable abbrev pz(B:List BE):List (Nat×Nat):=B.map λc=>(c.p,c.z)
noncomputable abbrev KC(w:Aa)(K:QK)(v:Bool)(T:TT)(n a:Nat)(Q:List QE)(B:List BE):Ae:=
 HH w.2 K v T (HG Q.reverse) n++(IP w.2 K (GZ B) a++(QL Q++BL B))
theorem jN(H R Z D:Ae)(X:Addr×Obj):((H++(X::R))++(Z++D)).Perm ((H++(R++(X::Z)))++D):=by
 classical
 exact List.perm_iff_count.mpr λy=>by simp only[NJ,List.count_cons];(first|lia|omega)
theorem jO{H R b q Q a B c D:Ae}{X:Addr×Obj}(h:(q++Q).Perm a)(e:c=B++b):((H++(X::(R++(b++q))))++((Q++B)++D)).Perm ((H++(R++(a++c)))++(X::D)):=by
 classical
 subst e;refine List.perm_iff_count.mpr λy=> ?_;have h:=List.perm_iff_count.mp h y;simp only[NJ,List.count_cons]at h⊢;(first|lia|omega)
theorem UP{a b:List (List Nat→List Nat→List Obj→Value×Value)}(c:E8 a)(d:E8 b):E8 (a++b):=λe g=>(List.mem_append.mp g).elim (c e) (d e)
theorem UQ(B:List BE): ∀C:List BE,BL (C++B)=BL C++BL B
 |[]=>rfl
 |e::C=>Am (λl=>_::_::l) (UQ B C)
theorem jP{a p z b:Nat}(c:a≤p)(d:p+z≤b)(h:z≠0):p-a+(b-(p+z))+1≤b-a:=by
 obtain⟨x,e⟩:=Nat.le.dest c;obtain⟨y,g⟩:=Nat.le.dest d;rw[←g,←e,Li,Li,Lv a x z,Lv a (x+z) y,Li];(first|lia|omega)
theorem jQ{c:QE}{p z:Nat}{j m l:Bool}{a b:Nat→Nat}(v:Em a b c.lo c.hi=p)(hz:En a b c.lo c.hi=z)(w:c.lo≤p)(r:p+z≤c.hi)(y:c.lo<c.hi)(ch:c.hi≤8)(s:((z:Int) != 0)=j)(i:decide ((c.lo:Int)<p)=m)(g:decide ((p:Int)+z<c.hi)=l)(n t:Nat→Nat)(o:Nat→Obj):
  mu (JK c p z j m l n t o)+1≤c.hi-c.lo∧(KB p z j n o).length≤1∧(∀e∈JK c p z j m l n t o,e.lo<e.hi∧e.hi≤8)∧
   ∀k Q B,Ea a b (k+1) ((c.lo,c.hi)::Q) B=Ea a b k (lh (JK c p z j m l n t o).reverse++Q) (B++pz (KB p z j n o)):=by
 have d: ∀k Q B,Ea a b (k+1) ((c.lo,c.hi)::Q) B=if z=0 then Ea a b k Q B else Ea a b k ((if p+z<c.hi then[(p+z,c.hi)]else[])++(if c.lo<p then[(c.lo,p)]else[])++Q) (B++[(p,z)]):=λk Q B=>by
  rw[←v,←hz];rfl
 clear v hz;cases j with
 |false=>exact⟨Nat.sub_pos_of_lt y,B7 _,λe h=>(nomatch h),λk Q B=>((d k Q B).trans (AS (Int.ofNat.inj (bne_eq_false_iff_eq.mp s)))).trans (Am _ (BV B).symm)⟩
 |true=>
  have u:z≠0:=λe=>bne_iff_ne.mp s (Am Int.ofNat e);have key:=jP w r u;have A:=Ay (GF p z) (Ay r ch);have d:=λk Q B=>(d k Q B).trans (AH u);clear u s y w r;cases m with
  |false=>
   have i: ¬c.lo<p:=λe=>of_decide_eq_false i (Int.ofNat_lt.mpr e);rw[AH i]at d;clear i;cases l with
   |false=>
    rw[AH λe=>of_decide_eq_false g (Int.ofNat_lt.mpr e)]at d;exact⟨Ay (Eu (B7 _)) key,A7 _,λe h=>(nomatch h),d⟩
   |true=>
    have g:p+z<c.hi:=Int.ofNat_lt.mp (of_decide_eq_true g);rw[AS g]at d;exact⟨Ay (Eu (Nat.le_add_left _ _)) key,A7 _,λe h=>List.mem_singleton.mp h▸⟨g,ch⟩,d⟩
  |true=>
   have i:c.lo<p:=Int.ofNat_lt.mp (of_decide_eq_true i);rw[AS i]at d;cases l with
   |false=>
    rw[AH λe=>of_decide_eq_false g (Int.ofNat_lt.mpr e)]at d;exact⟨Ay (Eu (GF _ _)) key,A7 _,λe h=>List.mem_singleton.mp h▸⟨i,A⟩,d⟩
   |true=>
    have g:p+z<c.hi:=Int.ofNat_lt.mp (of_decide_eq_true g);rw[AS g]at d;exact⟨key,A7 _,λe h=>(List.mem_cons.mp h).elim (λh=>h▸⟨i,A⟩) λh=>List.mem_singleton.mp h▸⟨g,ch⟩,d⟩
theorem jR(b a c:Bool):BR (List.range 16++cond b ([19,20]++cond a [24] []++cond c [cond a 25 24] []) [])=true:=by
 cases b <;> cases a <;> cases c <;> rfl
theorem jS(a Q:List QE):HG (a.reverse++Q).reverse=KA (HG Q.reverse) (HG a):=by
 rw[Qz,List.reverse_append,List.reverse_reverse];exact BC
theorem jT(B a:List BE):GZ (B++a)=KA (GZ B) (GZ a):=(Qz _ _).symm▸BC
theorem jU{Q:List QE}(h: ∀c∈Q,c.lo<c.hi∧c.hi≤8):Q.length≤mu Q:=by
 induction Q with
 |nil=>exact B7 _
 |cons c Q a=>
  have d:=(h c (.head _)).1;have g:=a λe b=>h e (.tail _ b);refine (?_:Q.length+1≤c.hi-c.lo+mu Q);(first|lia|omega)
noncomputable def OL(w:Aa)(K:QK)(d:Bool)(k:Nat)(Q:List QE)(B:List BE)(D:List QE)(r:Result)(L:Ae):Prop:=r= .ok .next∧SA λ (v:Bool) (T:TT) (n e:Nat) (a:List BE) (b:List QE)=>(Q≠[]∨d=true→v=true)∧(∀c g,Q=c::g→ ∃h,b=h++[c])∧L=KC w K v T n e [] a++(QL b++QL D)∧pz a=Ea K.a K.b k (lh Q) (pz B)
theorem OL.up{w:Aa}{K:QK}{v:Bool}{k:Nat}{c:QE}{b Q:List QE}{B d:List BE}{D:List QE}{r:Result}{L:Ae}(e:Ea K.a K.b (k+1) (lh (c::Q)) (pz B)=Ea K.a K.b k (lh b.reverse++lh Q) (pz B++pz d))(h:OL w K true k (b.reverse++Q) (B++d) (c::D) r L):OL w K v (k+1) (c::Q) B D r L:=by
 obtain⟨j,v,T,n,g,i,a,l,_,m,o⟩:=h;refine⟨j,v,T,n,g,i,a++[c],λ_=>l (.inr rfl),λs t e=>⟨a,Am (a++[·]) (Kc e).1⟩,m.trans (Am (KC w K v T n g [] i++ ·) ?_),(o.trans ?_).trans e.symm⟩
 ·unfold QL
  rw[BC,Dr];rfl
 ·unfold lh pz
  rw[BC,BC]
theorem jV{w:Aa}{K:QK}(i:Lt K.a)(j:Lt K.b){d k:List Value}{n u:Nat}{c:QE}{p z:Nat}{l e m:Bool}(o:Em K.a K.b c.lo c.hi=p)(hz:En K.a K.b c.lo c.hi=z)(r:c.lo<c.hi)(ch:c.hi≤8)(b:d.length≤8)(y:k.length≤8):DD w (UM w K d k n u c p z l e m):=by
 have g: ∀{a n x} {s:List Value},s.length≤9→Av w (CQ a s n x):=λh=>EN (Ay h (Ef rfl));have t: ∀{v},(d++[v]).length≤9:=EX▸Eu b;have b:=Iq b;refine HD (Ah (λ_ _ _=>UK EX (Eu (Ay b (Ef rfl)))) (Ah (λ_ _ _=>jF (Ay b (Ef rfl))) (Ah (λ_ _ _=>jE i j r ch o hz) AC))) ?_;clear i j o hz r ch;cases l with
 |false=>exact AC
 |true=>
  refine Ah (λ_ _ _=>g (Iq y)) (HD ?_ ?_)
  ·cases e with
   |false=>exact AC
   |true=>exact Ah (λ_ _ _=>g b) AC
  ·cases m with
   |false=>exact AC
   |true=>exact Ah (λ_ _ _=>g (by cases e;exact b;exact t)) AC
theorem jW{c:QE}{p z:Nat}{a d b:Bool}(g:((z:Int) != 0)=a)(i:decide ((c.lo:Int)<p)=d)(j:decide ((p:Int)+z<c.hi)=b):E8 (UN c p z a d b):=by
 refine Az (λ_ _ _=>Am Value.bool g) ?_;have k: ∀{n:Nat} {e:List Nat→List Nat→List Obj→Value×Value},(∀l m o,(e l m o).1=(e l m o).2)→E8 (Cc n e):=λh f r=>List.eq_of_mem_replicate r▸h;clear g;cases a with
 |false=>exact Bp
 |true=>
  refine UP (UP (k λ_ _ _=>Am Value.bool i) (k λ_ _ _=>Am Value.bool j)) ?_;clear i j;cases b with
  |false=>exact Bp
  |true=>exact Az (λ_ _ _=>rfl) (Az (λ_ _ _=>rfl) Bp)
theorem UR{w:Aa}{A:Al}(m:A.handled=none)(o:A.depth≤570)(s:A.units≤3400){K:QK}(H:Lt K.a)(I:Lt K.b):
  ∀(k:Nat) (Q:List QE) (B:List BE) (v:Bool) (T:TT) (n a:Nat) (D:List QE),mu Q<k→mu Q+B.length≤8→(∀c∈Q,c.lo<c.hi∧c.hi≤8)→
   RunsW w A (Mn Mp (Mo K.f)) (KC w K v T n a Q B++QL D) λr t u=>OL w K v k Q B D r t
 |0,_,_,_,_,_,_,_,y,_,_=>absurd y (Ka _)
 |k+1,[],B,v,T,n,a,D,_,_,_=>by
  rw[KC,Dr];refine Me (Bf (jK w K.f K.q K.m K.mb K.tb K.ta n K.e _ _) [] m o s AR Ar (Φ:=λr t u=>r= .ok .next∧t=HH w.2 K v T [] n) λb i d=>⟨rfl,rfl⟩) λr L u h=> ?_;exact⟨h.1,v,T,n,a,B,[],λh=>h.elim (absurd rfl) id,λc V e=>(nomatch e),(Am (· ++_) h.2).trans (Dr _ _ _).symm,rfl⟩
 |k+1,c::Q,B,v,T,n,a,D,y,P,g=>by
  obtain⟨C,ch⟩:=g c (.head _);obtain⟨_,E⟩:=Qx K.a K.b (Bw C);have g: ∀e∈Q,e.lo<e.hi∧e.hi≤8:=λe F=>g e (.tail _ F);have X:=jU g;have R:mu (c::Q)=c.hi-c.lo+mu Q:=rfl;rw[R]at y P;have J:(HG Q.reverse).length≤8:=by rw[BY,List.length_reverse];(first|lia|omega)
  have M:(GZ B).length≤8:=by rw[BY];(first|lia|omega)
  have N:HG (c::Q).reverse=HG Q.reverse++[.ref c.x]:=by rw[List.reverse_cons];exact BC
  rw[KC,N];have W:=jW (c:=c) (p:=Em K.a K.b c.lo c.hi) (z:=En K.a K.b c.lo c.hi) rfl rfl rfl;refine EO (jJ w K v T (HG Q.reverse) (GZ B) n a c _ _ _ _ _) ((QL Q++BL B)++QL D) (jN _ _ _ _ _) [] m o s (AD _ _ (jV H I rfl rfl C ch J M)) (Bi _ _ W) (λb i d=> ?_) (jR _ _ _);obtain⟨S,U,O,G⟩:=jQ rfl rfl E.p1 E.p2 C ch rfl rfl rfl b i d;clear W E J M N;generalize JK c _ _ _ _ _ b i d=j at S O G⊢;generalize KB _ _ _ b d=l at U G⊢;have Y:mu (j.reverse++Q)=mu j+mu Q:=by
   rw[jM];unfold mu;rw[List.map_reverse,List.sum_reverse]
  have Z:(B++l).length=B.length+l.length:=EX;refine⟨_,?_,(UR m o s H I k (j.reverse++Q) (B++l) true (UO v T c (Em K.a K.b c.lo c.hi) (En K.a K.b c.lo c.hi) b i d) (n+1+j.length) (a+l.length) (c::D) (by (first|lia|omega)) (by (first|lia|omega)) λe F=>(List.mem_append.mp F).elim (λh=>O e (List.mem_reverse.mp h)) (g e)).mono λr L u h=>h.up (G k _ _)⟩;rw[KC,jS,jT];refine jO ?_ (UQ _ _);unfold QL;rw[BC,List.map_reverse];exact(GD _).symm.append_right _
noncomputable abbrev QA:Expr:=sk (AB (AN (DX 17)) 0) 0 [1]
noncomputable abbrev US(f a c:Nat):Env:={scope:={Fq QA with names:=[(Hw,.local),(DC,.local),(GO,.cell)]},locals:=a,globals:=3,cells:=[(GO,c)],qual:=⟨⟨[95,108,97,119,95,116,101,120,116,46,60,108,111,99,97,108,115,62,46]⟩⟩,func:=none,code:=.ref 306,frame:=some f,builtins:=0}
noncomputable abbrev c_text(f b c d a:Nat):Code:=.compLoop QA 0 (.ref d) (.ref a) (US f b c)
noncomputable abbrev Aw(a:Nat):=ce (some (.ref a))
noncomputable abbrev L_text(g c b a d:Nat)(e h:List Value)(n m k j:Nat)(o:Obj):Ae:=[(g,li e n),(c,Aw g),(b,fi Ex [.int k 0,.int j 0,.int 1 0]),(a,li h m),(d,o)]
noncomputable def ch(b:Bool)(k:Nat):Nat:=cond b (65+k) (97+k)
noncomputable abbrev OM(g c:Nat)(d e:List Value)(n m k:Nat)(b:Bool):List (Nat×(List Nat→List Nat→List Obj→Ak)):=
 [(1,λ_ a _=>(Kp g d n k (a.getD 0 0) b).at [0]),(1,λ_ a _=>(CQ c e m (.str ⟨⟨[ch b k]⟩⟩ (a.getD 3 0))).at [3])]
inductive ClK (P:Aj):Nat→Obj→Prop
 |no:ClK P 0 (di [] 0)
 |yes (k t1 t2:Nat):ClK P (k+1) (di [Ap P DC t1 (.int k t2)] 1)
theorem jX(w:Aa)(g f c d a e:Nat)(i l:List Value)(n m:Nat)(b:Bool)(k j:Nat)(h:k+j=7)(r:Nat)(s:Int)(t:Nat):
  AI w 60 (c_text f e c d a) (L_text g c d a e i l n m k (j+1) (di [Ad w DC r (.int s t)] 1)) [3,3,3,3,3,3,3,3,3,0,5,5,5,2,1,1,5] (OM g a i l n m k b) [] 0 720 5000 [0,1,2,3,4]
   (λu o v=>.again (c_text f e c d a)) (λu o v=>L_text g c d a e i (l++[.str ⟨⟨[ch b k]⟩⟩ (o 3)]) n (m+1) (k+1) j (di [Ad w DC r (.int k (o 0))] 1)) 4:=by
 obtain rfl:j=7-k:=by (first|lia|omega)
 have y:k<8:=by (first|lia|omega)
 clear h;revert b;revert k;exact Tz 8 (by kernel_rfl)
theorem jY(w:Aa)(g f c d a e:Nat)(l o:List Value)(n m:Nat)(b:Bool)(k j:Nat)(h:k+j=7):
  AI w 60 (c_text f e c d a) (L_text g c d a e l o n m k (j+1) (di [] 0)) [3,3,3,3,3,3,3,3,3,0,5,5,5,2,1,1,5] (OM g a l o n m k b) [] 0 720 5000 [0,1,2,3,4]
   (λr i s=>.again (c_text f e c d a)) (λr i s=>L_text g c d a e l (o++[.str ⟨⟨[ch b k]⟩⟩ (i 3)]) n (m+1) (k+1) j (di [Ad w DC (i 1) (.int k (i 0))] 1)) 4:=by
 obtain rfl:j=7-k:=by (first|lia|omega)
 have t:k<8:=by (first|lia|omega)
 clear h;revert b;revert k;exact Tz 8 (by kernel_rfl)
theorem jZ(w:Aa)(g f c b a d:Nat)(e h:List Value)(n m:Nat)(o:Obj):
  AI w 60 (c_text f d c b a) (L_text g c b a d e h n m 8 0 o) [3,3,3,3,3,7] [] [] 0 720 5000 [0,1,2,3,4] (λi j k=>.done .next) (λi j k=>L_text g c b a d e h n m 8 0 o) 0:=by
 kernel_rfl
noncomputable def chOf(a:List Int)(k:Nat):Nat:=ch (decide ((k:Int)∈a)) k
noncomputable def Mq(a:List Int):Nat→List Nat→List Value
 |_,[]=>[]
 |k,t::b=>.str ⟨⟨[chOf a k]⟩⟩ t::Mq a (k+1) b
noncomputable abbrev KD:=fi Ex [.int 8 0,.int 0 0,.int 1 0]
theorem uC{w:Aa}{A:Al}(B:A.handled=none)(C:A.depth≤720)(D:A.units≤5000){g f c d a e:Nat}{h:List Value}{n:Nat}{u:List Int}(L:AX h u):
  ∀(j k:Nat),k+j=8→ ∀(b:List Value) (m:Nat) (o:Obj),ClK w.2 k o→b.length+j≤100→RunsW w A (c_text f e c d a) (L_text g c d a e h b n m k j o)
   λr v i=>r= .ok .next∧i.length=j∧Ei λo1 l s=>v=[(g,li h n),(c,Aw g),(d,o1),(a,li (b++Mq u k i) (m+j)),(e,di [Ad w DC l (.int 7 s)] 1)]:=by
 intro j
 induction j with
 |zero=>
  intro k M b m o E N;obtain rfl:k=8:=by (first|lia|omega)
  cases E;rename_i l s;refine Bf (jZ w g f c d a e h b n m _) [] B C D AR Ar λF y G=>⟨rfl,rfl,KD,l,s,?_⟩
  simp only[Mq,List.map_nil,BV,Lz];rfl
 |succ j O=>
  intro k M b m o E N;have X: ∀q∈OM g a h b n m k (decide ((k:Int)∈u)),∀H i I,Av w (q.2 H i I):=by
   intro q J H i I;simp only[OM,Jo,Jm,or_false]at J;rcases J with rfl|rfl
   ·exact Mb L rfl
   ·exact EN (by (first|lia|omega))
  have next: ∀(t:Nat) (z:Obj),ClK w.2 (k+1) z→RunsW w A (c_text f e c d a) (L_text g c d a e h (b++[.str ⟨⟨[chOf u k]⟩⟩ t]) n (m+1) (k+1) j z)
    λr v i=>r= .ok .next∧(t::i).length=j+1∧Ei λo1 l s=>v=[(g,li h n),(c,Aw g),(d,o1),(a,li (b++Mq u k (t::i)) (m+(j+1))),(e,di [Ad w DC l (.int 7 s)] 1)]:=λt z K=>
   (O (k+1) (by (first|lia|omega)) _ (m+1) z K (by (first|((repeat(first|exact .head _|apply List.mem_cons_of_mem));done)|simp);(first|lia|omega))).mono (by rintro r v i ⟨P,Q,o1,l,s,R⟩;exact⟨P,Am (· +1) Q,o1,l,s,by
    rw[R,Dr,show m+1+j=m+(j+1) by (first|lia|omega)];rfl⟩)
  cases E with
  |no=>exact EZ (jY w g f c d a e h b n m _ 0 j (by (first|lia|omega))) [3] B C D X Ar λF y G=>next (y 3) _ (.yes ..)
  |yes k l s=>exact EZ (jX w g f c d a e h b n m _ (k+1) j (by (first|lia|omega)) l k s) [3] B C D X Ar λF y G=>next (y 3) _ (.yes ..)
noncomputable def QB(P:Aj)(g f c b a e:Nat)(i:List Value)(n:Nat)(j:List Int):Ak:=
 {d:=720,u:=5000,h:=none,c:=.compStart QA 0 (.ref b) (.ref a) (US f e c),idx:=[],pre:=L_text g c b a e i [] n 0 0 8 (di [] 0),na:=0,nt:=8,no:=3,r:=λ_ _=>.ok .next,
  outs:=λ_ t o=>[li i n,Aw g,o.getD 0 default,li (Mq j 0 t) 8,di [Ap P DC (Ao o 1) (.int 7 (Ao o 2))] 1],news:=λ_ _ _=>[]}
theorem uD{w:Aa}{g f c e a h:Nat}{b:List Value}{n:Nat}{d:List Int}(i:AX b d):Av w (QB w.2 g f c e a h b n d):=by
 refine Ba.ext λA j k l=> ?_;refine IC 0 (o:=fi Ex [.int 0 0,.int 8 0,.int 1 0]) ?_ (by simp[QB,L_text]) (by kernel_rfl) (by kernel_rfl);refine(uC l j k i 8 0 rfl [] 0 (di [] 0) .no (by decide)).mono ?_;rintro r y z ⟨m,s,o1,t,u,v⟩;refine⟨[],[o1,Ac t,Ac u],rfl,s,rfl,m,?_⟩;rw[v];rfl
noncomputable def BX(a:List Int):Str:=⟨⟨[chOf a 0,chOf a 1,chOf a 2,chOf a 3,chOf a 4,chOf a 5,chOf a 6,chOf a 7]⟩⟩
theorem uE(w:Aa)(g:Nat)(b:List Value)(n:Nat)(c:List Int):
  AI w 100 (.call (.ref 307) ⟨[.ref g],[]⟩) [(g,li b n)] [0,0,3,3,0,1,0,0,4,4,4,4,4,4,1,4,4,4,4,5,7,7,7,6,6]
   [(4,λa i j=>(QB w.2 g (a.getD 0 0) (a.getD 1 0) (a.getD 3 0) (a.getD 4 0) (a.getD 5 0) b n c).at [0,2,4,5,6])] [] 1 620 4000 [0]
   (λe d h=>.done (.ret (.str (BX c) (d 12)))) (λe d h=>[(g,li b n)]) 13:=by
 kernel_rfl
noncomputable def KF(g:Nat)(a:List Value)(n:Nat)(b:List Int):Ak:=
 {d:=620,u:=4000,h:=none,c:=.call (.ref 307) ⟨[.ref g],[]⟩,idx:=[],pre:=[(g,li a n)],na:=0,nt:=1,r:=λ_ t=>.ok (.ret (.str (BX b) (t.getD 0 0))),outs:=λ_ _ _=>[li a n],news:=λ_ _ _=>[]}
theorem ON{w:Aa}{g:Nat}{a:List Value}{n:Nat}{b:List Int}(d:AX a b):Av w (KF g a n b):=by
 refine Ba.ext λA e h i=> ?_;refine Bf (uE w g a n b) [12] i e h (λq c j k l=> ?_) Ar λm o r=>⟨[],[],rfl,rfl,rfl,rfl,rfl⟩
 simp only[Jo,Jm,or_false]at c;subst c;exact uD d
noncomputable abbrev QD:Expr:=sk (AB (AN (DX 21)) 0) 0 []
noncomputable abbrev UT(f a c1 b:Nat):Env:={scope:={Fq QD with names:=[(Hw,.local),(DC,.local),(DB,.cell),(GO,.cell)]},locals:=a,globals:=3,cells:=[(GO,c1),(DB,b)],qual:=⟨⟨[95,108,97,119,95,116,117,114,110,101,100,46,60,108,111,99,97,108,115,62,46]⟩⟩,func:=none,code:=.ref 326,frame:=some f,builtins:=0}
noncomputable abbrev Mr(f b c1 c d a:Nat):Code:=.compLoop QD 0 (.ref d) (.ref a) (UT f b c1 c)
noncomputable abbrev Gm(P:Aj)(a c:Nat)(d:Int)(b:Bool):Obj:=di (cond b [Ap P DC a (.int d c)] []) (cond b 1 0)
theorem uF(w:Aa)(g h f c1 k j a l i n s t m A B:Nat)(C:Int)(u v o:List Value)(b c d:Bool):
  AI w 40 (Mr f l c1 k j a) ([(g,li u s),(h,li v t),(c1,Aw g),(k,Aw h),(j,Bb i (n+1)),(a,li o m),(l,Gm w.2 A B C b)]) ([5,0,7,7,7,3,1,1,7,4,2,2,1]++cond (c != d) [7] []) (AE ([(0,[4]),(0,[0]),(0,[1])]++cond (c != d) [(1,[5])] []) ([λy e z=>Fu j i n,λy e z=>Kp g u s i (tk e 0) c,λy e z=>Kp h v t i (tk e 0) d]++cond (c != d) [λy e z=>CQ a o m (.int i (tk e 0))] [])) [] 0 520 3000 (.range 7)
   (λD r E=>.again (Mr f l c1 k j a)) (λD r E=>[(g,li u s),(h,li v t),(c1,Aw g),(k,Aw h),(j,Bb (i+1) n),(a,li (cond (c != d) (o++[.int i (r 0)]) o) (cond (c != d) (m+1) m)),(l,Gm w.2 (cond b A (r 1)) (r 0) i true)]) 2:=by
 revert b c d;exact Ob (by kernel_rfl)
theorem uG(w:Aa)(f c1 c a b d i:Nat):
  AI w 20 (Mr f d c1 c a b) ([(a,Bb i 0)]) [1,1,1,1,1,3] [] [] 0 520 3000 [0]
   (λe g h=>.done .next) (λe g h=>[(a,OF i)]) 0:=by
 kernel_rfl
section
noncomputable def BD:List Int→(Nat→Nat)→List Value
 |[],_=>[]
 |n::a,g=>.int n (g 0)::BD a λi=>g (i+1)
theorem JM: ∀(a:List Int) (g:Nat→Nat),AX (BD a g) a:=by
 intro a
 induction a with
 |nil=>intro g;exact .nil
 |cons n a b=>intro g;exact .cons n (g 0) (b _)
theorem uH: ∀{a:List Value} {b:List Int},AX a b→ ∃g,a=BD b g:=by
 intro a b h
 induction h with
 |nil=>exact⟨λ_=>0,rfl⟩
 | @cons n t a b _ c=>
  obtain⟨g,rfl⟩:=c;exact⟨λi=>match i with|0=>t|i+1=>g i,rfl⟩
theorem uI: ∀(a:List Int) (g h:Nat→Nat),(∀i,i<a.length→g i=h i)→BD a g=BD a h:=by
 intro a
 induction a with
 |nil=>intro g h _;rfl
 |cons n a b=>
  intro g h e;refine (?_:Value.int n (g 0)::BD a _=Value.int n (h 0)::BD a _);rw[e 0 (by (first|((repeat(first|exact .head _|apply List.mem_cons_of_mem));done)|simp)),b _ _ λi c=>e (i+1) (by simpa using c)]
theorem uJ{a:List Value}{b:List Int}(h:AX a b)(n:Int)(t:Nat):AX (a++[.int n t]) (b++[n]):=by
 induction h with
 |nil=>exact .cons n t .nil
 |cons _ _ _ c=>exact .cons _ _ c
theorem G0{a:List Value}{b:List Int}(h:AX a b):a.length=b.length:=by
 induction h with
 |nil=>rfl
 |cons _ _ _ c=>simp[c]
theorem uK(a:List Int)(h:a.length≤8)(o1 o2 o3:Obj)(g:Nat→Nat):BD a g=BD a λi=>Ao (o1::o2::o3::(List.range 8).map λi=>Ac (g i)) (3+i):=
 uI _ _ _ λi b=>GN 8 (f:=g) (g:=λi=>Ao (o1::o2::o3::(List.range 8).map λi=>Ac (g i)) (3+i)) rfl i (DV b h)
theorem OO{w:Aa}{b:Bool}{a:List (List Nat→List Nat→List Obj→Ak)}(h:DD w a):DD w (cond b a []):=by
 cases b
 ·exact AC
 ·exact h
noncomputable def Bz(p:Nat→Bool)(n:Nat):List Int:=Nat.rec [] (λi l=>cond (p i) (l++[(i:Int)]) l) n
theorem QF(p:Nat→Bool): ∀i,(Bz p i).length≤i:=by
 intro i
 induction i with
 |zero=>exact A7 0
 |succ i a=>
  show(cond (p i) (Bz p i++[(i:Int)]) (Bz p i)).length≤i+1;cases p i
  ·exact Iq a
  ·rw[cond_true,EX]
   exact Eu a
theorem OP{p:Nat→Bool}{i x:Nat}{a:List Value}(h:AX a (Bz p i)):AX (cond (p i) (a++[.int i x]) a) (Bz p (i+1))∧(Bz p (i+1)).length=cond (p i) ((Bz p i).length+1) (Bz p i).length:=by
 refine (?_:AX (cond (p i) _ a) (cond (p i) (Bz p i++[(i:Int)]) (Bz p i))∧(cond (p i) (Bz p i++[(i:Int)]) (Bz p i)).length=_);cases p i
 ·exact⟨h,rfl⟩
 ·exact⟨uJ h _ _,EX⟩
section
variable (w:Aa)(A:Al)(C:Code)(G:Ae)(it acc cl:Nat)(p:Nat→Bool)
noncomputable def QG:Prop:= ∀(c:Result→Ae→List Nat→Prop) (i n m d e:Nat) (g:Int) (b:Bool) (a:List Value),i+n<8→a.length≤8→
 (∀x y,RunsW w A C (G++[(it,Bb (i+1) n),(acc,li (cond (p i) (a++[.int i x]) a) (cond (p i) (m+1) m)),(cl,Gm w.2 (cond b d y) x i true)]) c)→
 RunsW w A C (G++[(it,Bb i (n+1)),(acc,li a m),(cl,Gm w.2 d e g b)]) c
noncomputable def QH:Prop:=RunsW w A C [(it,Bb 8 0)] λr a b=>r= .ok .next∧a=[(it,KD)]
noncomputable def OQ(P:Aj)(o:List Obj):Ae:=G++[(it,o.getD 0 default),(acc,li (BD (Bz p 8) λi=>Ao o (3+i)) (Bz p 8).length),(cl,di [Ap P DC (Ao o 1) (.int 7 (Ao o 2))] 1)]
inductive UU (P:Aj) (r:Result) (L':Ae):Prop
 |mk (hr:r= .ok .next) (o:List Obj) (ho:o.length=11) (hL:L'=OQ G it acc cl p P o)
noncomputable def OR(P:Aj)(d u:Nat)(e:Expr)(a:Env):Ak:=
 {d:=d,u:=u,h:=none,c:=.compStart e 0 (.ref it) (.ref acc) a,idx:=[],pre:=G++[(it,Bb 0 8),(acc,li [] 0),(cl,di [] 0)],na:=0,nt:=0,no:=11,r:=λ_ _=>.ok .next,
  outs:=λ_ _ o=>(OQ G it acc cl p P o).map (·.2),news:=λ_ _ _=>[]}
end
section
variable {w:Aa}{A:Al}{C:Code}{G:Ae}{it acc cl:Nat}{p:Nat→Bool}
theorem uL(k:QH w A C it)(l:QG w A C G it acc cl p): ∀(n i:Nat),i+1+n=8→ ∀(d:List Value) (b c:Nat),AX d (Bz p (i+1))→
  RunsW w A C (G++[(it,Bb (i+1) n),(acc,li d (Bz p (i+1)).length),(cl,Gm w.2 b c i true)]) λr m o=>UU G it acc cl p w.2 r m:=by
 intro n
 induction n with
 |zero=>
  intro i j d b c e;obtain rfl:i=7:=Nat.succ.inj j;obtain⟨g,rfl⟩:=uH e;refine (?_:RunsW w A C (G++[(it,Bb 8 0),(acc,li (BD (Bz p 8) g) (Bz p 8).length),(cl,Gm w.2 b c (7:Nat) true)]) _);refine Gj (G++[(acc,li (BD (Bz p 8) g) (Bz p 8).length),(cl,Gm w.2 b c (7:Nat) true)]) (L1:=[(it,Bb 8 0)]) (EF (l₁:=G) (a:=(it,Bb 8 0))).symm k λr u o h=> ?_;obtain⟨s,rfl⟩:=h;refine⟨_,(EF (l₁:=G) (a:=(it,KD))).symm,s,fi Ex [.int 8 0,.int 0 0,.int 1 0]::Ac b::Ac c::(List.range 8).map (λi=>Ac (g i)),rfl,?_⟩;rw[uK _ (QF p 8) (fi Ex [.int 8 0,.int 0 0,.int 1 0]) (Ac b) (Ac c) g];rfl
 |succ n t=>
  intro i j d b c e;refine l _ (i+1) n _ b c i true d (by (first|lia|omega)) (Ay (G0 e▸QF p _) (by (first|lia|omega))) λx y=> ?_;have z:=t (i+1) (by (first|lia|omega)) _ b x (OP (x:=x) e).1;rw[(OP (x:=x) e).2]at z;exact z
theorem QI{d u:Nat}{e:Expr}{a:Env}(g:Ix e 0=true)(h: ∀A:Al,A.handled=none→A.depth≤d→A.units≤u→QH w A (.compLoop e 0 (.ref it) (.ref acc) a) it∧QG w A (.compLoop e 0 (.ref it) (.ref acc) a) G it acc cl p):Av w (OR G it acc cl p w.2 d u e a):=by
 refine Ba.ext λA j k l=> ?_;have H:=h A l j k;refine IC 0 (o:=Bb 0 8) (Φ:=λr b c=>_) ?_ (BG _ Bj) (by kernel_rfl) g;refine(Mg (Φ:=λr b c=>UU G it acc cl p w.2 r b) (H.2 _ 0 7 0 0 0 0 false [] (by decide) (by decide) λx y=> ?_)).mono λr b c hz=> ?_
 ·have z:=uL H.1 H.2 7 0 rfl _ y x (OP (p:=p) (i:=0) (x:=x) .nil).1
  rw[(OP (p:=p) (i:=0) (x:=x) .nil).2]at z;exact z
 ·obtain⟨m,v,n,o,s,t⟩:=hz
  refine⟨[],o,rfl,by rw[m];rfl,s,n,?_⟩;rw[t];refine (?_:_=Bk (G++[(it,Bb 0 8),(acc,li [] 0),(cl,di [] 0)]) ((OQ G it acc cl p w.2 o).map (·.2))++[]);rw[BV,Kz];unfold OQ;rw[BC,BC];rfl
end
noncomputable def QJ(a b:List Int)(i:Nat):Bool:=decide ((i:Int)∈a) != decide ((i:Int)∈b)
noncomputable abbrev DM(a b:List Int):Nat→List Int:=Bz (QJ a b)
theorem uM{w:Aa}{A:Al}(l:A.handled=none)(o:A.depth≤520)(r:A.units≤3000){d g f c1 c it acc cl s t:Nat}{h j:List Value}{a b:List Int}(u:AX h a)(v:AX j b):
  QH w A (Mr f cl c1 c it acc) it∧QG w A (Mr f cl c1 c it acc) [(d,li h s),(g,li j t),(c1,Aw d),(c,Aw g)] it acc cl (QJ a b):=
 ⟨Bf (uG w f c1 c it acc cl 8) [] l o r AR Ar λy k z=>⟨rfl,rfl⟩,λJ i n m B D E e F H I K=>
  EZ (uF w d g f c1 c it acc cl i n s t m B D E h j F e (decide ((i:Int)∈a)) (decide ((i:Int)∈b))) [] l o r (AD _ _ (HD (Ah (λ_ _ _=>JH H) (Ah (λ_ _ _=>Mb u rfl) (Ah (λ_ _ _=>Mb v rfl) AC))) (OO (Ah (λ_ _ _=>EN (Ay I (by decide))) AC)))) Ar λy k z=>K (k 0) (k 1)⟩
end
noncomputable abbrev UV(P:Aj)(c d f c1 e i g h j k:Nat)(l m:List Value)(a b:List Int):Ak:=
 OR [(c,li l j),(d,li m k),(c1,Aw c),(e,Aw d)] i g h (QJ a b) P 520 3000 QD (UT f h c1 e)
noncomputable abbrev Ms(a:Nat→Obj):=[a 0,a 1,a 2,a 3,a 4,a 5,a 6,a 7,a 8,a 9,a 10]
theorem uN(w:Aa)(d e g h:Nat)(j k:List Value)(a b:List Int):
  AI w 63 (.call (.ref 327) ⟨[.ref d,.ref e],[]⟩) ([(d,li j g),(e,li k h)]) (dg 10 0x84f0426ec0910dbee4adf) (AE [(4,[0,1,3,4,6,7,8])] ([λc o r=>UV w.2 d e (tk c 0) (tk c 1) (tk c 2) (tk c 4) (tk c 5) (tk c 6) g h j k a b])) [] 1 470 2500 [0,1,7]
   (λl n m=>.done (.ret (.ref (l 5)))) (λl n m=>[(d,li j g),(e,li k h),(l 5,li (BD (DM a b 8) λi=>Ao (Ms m) (3+i)) (DM a b 8).length)]) 3:=by
 kernel_rfl
theorem uO{w:Aa}{g h f c1 i j c k l m:Nat}{d e:List Value}{a b:List Int}(n:AX d a)(o:AX e b):Av w (UV w.2 g h f c1 i j c k l m d e a b):=
 QI (by kernel_rfl) λA r s t=>uM r s t n o
noncomputable def QM(e g j k:Nat)(l m:List Value)(a b:List Int):Ak:=
 {d:=470,u:=2500,h:=none,c:=.call (.ref 327) ⟨[.ref e,.ref g],[]⟩,idx:=[],pre:=[(e,li l j),(g,li m k)],na:=1,nt:=0,no:=11,r:=λx _=>.ok (.ret (.ref (x.getD 0 0))),
  outs:=λ_ _ _=>[li l j,li m k],news:=λ_ _ o=>[li (BD (DM a b 8) λi=>Ao o (3+i)) (DM a b 8).length]}
theorem uP{w:Aa}{e g h i:Nat}{c d:List Value}{a b:List Int}(j:AX c a)(k:AX d b):Av w (QM e g h i c d a b):=by
 refine Ba.ext λA l m n=> ?_;exact Bf (uN w e g h i c d a b) [] n l m (AD _ _ (Ah (λ_ _ _=>uO j k) AC)) Ar λo s r=>⟨[o 5],Ms r,rfl,rfl,rfl,rfl,rfl⟩
noncomputable abbrev QN:Expr:=sk (AB (AN (DX 18)) 0) 0 []
noncomputable abbrev UW(f a c:Nat):Env:={scope:={Fq QN with names:=[(Hw,.local),(DC,.local),(Gg,.cell)]},locals:=a,globals:=3,cells:=[(Gg,c)],qual:=⟨⟨[95,108,97,119,95,103,114,101,97,116,46,60,108,111,99,97,108,115,62,46]⟩⟩,func:=none,code:=.ref 311,frame:=some f,builtins:=0}
noncomputable abbrev QO(f b c d a:Nat):Code:=.compLoop QN 0 (.ref d) (.ref a) (UW f b c)
theorem uQ(w:Aa)(f c e a g i n m t o r:Nat)(s:Int)(x:Nat→Nat)(h:List Value)(b q:Bool):
  AI w 35 (QO f g c e a) ([(c,ce (some (AG x t))),(e,Bb i (n+1)),(a,li h m),(g,Gm w.2 o r s b)]) ([2,0,4,4,1,4,4,1]++cond q [4] []) (AE ([(0,[1]),(0,[]),(0,[])]++cond q [(1,[2])] []) ([λj d k=>Fu e i n,λj d k=>Cd x t i (tk d 0),λj d k=>Cd (λi=>65+i) (tk d 3) i (tk d 0)]++cond q [λj d k=>CQ a h m (.int i (tk d 0))] [])) (Bh [0] [λj d k=>(.bool ((c1 (x i)).cps.toList==(c1 (65+i)).cps.toList),.bool q)]) 0 520 3000 [0,1,2,3]
   (λu l v=>.again (QO f g c e a)) (λu l v=>[(c,ce (some (AG x t))),(e,Bb (i+1) n),(a,li (cond q (h++[.int i (l 0)]) h) (cond q (m+1) m)),(g,Gm w.2 (cond b o (l 1)) (l 0) i true)]) 5:=by
 revert b q;exact P2 (by kernel_rfl)
theorem uR(w:Aa)(f c a b d i:Nat):
  AI w 20 (QO f d c a b) ([(a,Bb i 0)]) [1,1,1,1,1,3] [] [] 0 520 3000 [0]
   (λe g h=>.done .next) (λe g h=>[(a,OF i)]) 0:=by
 kernel_rfl
noncomputable def QP(x:Nat→Nat)(i:Nat):Bool:=x i==65+i
noncomputable abbrev Eb(x:Nat→Nat):Nat→List Int:=Bz (QP x)
noncomputable abbrev UX(P:Aj)(f c d a b t:Nat)(x:Nat→Nat):Ak:=
 OR [(c,ce (some (AG x t)))] d a b (QP x) P 520 3000 QN (UW f b c)
theorem uS(w:Aa)(t:Nat)(x:Nat→Nat):
  AI w 60 (.call (.ref 312) ⟨[.str (sf x) t],[]⟩) ([]) (dg 7 0x17e5a1c3109757a09) (AE [(4,[1,3,4,5])] ([λa e g=>UX w.2 (tk a 0) (tk a 1) (tk a 3) (tk a 4) (tk a 5) t x])) [] 1 470 2500 [4]
   (λb d c=>.done (.ret (.ref (b 4)))) (λb d c=>[(b 4,li (BD (Eb x 8) λi=>Ao (Ms c) (3+i)) (Eb x 8).length)]) 3:=by
 kernel_rfl
theorem uT{w:Aa}{f c b a d t:Nat}{x:Nat→Nat}:Av w (UX w.2 f c b a d t x):=
 QI (by kernel_rfl) λA j k l=>⟨Bf (uR w f c b a d 8) [] j k l AR Ar λo g r=>⟨rfl,rfl⟩,λB i n m s u v e y h z K=>
  EZ (uQ w f c b a d i n m t s u v x y e (QP x i)) [] j k l (AD _ _ (HD (Ah (λ_ _ _=>JH h) (Ah (λ_ _ _=>HF (CM (GF i n) h)) (Ah (λ_ _ _=>HF (CM (GF i n) h)) AC))) (OO (Ah (λ_ _ _=>EN (Ay z (by decide))) AC))))
   (Bi _ _ (Az (λ_ _ _=>Am Value.bool (Bool.and_true _)) Bp)) λo g r=>K (g 0) (g 1)⟩
noncomputable def UY(t:Nat)(x:Nat→Nat):Ak:=
 {d:=470,u:=2500,h:=none,c:=.call (.ref 312) ⟨[.str (sf x) t],[]⟩,idx:=[],pre:=[],na:=1,nt:=0,no:=11,r:=λy _=>.ok (.ret (.ref (y.getD 0 0))),
  outs:=λ_ _ _=>[],news:=λ_ _ o=>[li (BD (Eb x 8) λi=>Ao o (3+i)) (Eb x 8).length]}
theorem uU{w:Aa}{t:Nat}{x:Nat→Nat}:Av w (UY t x):=by
 refine Ba.ext λA a b c=> ?_;exact Bf (uS w t x) [] c a b (AD _ _ (Ah (λ_ _ _=>uT) AC)) Ar λd g e=>⟨[d 4],Ms e,rfl,rfl,rfl,rfl,rfl⟩
theorem QQ:Bo= .type "list_iterator":=by
 refine (?_:Value.type s3492446563574874994x13=_);rw[←e3492446563574874994x13]
noncomputable abbrev liO(l:Nat)(i:Nat):Obj:=fi Bo [.ref l,.int i 0]
noncomputable abbrev Gn(a b c:Nat)(d:List Value)(e:Nat):=[(a,liO b c),(b,li d e)]
noncomputable def Ez(a l i:Nat)(b:List Value)(n:Nat)(v:Value):Ak:=
 II (.call (.builtin Op) ⟨[.ref a],[]⟩) (Gn a l i b n) [liO l (i+1),li b n] v
theorem HJ{w:Aa}{b l i n:Nat}{c:List Value}{v:Value}(h:c[i]? =some v):Av w (Ez b l i c n v):=by
 refine Kq λA s _ _ _ S R j=> ?_;have a:=S.mem (b,liO l i) (by (first|((repeat(first|exact .head _|apply List.mem_cons_of_mem));done)|simp));have g:=S.mem (l,li c n) (by (first|((repeat(first|exact .head _|apply List.mem_cons_of_mem));done)|simp));have d:=S.set (i:=0) rfl (f:=Obj.mapFields (·.setIfInBounds 1 (rawInt (i+1)))) (p:=(b,liO l i)) rfl;have e:Obj.mapFields (·.setIfInBounds 1 (rawInt (i+1))) (liO l i)=liO l (i+1):=by
  simp[Obj.mapFields,rawInt]
 dsimp only at a d;rw[e]at d;have k:(liO l i:Obj)={cls:=.type "list_iterator",data:=.fields #[.ref l,.int i 0]}:=by
  refine (?_:Obj.mk Bo none _ _=_);rw[QQ]
 rw[k]at a;rw[BW]at g;rw[T8];refine DT slot_listiter_next.plain entry_listiter_next (slot_listiter_next.check _ _ _ _ _ _ _ _ ⟨_,a,rfl⟩ (args_listiter_next _) ?_);refine (?_:wpAny _ _ (field (.ref b) 0>>=_) _ _ s);refine Af (wpAny_field a rfl (x:=.ref l) rfl ?_);refine (?_:wpAny _ _ (if(Value.ref l==Value.none)=true then _ else _) _ _ s);rw[AH (show¬((Value.ref l==Value.none)=true)from Fm)];refine (?_:wpAny _ _ (field (.ref b) 1>>=_) _ _ s);refine Af (wpAny_field a rfl (x:=.int i 0) rfl ?_);refine (?_:wpAny _ _ (seqItems? (.ref l)>>=_) _ _ s);refine Af (C1 g rfl ?_);have m:(⟨c⟩:Array Value)[i]? =some v:=by simpa using h
 simp only[J7,m];exact Af (wpAny_setField a rfl (by (first|((repeat(first|exact .head _|apply List.mem_cons_of_mem));done)|simp)) (Aq (j _ d)))
theorem uV:LT= .type "StopIteration":=by
 refine (?_:Value.type s5991306692159431302x13=_);rw[←e5991306692159431302x13]
noncomputable def Mt(b l i:Nat)(e:List Value)(n:Nat):Ak:=
 {d:=900,u:=9000,h:=none,c:=.call (.builtin Op) ⟨[.ref b],[]⟩,idx:=[],pre:=(Gn b l i e n),na:=2,nt:=0,r:=λa _=>.error (.ref (a.getD 1 0)),
  outs:=λ_ _ _=>[fi Bo [.none,.int i 0],li e n],news:=λa _ _=>[tu [] 0,fi LT [.ref (a.getD 0 0),.none,.none,.none,.bool false,.none]]}
theorem IQ{w:Aa}{b l i n:Nat}{d:List Value}(t:d[i]? =none):Av w (Mt b l i d n):=by
 refine GR λA s E F u S R v=> ?_;have c:=S.mem (b,liO l i) (by simp[Mt]);have j:=S.mem (l,li d n) (by simp[Mt]);have g:=S.set (i:=0) rfl (f:=Obj.mapFields (·.setIfInBounds 0 .none)) (p:=(b,liO l i)) rfl;have e:Obj.mapFields (·.setIfInBounds 0 .none) (liO l i)=fi Bo [.none,.int i 0]:=by
  simp[Obj.mapFields]
 dsimp only at c g;rw[e]at g;have h:=g.sat.push (o:=tu [] 0) rfl;have k:=h.sat.push (o:=fi LT [.ref (s.heap.update b (Obj.mapFields (·.setIfInBounds 0 .none))).objs.size,.none,.none,.none,.bool false,.none]) rfl;have r:=(g.trans h).trans k;have y:(liO l i:Obj)={cls:=.type "list_iterator",data:=.fields #[.ref l,.int i 0]}:=by
  refine (?_:Obj.mk Bo none _ _=_);rw[QQ]
 rw[y]at c;rw[BW]at j;refine (?_:codeAny _ _ (.call (.builtin Op) ⟨[.ref b],[]⟩) _ s);rw[T8];refine DT slot_listiter_next.plain entry_listiter_next (slot_listiter_next.check _ _ _ _ _ _ _ _ ⟨_,c,rfl⟩ (args_listiter_next _) ?_);refine (?_:wpAny _ _ (field (.ref b) 0>>=_) _ _ s);refine Af (wpAny_field c rfl (x:=.ref l) rfl ?_);refine (?_:wpAny _ _ (if(Value.ref l==Value.none)=true then _ else _) _ _ s);rw[AH (show¬((Value.ref l==Value.none)=true)from Fm)];refine (?_:wpAny _ _ (field (.ref b) 1>>=_) _ _ s);refine Af (wpAny_field c rfl (x:=.int i 0) rfl ?_);refine (?_:wpAny _ _ (seqItems? (.ref l)>>=_) _ _ s);refine Af (C1 j rfl ?_);have B:(⟨d⟩:Array Value)[i]? =none:=by simpa using t
 simp only[J7,B];refine Af (FH (Af (wpAny_setField c rfl (by (first|((repeat(first|exact .head _|apply List.mem_cons_of_mem));done)|simp)) ?_)));refine (?_:wpAny _ _ (newExc (.type "StopIteration") []>>=_) _ _ _);refine Af ?_;simp only[newExc,newTuple];refine Af (wpAny_newObj_type ?_ (by size_fits));refine Af (m:=firstArgMember _ _) (GH (a:=Value.none) (by first|rfl|(simp only[firstArgMember];rfl)) ?_);refine wpAny_newObj_type ?_ (by size_fits);simp only[raiseNew];refine Af (wpAny_handled ?_);rw[show A.in1.handled=none from u];refine Af (Aq (wpAny_throw ?_));have C:(tu [] 0:Obj)={cls:=.type "tuple",data:=.seq ([]:List Value).toArray}:=JI [] 0;have D: ∀a,(fi LT [.ref a,.none,.none,.none,.bool false,.none]:Obj)={cls:=.type "StopIteration",data:=.fields #[.ref a,.none,.none,.none,.bool false,.none]}:=λa=>by
  refine (?_:Obj.mk LT none _ _=_);rw[uV]
 have z:=v _ [(s.heap.update b (Obj.mapFields (·.setIfInBounds 0 .none))).objs.size,((s.heap.update b (Obj.mapFields (·.setIfInBounds 0 .none))).push (tu [] 0)).objs.size] [] [] rfl rfl rfl r (A7 _);dsimp only at z⊢;rw[D,C]at z;exact z

section
noncomputable def KasT.good{b:Type}(n:Nat)(r:Nat→Nat):PySem.W.KasT b→(b→Prop)→Prop
 | .ret a,Q=>Q a
 | .ask i j k,Q=>i<n∧j<n∧i≠j∧KasT.good n r (k (decide (r i<r j))) Q
theorem KasT.good_bind{b c:Type}{n:Nat}{r:Nat→Nat}{f:b→PySem.W.KasT c}{Q:c→Prop}: ∀t:PySem.W.KasT b,KasT.good n r t (λa=>KasT.good n r (f a) Q)→KasT.good n r (t.bind f) Q
 | .ret _,h=>h
 | .ask i j k,h=>⟨h.1,h.2.1,h.2.2.1,KasT.good_bind _ h.2.2.2⟩
theorem KasT.wp_of_good{d:Type}{c:Nat→Nat→(Bool→Ab→Prop)→Ab→Prop}{n:Nat}{r:Nat→Nat}(I:Ab→Prop)(g: ∀i j (C:Bool→Ab→Prop) s,i<n→j<n→i≠j→I s→(∀b,I b→C (decide (r i<r j)) b)→c i j C s){G:d→Prop}{Q:d→Ab→Prop}(l: ∀a b,G a→I b→Q a b):
  ∀(t:PySem.W.KasT d) (s:Ab),KasT.good n r t G→I s→t.kasWp c Q s
 | .ret a,s,h,e=>l a s h e
 | .ask i j k,s,h,e=>g i j _ s h.1 h.2.1 h.2.2.1 e λb m=>KasT.wp_of_good I g l (k (decide (r i<r j))) b h.2.2.2 m
noncomputable def PA(n:Nat)(p:Array Nat):Prop:=p.toList.Perm (List.range n)
theorem PA.size{n:Nat}{p:Array Nat}(h:PA n p):p.size=n:=by
 have:=h.length_eq;simpa using this
theorem gD{p:Array Nat}{i:Nat}(h:i<p.size):p.getD i 0=p[i]:=by simp[Array.getD,h]
theorem PA.lt{n:Nat}{p:Array Nat}(h:PA n p){i:Nat}(a:i<n):p.getD i 0<n:=by
 have b:i<p.size:=by rw[h.size];exact a
 rw[gD b];have:p[i]∈p.toList:=by (first|((repeat(first|exact .head _|apply List.mem_cons_of_mem));done)|simp)
 simpa using h.mem_iff.mp this
theorem PA.inj{n:Nat}{p:Array Nat}(h:PA n p){i j:Nat}(c:i<n)(d:j<n)(e:p.getD i 0=p.getD j 0):i=j:=by
 have g:p.toList.Nodup:=h.nodup_iff.mpr J8;have a:i<p.size:=by rw[h.size];exact c
 have b:j<p.size:=by rw[h.size];exact d
 rw[gD a,gD b]at e;exact(Ls (h₀:=by simpa using a) (h₁:=by simpa using b) g).mp (by simpa using e)
section
variable {n:Nat}{r:Nat→Nat}(hr: ∀i j,i<n→j<n→r i=r j→i=j)
noncomputable abbrev rk(r:Nat→Nat)(p:Array Nat)(i:Nat):Nat:=r (p.getD i 0)
noncomputable def Up(r:Nat→Nat)(p:Array Nat)(m:Nat):Prop:= ∀i j,i<j→j<m→rk r p i<rk r p j
noncomputable def Dn(r:Nat→Nat)(p:Array Nat)(m:Nat):Prop:= ∀i j,i<j→j<m→rk r p j<rk r p i
theorem Mu{p q:Array Nat}{i j:Nat}(h:p[i]? =q[j]?):p.getD i 0=q.getD j 0:=by
 rw[Array.getD_eq_getD_getElem?,Array.getD_eq_getD_getElem?,h]
theorem UZ{p:Array Nat}{a d:Nat}(g:a<p.size)(h:d≤a)(k:Nat):
  rk r (bubble p a d) k=if k=a-d then rk r p a else if a-d<k∧k≤a then rk r p (k-1)else rk r p k:=by
 have e:=getElem?_bubble g d h k;unfold rk
 by_cases b:k=a-d
 ·rw[AS b]at e⊢;rw[Mu e]
 ·rw[AH b]at e⊢
  by_cases c:a-d<k∧k≤a
  ·rw[AS c]at e⊢;rw[Mu e]
  ·rw[AH c]at e⊢;rw[Mu e]
theorem U0{p:Array Nat}{j:Nat}(b:j≤p.size)(k:Nat):rk r (kas_rev p 0 j) k=if k<j then rk r p (j-1-k)else rk r p k:=by
 have e:=getElem?_mirror_all (xs:=p) (i:=0) b k;unfold rk kas_rev
 by_cases a:k<j
 ·rw[AS ⟨B7 _,a⟩,Ga]at e
  rw[AS a,Mu e]
 ·rw[AH (λh=>a h.2)]at e
  rw[AH a,Mu e]
include hr
theorem QR{p:Array Nat}(h:PA n p){i j:Nat}(a:i<n)(b:j<n)(e:i≠j):rk r p i≠rk r p j:=λq=>
 e (h.inj a b (hr _ _ (h.lt a) (h.lt b) q))
theorem QT{p:Array Nat}(h:PA n p): ∀(f m:Nat) (Q:Nat→Prop),1≤m→m+f=n→Up r p m→(∀d,m≤d→d≤n→Up r p d→(d=n∨rk r p d<rk r p (d-1))→Q d)→KasT.good n r (kas_asc p f m) Q
 |0,m,Q,v,g,k,t=>t m (A7 _) (Jp g) k (.inl g)
 |f+1,m,Q,v,g,k,t=>by
  obtain⟨q,rfl⟩:=Lg v;have o:q+1<n:=g▸Lh (Gb f);have u:=Nat.lt_of_succ_lt o;refine⟨h.lt o,h.lt u,λe=>absurd (h.inj o u e) (NK q),?_⟩
  by_cases c:rk r p (q+1)<rk r p q
  ·rw[show decide (r (p.getD (q+1) 0)<r (p.getD (q+1-1) 0))=true from C3 c]
   exact t (q+1) (A7 _) (Bw o) k (.inr c)
  ·rw[show decide (r (p.getD (q+1) 0)<r (p.getD (q+1-1) 0))=false from BQ c]
   have l:rk r p q<rk r p (q+1):=Io (FG c) (QR hr h u o (CN (Hm q)));refine QT h f (q+1+1) Q (Nat.le_add_left 1 _) ((Lo _ 1 f).trans g) (λi j s w=> ?_) λd a b=>t d (Nat.le_of_succ_le a) b;rcases Jg (Eg w)with e|e
   ·exact k i j s e
   ·rw[e]at s⊢
    rcases Jg (Eg s)with e|e
    ·exact Dz (k i q e (Hm q)) l
    ·rw[e];exact l
theorem U1{p:Array Nat}(h:PA n p): ∀(f m:Nat) (Q:Array Nat×Nat×Nat→Prop),1≤m→m+f=n→Dn r p m→(∀g,m≤g→g≤n→Dn r p g→Q (p,g,0))→KasT.good n r (kas_desc f p m 0) Q
 |0,m,Q,v,t,k,u=>u m (A7 _) (Jp t) k
 |f+1,m,Q,v,t,k,u=>by
  obtain⟨q,rfl⟩:=Lg v;have d:q+1<n:=t▸Lh (Gb f);have o:=Nat.lt_of_succ_lt d;refine⟨h.lt d,h.lt o,λe=>absurd (h.inj d o e) (NK q),?_⟩
  by_cases c:rk r p (q+1)<rk r p q
  ·rw[show decide (r (p.getD (q+1) 0)<r (p.getD (q+1-1) 0))=true from C3 c]
   refine U1 h f (q+1+1) Q (Nat.le_add_left 1 _) ((Lo _ 1 f).trans t) (λi j s y=> ?_) λg a b=>u g (Nat.le_of_succ_le a) b;rcases Jg (Eg y)with e|e
   ·exact k i j s e
   ·rw[e]at s⊢
    rcases Jg (Eg s)with e|e
    ·exact Dz c (k i q e (Hm q))
    ·rw[e];exact c
  ·rw[show decide (r (p.getD (q+1) 0)<r (p.getD (q+1-1) 0))=false from BQ c]
   have w:=CN (Hm q);have l:rk r p q<rk r p (q+1):=Io (FG c) (QR hr h o d w);refine⟨h.lt o,h.lt d,λe=>absurd (h.inj o d e) w,?_⟩;rw[show decide (r (p.getD (q+1-1) 0)<r (p.getD (q+1) 0))=true from C3 l];exact u (q+1) (A7 _) (Bw d) k
theorem PA.rev{p:Array Nat}(h:PA n p)(j:Nat):PA n (kas_rev p 0 j):=
 (Array.perm_iff_toList_perm.mp (mirror_perm p 0 j _)).trans h
theorem PA.bub{p:Array Nat}(h:PA n p)(k d:Nat):PA n (bubble p k d):=
 (Array.perm_iff_toList_perm.mp (bubble_perm p k d)).trans h
theorem uW(d:1≤n){Q:Nat×Array Nat→Prop}{p:Array Nat}(h:PA n p)(k: ∀m l,PA n l→1≤m→m≤n→Up r l m→Q (m,l)):KasT.good n r (kas_count n p) Q:=by
 refine KasT.good_bind _ (QT hr h (n-1) 1 _ (A7 _) (NG d) (λi j a b=>absurd (DV a (Eg b)) (Ka i)) λm a b o A=> ?_)
 by_cases e:m=n
 ·rw[AS (by simpa using e)]
  exact k m p h a b o
 ·rw[AH (by simpa using e)]
  have B:=A.resolve_left e
  by_cases g:m> 1
  ·rw[AS g]
   obtain⟨q,rfl⟩:=Lg a;have s:=Lj g;refine⟨h.lt d,h.lt b,λe=>absurd (h.inj d b e) (CN s),?_⟩;rw[show decide (r (p.getD 0 0)<r (p.getD (q+1-1) 0))=true from C3 (o 0 q s (Hm q))];exact k _ p h a b o
  ·obtain rfl:m=1:=Jn (FG g) a
   rw[AH g];refine KasT.good_bind _ (U1 hr h (n-(1+1)) (1+1) _ (by decide) (NG (Io d e)) (λi j x y=> ?_) λc x y C=> ?_)
   ·obtain rfl:j=1:=Jn (Eg y) (CM (B7 i) x)
    obtain rfl:i=0:=Jn (Eg x) (B7 i);exact B
   ·rw[AH (by (first|((repeat(first|exact .head _|apply List.mem_cons_of_mem));done)|simp))]
    have x:=Nat.le_of_succ_le x;refine KasT.good_bind _ (QT hr (PA.rev hr h c) (n-c) c _ x (NG y) (λi j u v=> ?_) λt u v w _=>k t _ (PA.rev hr h c) (Ay x u) v w);have z:c≤p.size:=by rw[h.size];exact y
    rw[U0 z,U0 z,AS (Dz u v),AS v];exact C _ _ (Jf (DV u (Nat.le_pred_of_lt v)) u) (CM (Nat.sub_le _ _) (Nat.sub_lt x Nat.one_pos))
theorem QU{p:Array Nat}(h:PA n p){k:Nat}(d:k<n)(s:Up r p k): ∀(f l u:Nat) (Q:Nat→Prop),l≤u→u≤k→u≤l+f→(∀i,i<l→rk r p i<rk r p k)→(∀i,u≤i→i<k→rk r p k<rk r p i)→
  (∀l,l≤k→(∀i,i<l→rk r p i<rk r p k)→(∀i,l≤i→i<k→rk r p k<rk r p i)→Q l)→KasT.good n r (kas_place p k f l u) Q
 |0,l,u,Q,w,g,y,t,v,o=>by
  obtain rfl:l=u:=Jn w y;exact o l g t v
 |f+1,l,u,Q,w,g,y,t,v,o=>by
  unfold kas_place
  by_cases e:l≥u
  ·rw[AS e]
   obtain rfl:l=u:=Jn w e;exact o l g t v
  ·rw[AH e]
   obtain⟨m,C,D,z⟩: ∃m,(l+u)/2=m∧l≤m∧m<u:=⟨_,rfl,by (first|lia|omega),by (first|lia|omega)⟩
   simp only[C];have mk:=DV z g;have A:=Dz mk d;refine⟨h.lt d,h.lt A,λe=>absurd (h.inj d A e) (EY mk),?_⟩
   by_cases c:rk r p k<rk r p m
   ·rw[show decide (r (p.getD k 0)<r (p.getD m 0))=true from C3 c]
    refine QU h d s f l m Q D (Bw mk) (Eg (DV z y)) t (λi a b=> ?_) o;rcases Nat.eq_or_lt_of_le a with e|e
    ·rw[←e];exact c
    ·exact Dz c (s _ _ e b)
   ·rw[show decide (r (p.getD k 0)<r (p.getD m 0))=false from BQ c]
    have B:rk r p m<rk r p k:=Io (FG c) (QR hr h (i:=m) (j:=k) A d (CN mk));refine QU h d s f (m+1) u Q z g (by (first|lia|omega)) (λi a=> ?_) v o;rcases Jg (Eg a)with e|e
    ·exact Dz (s i _ e mk) B
    ·rw[e];exact B
theorem U2{Q:Array Nat→Prop}(v: ∀p,PA n p→Up r p n→Q p): ∀(f:Nat) (p:Array Nat) (k:Nat),PA n p→k+f=n→Up r p k→KasT.good n r (kas_bin f p k) Q
 |0,p,k,h,o,d=>v p h (show Up r p n from(show k=n from o)▸d)
 |f+1,p,k,h,o,d=>by
  have w:k<n:=o▸Lh (Gb f);refine KasT.good_bind _ (QU hr h w d k 0 k _ (B7 k) (A7 k) (Jp (Ga k).symm) (λi a=>absurd a (Ka i)) (λi a b=>absurd b (Jl a)) λl y B C=> ?_);refine U2 v f _ (k+1) (PA.bub hr h _ _) ((Lo k 1 f).trans o) λi j a b=> ?_;have z:k<p.size:=by rw[h.size];exact w
  have A:=Nat.sub_le k l;rw[UZ z A,UZ z A,Nat.sub_sub_self y];obtain⟨q,rfl⟩:=Lg (CM (B7 i) a);have c:=Eg b
  by_cases g:i=l
  ·rw[AS g,AH (λe=>EY a (e.trans g.symm)),AS ⟨g▸a,c⟩]
   exact C q (g▸Eg a) c
  ·rw[AH g]
   by_cases m:l<i∧i≤k
   ·rw[AS m,AH (EY (Dz m.1 a)),AS ⟨Dz m.1 a,c⟩]
    exact d _ q (DV (Nat.sub_lt (CM (B7 l) m.1) Nat.one_pos) (Eg a)) c
   ·rw[AH m]
    have t:i<l:=Io (FG λx=>m ⟨x,Ay (Bw a) c⟩) g
    by_cases u:q+1=l
    ·rw[AS u]
     exact B i t
    ·rw[AH u]
     by_cases s:l<q+1∧q+1≤k
     ·rw[AS s]
      exact d i q (DV t (Eg s.1)) c
     ·rw[AH s]
      exact d i _ a (DV (Io (FG λx=>s ⟨x,c⟩) u) y)
theorem uX(k:1≤n){Q:Array Nat→Prop}(d: ∀p,PA n p→Up r p n→Q p):KasT.good n r (kas_sort n) Q:=by
 refine KasT.good_bind _ (uW hr k (by simp[PA]) λm c g a b h=> ?_);refine (?_:KasT.good n r (if m<n then kas_bin (n-max m 1) c (max m 1)else .ret c) Q)
 by_cases e:m<n
 ·rw[AS e]
  rw[show max m 1=m by (first|lia|omega)];exact U2 hr d (n-m) c m g (by (first|lia|omega)) h
 ·rw[AH e]
  obtain rfl:m=n:=by (first|lia|omega)
  exact d c g h
end
end
noncomputable abbrev EQ(a:Addr)(b:Bool):Sem AA:=Builtin.«list.sort» ⟨[.ref a],[(Str.ofString "reverse",.bool b)]⟩
theorem uY(a:Addr):Builtin.«list.sort» ⟨[.ref a],[]⟩=EQ a false:=by
 rw[list_sort_plain,EQ,list_sort_rev];rfl
theorem U3(a:Addr)(b:Bool):Builtin.«list.sort» ⟨[.ref a],[(Str.ofString "key",.none),(Str.ofString "reverse",.bool b)]⟩=EQ a b:=by
 rw[EQ,list_sort_rev];rfl
theorem OS{w:Aa}{A:Al}{E:Value→Ab→Prop}{a n:Nat}{c:List Value}{b:Bool}{F:Ae}{κ:SortKind}{r:Nat→Nat}(h2:2≤c.length)(ae:c.length<64)
  (hr: ∀i j,i<c.length→j<c.length→r i=r j→i=j)
  (hk: ∀(s:Ab) (Q:SortKind→Ab→Prop),An (kt w) s ((a,li [] (n+1))::F)→Q κ s→wpAny (model pw w) A (keyKind' c.toArray) Q E s)
  (hc: ∀(i j:Nat) (s:Ab) (C:Bool→Ab→Prop),i<c.length→j<c.length→i≠j→An (kt w) s ((a,li [] (n+1))::F)→(∀d,Ag (kt w) s d ((a,li [] (n+1))::F) ((a,li [] (n+1))::F)→C (decide (r i<r j)) d)→
   wpAny (model pw w) A (keyLt' κ ((katRev b c).getD i .none) ((katRev b c).getD j .none)) C (λ_ _=>False) s)
  {s:Ab} (S:An (kt w) s ((a,li c n)::F)) {P:AA→Ab→Prop}
  (h: ∀(d:Ab) (p:Array Nat),PA c.length p→Up r p c.length→Ag (kt w) s d ((a,li c n)::F) ((a,li (katRev b (p.toList.map λi=>(katRev b c).getD i .none)) (n+2))::F)→P (.done (.ret .none)) d):
  wpAny (model pw w) A (EQ a b) P E s:=by
 have O:=S.mem (a,li c n) (by (first|((repeat(first|exact .head _|apply List.mem_cons_of_mem));done)|simp));have z:=S.set (i:=0) rfl (f:=Obj.mapSeq λ_=>(#[]:Array Value)) (p:=(a,li c n)) rfl;have e1:Obj.mapSeq (λ_=>(#[]:Array Value)) (li c n)=li [] (n+1):=by
  unfold Obj.mapSeq;dsimp only;have:((#[]:Array Value).size==(⟨c⟩:Array Value).size)=false:=by
   show((0:Nat)==c.length)=false;exact beq_eq_false_iff_ne.mpr (by (first|lia|omega))
  rw[this];rfl
 dsimp only at O z;rw[e1]at z;have U:=z.sat.mem (a,li [] (n+1)) (by simp[Ew]);rw[BW]at O U;rw[EQ,list_sort_rev];refine Af (listItems_at O rfl ?_);refine Af (listUpdate_at O rfl ?_ (by refine (?_:c.length≤_);rw[sizeLine_eq];(first|lia|omega)) (B7 _));refine Af (seqEpoch_at U rfl ?_);refine Af (wpAny_newTuple ?_ (by refine (?_:c.length≤_);rw[sizeLine_eq];(first|lia|omega)));refine Af (wpAny_newList ?_ (B7 _));refine Di ?_;have V: ∀{s1:Ab} {B:Ae} {o:Obj},o.isFreed=false→An (kt w) s1 B→Ag (kt w) s1 {s1 with heap:=s1.heap.push o} B B:=λ {s1 B o} hf S1=>by
  have x:=S1.push (o:=o) hf;have x':=x.pick (is:=List.range B.length) (L'':=B) ?_ ?_
  ·exact x'
  ·have key: ∀(L:Ae) (M:Ae) (k:Nat),(∀i,DJ M (k+i)=DJ (L++[(s1.heap.objs.size,o)]) i)→pick M (List.range' k L.length)=some L:=by
    intro L
    induction L with
    |nil=>intro M k _;rfl
    |cons p l ih=>
     intro M k hM;rw[Ir,NM];unfold pick;have h0:=hM 0;rw[Lz]at h0;rw[h0,ih M (k+1) (λi=>by have:=hM (i+1);rw[show k+(i+1)=k+1+i by (first|lia|omega)]at this;exact this)];rfl
   rw[Hk];exact key B _ 0 λi=>by rw[Ga]
  ·have key: ∀(m k:Nat),BR (List.range' k m)=true:=by
    intro m
    induction m with
    |zero=>intro k;rfl
    |succ m ih=>
     intro k;rw[NM];unfold BR;have:(List.range' (k+1) m).all (λj=> !Nat.beq k j)=true:=by
      rw[List.all_eq_true];intro j hj;have:=(List.mem_range'_1.mp hj).1;have:Nat.beq k j=false:=by
       rw[←Bool.not_eq_true,Nat.beq_eq];(first|lia|omega)
      rw[this];rfl
     rw[this];exact ih (k+1)
   rw[Hk];exact key _ _
 have W:=z.trans (V (o:={cls:=.type "tuple",data:=.seq (⟨c⟩:Array Value).toList.toArray}) rfl z.sat);have X:=W.trans (V (o:={cls:=.type "list",data:=.seq ([]:List Value).toArray}) rfl W.sat);generalize am:({heap:=((s.heap.update a (Obj.mapSeq λ_=>(#[]:Array Value))).push {cls:=.type "tuple",data:=.seq (⟨c⟩:Array Value).toList.toArray}).push {cls:=.type "list",data:=.seq ([]:List Value).toArray},gens:=s.gens,drawn:=s.drawn,toks:=s.toks,os:=s.os}:Ab)=R at X;have D:Ag (kt w) s R ((a,li c n)::F) ((a,li [] (n+1))::F):=X;refine(?_ :wpAny (model pw w) A _ P E R);have Y: ¬(⟨c⟩:Array Value).size<2:=by show¬c.length<2;(first|lia|omega)
 rw[AH Y,AH Y];have Z:=hk R;have kl:=kat_len b c;have fin: ∀(g:SortSt) (d:Ab) (p:Array Nat),PA c.length p→Up r p c.length→arrOf g=p.map (kas_item ((katRev b c).toArray.zip (katRev b c).toArray))→Ag (kt w) s d ((a,li c n)::F) ((a,li [] (n+1))::F)→failedOf g=none→
   wpAny (model pw w) A (do
    let K:=(←seqEpoch a) != (n+1)
    Builtin.List.listUpdate (.ref a) λ_=>if b then((arrOf g).map (·.2)).reverse else(arrOf g).map (·.2)
    if let some e:=failedOf g then rule "list.sort.comparison-raised";throw e
    if K then rule "list.sort.modified";raiseError "ValueError" "list modified during sort"
    ret .none) P E d:=by
  intro g d p hp hu ai st hf;have I:=st.sat.mem (a,li [] (n+1)) (by (first|((repeat(first|exact .head _|apply List.mem_cons_of_mem));done)|simp));have ac:(p.toList.map λi=>(katRev b c).getD i .none).length=c.length:=by rw[BY,Lm,hp.size]
  rw[kat_snds rfl ai,kat_outs];have hz:(katRev b (p.toList.map λi=>(katRev b c).getD i Value.none)).length=c.length:=by rw[kat_len,ac]
  generalize ad:katRev b (p.toList.map λi=>(katRev b c).getD i Value.none)=J at hz;have N:=st.sat.set (i:=0) rfl (f:=Obj.mapSeq λ_=>List.toArray J) (p:=(a,li [] (n+1))) rfl;have eU:Obj.mapSeq (λ_=>List.toArray J) (li [] (n+1))=li J (n+2):=by
   unfold Obj.mapSeq;dsimp only;have:((List.toArray J).size==(⟨[]⟩:Array Value).size)=false:=by
    rw[List.size_toArray,hz];exact beq_eq_false_iff_ne.mpr (by refine (?_:c.length≠0);(first|lia|omega))
   rw[this];rfl
  dsimp only at N I;rw[eU]at N;rw[BW]at I;refine Af (seqEpoch_at I rfl ?_);refine Af (listUpdate_at I rfl ?_ (B7 _) (by rw[List.size_toArray,hz,sizeLine_eq];(first|lia|omega)));rw[hf];simp only[bne_self_eq_false,CZ,if_false];exact Aq (h _ p hp hu (by rw[ad];exact st.trans N))
 have aa: ∀(Q:SortSt→Ab→Prop),(∀g d p,PA c.length p→Up r p c.length→arrOf g=p.map (kas_item ((katRev b c).toArray.zip (katRev b c).toArray))→Ag (kt w) s d ((a,li c n)::F) ((a,li [] (n+1))::F)→failedOf g=none→Q g d)→
   wpAny (model pw w) A ((sortRuns').run (SortSt.mk' κ ((katRev b c).toArray.zip (katRev b c).toArray) #[] 7 none)) (λr d=>Q r.2 d) E R:=by
  intro Q hQ;refine kat_run (G:=λp d=>(PA c.length p∧Up r p c.length)∧Ag (kt w) s d ((a,li c n)::F) ((a,li [] (n+1))::F)) rfl (by rw[kl];exact h2) (by rw[kl];exact ae) (λp g d v t y u=>hQ g d p u.1.1 u.1.2 t u.2 y) ?_;rw[kl];refine KasT.wp_of_good (n:=c.length) (r:=r) (λd=>Ag (kt w) s d ((a,li c n)::F) ((a,li [] (n+1))::F)) (λi j C d hi hj aj T hC=> ?_) (λp d hg T=>⟨hg,T⟩) _ _ (uX hr (by (first|lia|omega)) λp v t=>⟨v,t⟩) D;exact hc i j d C hi hj aj T.sat λak al=>hC ak (T.trans al)
 cases b with
 |true=>
  simp only[if_true];refine Af (FH ?_);refine Af (Z _ D.sat ?_);have ez:((⟨c⟩:Array Value).zip ⟨c⟩).reverse=(katRev true c).toArray.zip (katRev true c).toArray:=kat_pairs (ks:=c) (vs:=c) true rfl;rw[ez];exact Af (CA (aa (λg d=> ∃p,PA c.length p∧Up r p c.length∧arrOf g=p.map (kas_item ((katRev true c).toArray.zip (katRev true c).toArray))∧Ag (kt w) s d ((a,li c n)::F) ((a,li [] (n+1))::F)∧failedOf g=none) λg d p v t y u H=>⟨p,v,t,y,u,H⟩) (by rintro q d ⟨p,v,t,y,u,H⟩;exact fin q.2 d p v t y u H) λ_ _ e=>e)
 |false=>
  simp only[CZ,if_false];refine Af (Z _ D.sat ?_);exact Af (CA (aa (λg d=> ∃p,PA c.length p∧Up r p c.length∧arrOf g=p.map (kas_item ((katRev false c).toArray.zip (katRev false c).toArray))∧Ag (kt w) s d ((a,li c n)::F) ((a,li [] (n+1))::F)∧failedOf g=none) λg d p v t y u H=>⟨p,v,t,y,u,H⟩) (by rintro q d ⟨p,v,t,y,u,H⟩;exact fin q.2 d p v t y u H) λ_ _ e=>e)
noncomputable def CE(c:CmpOp)(A:Al)(s:Ab)(y x:Value)(b:Bool):Prop:=
 ∀(a:Program) (w:Aa) (E:Value→Ab→Prop) (Q:Value→Ab→Prop),Q (.bool b) s→wpAny (model a w) A (richCompare c y x) Q E s
theorem CE.int_lt(A:Al)(s:Ab)(a b:Int)(t u:Nat):CE .Lt A s (.int a t) (.int b u) (decide (a<b)):=λ_ _ _ _ h=>P.lt_int h
theorem CE.str_lt(A:Al)(s:Ab)(a b:Str)(t u:Nat):CE .Lt A s (.str a t) (.str b u) (decide (a.cps.toList<b.cps.toList)):=λ_ _ _ _ h=>P.lt_str h
theorem CE.str_gt(A:Al)(s:Ab)(a b:Str)(t u:Nat):CE .Gt A s (.str a t) (.str b u) (decide (b.cps.toList<a.cps.toList)):=λ_ _ _ _ h=>P.gt_str h
theorem CE.float_lt(A:Al)(s:Ab)(a b:UInt64)(t u:Nat):CE .Lt A s (.float a t) (.float b u) (Float64.cmp a b==some Ordering.lt):=λ_ _ _ _ h=>AutoFloatOps.lt_0 h
theorem CE.float_gt(A:Al)(s:Ab)(a b:UInt64)(t u:Nat):CE .Gt A s (.float a t) (.float b u) (Float64.cmp a b==some Ordering.gt):=λ_ _ _ _ h=>AutoFloatOps.gt_0 h
inductive G1 (op:CmpOp) (A:Al) (s:Ab):List Value→List Value→Bool→Prop
 |diff {x y:Value} {xs ys:List Value} {b:Bool}:EqAt A s x y false→CE op A s x y b→G1 op A s (x::xs) (y::ys) b
 |same {x y:Value} {xs ys:List Value} {b:Bool}:EqAt A s x y true→G1 op A s xs ys b→G1 op A s (x::xs) (y::ys) b
noncomputable abbrev DE:Value:=(.bool false)
noncomputable def OT(c:CmpOp)(d:String)(x y:Value):Sem AA:=do
 let(a,[b]) ←slotArgs d 1 ⟨[x,y],[]⟩|unsupported "internal:tuple.compare"
 if !(←isInstance b (.type "tuple"))then return←ret .notImplemented
 let e←Builtin.Tuple.tupleItemsOf a;let g←Builtin.Tuple.tupleItemsOf b
 for (x,y)in e.toList.zip g.toList do
  if !(←eqBool x y)then
   match c with
   | .Eq=>return←ret DE
   | .NotEq=>return←ret IK
   |_=>rule "tuple.compare.by-the-first-pair-that-differs";return←ret (←richCompare c x y)
 ret (Builtin.Tuple.tupleCompareSizes c e.size g.size)
theorem U4(x y:Value):Builtin.«tuple.__lt__» ⟨[x,y],[]⟩=OT .Lt "__lt__" x y:=rfl
theorem uZ(x y:Value):Builtin.«tuple.__gt__» ⟨[x,y],[]⟩=OT .Gt "__gt__" x y:=rfl
theorem U5{M:Model}{A:Al}{E:Value→Ab→Prop}{s:Ab}{x:Addr}{o:Obj}{a:List Value}{n:Nat}{Q:Array Value→Ab→Prop}(b:s.heap.get? x=some o)(c:o.data= .seq ⟨a⟩ n)(h:Q ⟨a⟩ s):wpAny M A (Builtin.Tuple.tupleItemsOf (.ref x)) Q E s:=by
 unfold Builtin.Tuple.tupleItemsOf;exact Af (C1 b c (Aq h))
theorem QV{a:Program}{w:Aa}{A:Al}{E:Value→Ab→Prop}{s:Ab}{c:CmpOp}{d:String}(j:c= .Lt∨c= .Gt){x y:Addr}{l o:Obj}{e g:List Value}{n k:Nat}{b:Bool}{P:AA→Ab→Prop}
  (t:s.heap.get? x=some l) (z:l.data= .seq ⟨e⟩ n) (B:s.heap.get? y=some o) (C:o.data= .seq ⟨g⟩ k)
  (D: ∀Q:Bool→Ab→Prop,Q true s→wpAny (model a w) A (isInstance (.ref y) (.type "tuple")) Q E s)
  (F:G1 c A s e g b) (h:P (.done (.ret (.bool b))) s):wpAny (model a w) A (OT c d (.ref x) (.ref y)) P E s:=by
 unfold OT;refine Af (m:=slotArgs d 1 ⟨[.ref x,.ref y],[]⟩) (Aq ?_);dsimp only;refine Af (D _ ?_);simp only[Lx,CZ,if_false];refine Af (U5 t z (Af (U5 B C ?_)));dsimp only;have key: ∀(f:Value×Value→Option AA×PUnit→Sem (ForInStep (Option AA×PUnit))) (K:Option AA×PUnit→Sem AA),(∀v u,P v s→wpAny (model a w) A (K (some v,u)) P E s)→
   (∀p q r,f (p,q) r=(do
    if !(←eqBool p q)then
     rule "tuple.compare.by-the-first-pair-that-differs"
     let v←ret (←richCompare c p q)
     pure (ForInStep.done (some v,()))
    else pure (ForInStep.yield (none,()))))→wpAny (model a w) A (forIn (e.zip g) ((none,⟨⟩):Option AA×PUnit) f>>=K) P E s:=by
  intro f K J G;refine Af ?_;clear t z B C D
  induction F with
  | @diff L M H I N i O=>
   rw[List.zip_cons_cons,List.forIn_cons,G];refine Af (Af (i a w _ _ ?_));simp only[Bool.not_false,if_true];refine Af (FH (Af (O a w _ _ (Af (Aq (Aq ?_))))));exact Aq (J _ _ h)
  | @same L M H I N i F R=>
   rw[List.zip_cons_cons,List.forIn_cons,G];refine Af (Af (i a w _ _ ?_));simp only[Lx,CZ,if_false];exact Aq (R h)
 rcases j with rfl|rfl
 ·exact key _ _ (λv u h=>Aq h) (λp q r=>rfl)
 ·exact key _ _ (λv u h=>Aq h) (λp q r=>rfl)
theorem aA{j:Type}(f:j→Nat): ∀{l m:List j},l.Perm m→l.Pairwise (λa b=>f a<f b)→m.Pairwise (λa b=>f a<f b)→l=m:=by
 intro l
 induction l with
 |nil=>intro m h _ _;exact(List.nil_perm.mp h).symm
 |cons x l k=>
  intro m h c d;cases m with
  |nil=>exact absurd h.length_eq (by (first|((repeat(first|exact .head _|apply List.mem_cons_of_mem));done)|simp))
  |cons y m=>
   rw[List.pairwise_cons]at c d;have e:x=y:=by
    have g:x∈y::m:=h.mem_iff.mp Bj;have i:y∈x::l:=h.mem_iff.mpr Bj;rcases List.mem_cons.mp g with e|g
    ·exact e
    ·rcases List.mem_cons.mp i with e|i
     ·exact e.symm
     ·have a:=c.1 y i
      have b:=d.1 x g;(first|lia|omega)
   subst e;rw[k (List.Perm.cons_inv h) c.2 d.2]
theorem aB{a:Type}{d:a}{n:Nat}{B:List a}(c:B.length=n){p:Array Nat}(h:PA n p):(p.toList.map λi=>B.getD i d).Perm B:=by
 have e:(List.range n).map (λi=>B.getD i d)=B:=by
  subst c;apply Hn
  ·(first|((repeat(first|exact .head _|apply List.mem_cons_of_mem));done)|simp)
  ·intro i b g
   simp at b;simp[b]
 have:=h.map λi=>B.getD i d;rwa[e]at this
theorem aC{c:Type}{d:c}{n:Nat}{B:List c}{f:c→Nat}{p:Array Nat}(h:PA n p)(l:Up (λi=>f (B.getD i d)) p n):(p.toList.map λi=>B.getD i d).Pairwise λa b=>f a<f b:=by
 rw[GE,F6];intro i j m o e;have r:=h.size;have g:i<p.size:=by simpa using m
 have k:j<p.size:=by simpa using o
 have:=l i j e (by (first|lia|omega));unfold rk at this;rw[gD g,gD k]at this;simpa using this
theorem OU{c:Type}{d:c}{n:Nat}{B B':List c}{f:c→Nat}{p:Array Nat}(e:B.length=n)(h:PA n p)(g:Up (λi=>f (B.getD i d)) p n)(j:B'.Perm B)(k:B'.Pairwise λa b=>f a<f b):(p.toList.map λi=>B.getD i d)=B':=
 aA f ((aB e h).trans j.symm) (aC h g) k
theorem aD(w:Aa):(kt w).get 163=some (NS w.2):=by kernel_rfl
theorem aE(w:Aa):(kt w).get 162=some (NR w.2):=by kernel_rfl
noncomputable def QW(P:Aj):Frag:=[(163,NS P),(162,NR P)]
theorem U6{w:Aa}{s:Ab}{L:Ae}(S:An (kt w) s L):(QW w.2).In s.heap:=by
 refine Frag.in_of (as:=[163,162]) rfl ?_;show[s.heap.get? 163,s.heap.get? 162]=[some (NS w.2),some (NR w.2)];rw[S.old _ _ (aD w),S.old _ _ (aE w)]
theorem aF(w:Aa):peek (QW w.2) ⟨pw,w.2⟩ (isSubtype (.ref 163) (.type "tuple"))=some true:=by kernel_rfl
theorem aG(w:Aa):findIn (QW w.2) (.ref 163) (Str.ofString "__lt__")=some (some (.builtin "tuple.__lt__")):=by kernel_rfl
theorem U7{M:Model}{A:Al}{E:Value→Ab→Prop}{s:Ab}{x d p z tp a tz:Nat}{Q:Value→Ab→Prop}(b:s.heap.get? x=some (EP d p z tp a tz))(h:Q (.ref 163) s):wpAny M A (typeOf (.ref x)) Q E s:=
 Looks.here (show Looks M s.heap (typeOf (.ref x)) (EP d p z tp a tz).cls from(Looks.ld b).andThen .now) h
theorem U8{w:Aa}{A:Al}{E:Value→Ab→Prop}{s:Ab}{L:Ae}(S:An (kt w) s L){x d p z tp a tz:Nat}{Q:Bool→Ab→Prop}(b:s.heap.get? x=some (EP d p z tp a tz))(h:Q true s):wpAny (model pw w) A (isInstance (.ref x) (.type "tuple")) Q E s:=by
 unfold isInstance;exact Af (U7 b (Looks.here (Looks.of_peek (U6 S) (aF w)) h))
theorem aH{w:Aa}{A:Al}{E:Value→Ab→Prop}{s:Ab}{L:Ae}(S:An (kt w) s L)(D:A.units<cLine){x d p z tp G tz y H c I k o t:Nat}{Q:Bool→Ab→Prop}
  (m:s.heap.get? x=some (EP d p z tp G tz)) (u:s.heap.get? y=some (EP H c I k o t)) (N:p≠c) (h:Q (decide (p<c)) s):wpAny (model pw w) A (keyLt' oneType' (.ref x) (.ref y)) Q E s:=by
 rw[keyLt'_oneType,oneLt'_eq];simp only[if_true];refine Af (wpAny_cRoomFor D ?_);have e:decide ((p:Int)<c)=decide (p<c):=by (first|((repeat(first|exact .head _|apply List.mem_cons_of_mem));done)|simp)
 have i:wpAny (model pw w) A (call (.builtin "tuple.__lt__") ([.ref x]++[.ref y])) (λv a=>v= .bool (decide (p<c))∧a=s) E s:=by
  refine wpAny_call (codeAny_call_builtin_at (plainId_quiet F.slot_tuple_lt.plain _) F.entry_tuple_lt ?_);have J:builtinKind "tuple.__lt__"=some .slot:=by decide+kernel
  have K:splitId "tuple.__lt__"=some ("tuple","__lt__"):=by decide+kernel
  simp only[checkBuiltinCall,J,K];refine Af (U8 S m ?_);simp only[Lx,CZ,if_false];have B:=F.args_tuple_lt_2 (.ref x) (.ref y);have fin:wpAny (model pw w) (A.under (.builtin "tuple.__lt__" ⟨[.ref x,.ref y],[]⟩)) (Builtin.«tuple.__lt__» ⟨[.ref x,.ref y],[]⟩)
    (λfin a=>match fin with| .done f=>(match(Except.ok f:Result)with| .ok (.ret v)=>v= .bool (decide (p<c))∧a=s| .ok _=>False| .error e=>E e a)| .again C=>C.quiet=true∧codeAny (model pw w) A C (λr a=>match r with| .ok (.ret v)=>v= .bool (decide (p<c))∧a=s| .ok _=>False| .error e=>E e a) a) (λe a=>E e a) s:=by
   rw[U4];refine QV (.inl rfl) m rfl u rfl (λQ h=>U8 S u h) (.diff (b:=decide ((p:Int)<c)) ?_ (CE.int_lt _ _ _ _ _ _)) ?_
   ·have:=EqAt.int_int (A:=A.under (.builtin "tuple.__lt__" ⟨[.ref x,.ref y],[]⟩)) (s:=s) p tp c k
    rwa[show(((p:Int))==c)=false from beq_eq_false_iff_ne.mpr (by (first|lia|omega))]at this
   ·rw[e];exact⟨rfl,rfl⟩
  cases n:Manifest.signature? "tuple.__lt__" with
  |none=>exact Aq fin
  |some l=>
   simp only[argsOk,n]at B;have M:Bind.checkArgs "tuple.__lt__" l ⟨[.ref x,.ref y],[]⟩=pure ():=B;refine (?_:wpAny _ _ (Bind.checkArgs "tuple.__lt__" l ⟨[.ref x,.ref y],[]⟩) _ _ s);rw[M];exact Aq fin
 have j:wpAny (model pw w) A (callSpecialIfBound? (.ref x) (Str.ofString "__lt__") [.ref y]) (λv a=>v=some (.bool (decide (p<c)))∧a=s) E s:=by
  simp only[callSpecialIfBound?,bindSpecialIfBound?];refine Di (Af (Af (Af (U7 m ((looks_findIn (U6 S) (aG w)).here ?_)))));simp only[F.slot_tuple_lt.bind];refine Af (wpAny_askSetting (wpAny_ite ?_));have fin:wpAny (model pw w) A (call (.builtin "tuple.__lt__") ([.ref x]++[.ref y])>>=λv=>pure (some v)) (λv a=>v=some (.bool (decide (p<c)))∧a=s) E s:=Af (CA i (λv a g=>Aq ⟨Am some g.1,g.2⟩) λ_ _ g=>g)
  split
  ·exact Af (Aq (Aq fin))
  ·exact wpAny_tryCatch (Af (Aq (Aq fin)))
 refine Af (CA j (λv a g=> ?_) λ_ _ e=>e);obtain⟨rfl,rfl⟩:=g;exact wpAny_truthy_bool h
noncomputable def JN(e:BE):Obj:=EP e.d e.p e.z e.tp e.tq e.tz
noncomputable def BM(S:List BE):Ae:=S.map λe=>(e.x,JN e)
noncomputable def IR(a:List Nat)(b:List Nat):List Value:=a.map λi=>.ref (b.getD i 0)
noncomputable def U9(a n:Nat)(S:List BE)(b:List Nat):Ak:=
 {d:=900,u:=9000,h:=none,c:=.call (.builtin Ko) ⟨[.ref a],[]⟩,idx:=[],pre:=(a,li (IR b (S.map BE.x)) n)::BM S,na:=0,nt:=0,
  r:=λ_ _=>.ok (.ret .none),outs:=λ_ _ _=>li (S.map λe=>.ref e.x) (n+2)::S.map JN,news:=λ_ _ _=>[]}
theorem aI{A:Al}{u:Nat}(h:A.units≤u)(a:u+3<cLine):A.in1.units<cLine:=by
 have e:A.in1.units=A.units+1:=rfl;(first|lia|omega)
theorem Va(a:List Nat)(S:List BE)(b:BE)(h:a.Perm (List.range S.length)):IR a (S.map BE.x)=(a.map λi=>S.getD i b).map λe=>Value.ref e.x:=by
 unfold IR;rw[BZ];apply DU;intro i c;have:i<S.length:=List.mem_range.mp (h.mem_iff.mp c);simp[this]
theorem aJ{b:Type}(c:List Nat)(S:List b)(a:b)(h:c.Perm (List.range S.length)):(c.map λi=>S.getD i a).Perm S:=by
 have e:(List.range S.length).map (λi=>S.getD i a)=S:=by
  apply Hn
  ·(first|((repeat(first|exact .head _|apply List.mem_cons_of_mem));done)|simp)
  ·intro i d g
   simp at d;simp[d]
 have:=h.map λi=>S.getD i a;rwa[e]at this
theorem QX(B:List BE)(a:BE){i:Nat}(b:i<B.length):(B.map λe=>Value.ref e.x).getD i .none= .ref (B.getD i a).x:=by
 simp[b]
theorem aK{w:Aa}{l n:Nat}{S:List BE}{o:List Nat}(H:o.Perm (List.range S.length))(M:S.Pairwise λa b=>a.p<b.p)(W:2≤S.length)(X:S.length<64):Av w (U9 l n S o):=by
 let c:BE:=⟨0,0,0,0,0,0,0⟩
 have N:=Va o S c H;have t:=aJ o S c H;generalize ac:(o.map λi=>S.getD i c)=B at N t;have E:B.length=S.length:=t.length_eq;have G: ∀{i:Nat},i<B.length→B.getD i c∈S:=λ {i} g=>by
  have:B.getD i c=B[i]:=by simp[g]
  rw[this];exact t.mem_iff.mp (C0 g)
 refine GR λA s hd hu hh St R hR=> ?_;refine (?_:codeAny _ _ (.call (.builtin Ko) ⟨[.ref l],[]⟩) _ s);rw[P9];have I:An (kt w) s ((l,li (B.map λe=>Value.ref e.x) n)::BM S):=by rw[←N];exact St
 have ho:=I.mem (l,li (B.map λe=>Value.ref e.x) n) (by (first|((repeat(first|exact .head _|apply List.mem_cons_of_mem));done)|simp));have J:=ho;rw[BW]at J;have O: ∀{s:Ab} {n:Nat} {Y:List Value},An (kt w) s ((l,li Y n)::BM S)→ ∀e∈S,s.heap.get? e.x=some (EP e.d e.p e.z e.tp e.tq e.tz):=λ {s n Y} m e P=>by
  exact m.mem (e.x,JN e) (BB _ (List.mem_map.mpr ⟨e,P,rfl⟩))
 refine DT slot_list_sort.plain entry_list_sort (slot_list_sort.check _ _ _ _ _ _ _ _ ⟨_,J,rfl⟩ (args_list_sort _) ?_);rw[uY];have z:(B.map λe=>Value.ref e.x).length=S.length:=by rw[BY,E]
 refine OS (κ:=oneType') (F:=BM S) (r:=λi=>(B.getD i c).p) (by rw[z];exact W) (by rw[z];exact X) (λi j g k e=> ?_) (λD Q m hQ=> ?_) (λi j D C g k Z m hC=> ?_) I λD p U K L=> ?_
 ·rw[z,←E]at g k
  have y:B.Pairwise (λa b=>a.p≠b.p):=by
   have:S.Pairwise (λa b=>a.p≠b.p):=M.imp λh=>CN h;exact(t.pairwise_iff λ {a b} h=>Ne.symm h).mpr this
  rw[F6]at y;have V:(B.getD i c).p=(B.getD j c).p:=e;rw[show B.getD i c=B[i] by simp[g],show B.getD j c=B[j] by simp[k]]at V;rcases Jh i j with h|h|h
  ·exact absurd V (y i j g k h)
  ·exact h
  ·exact absurd V.symm (y j i k g h)
 ·refine kas_kind (T:=.ref 163) (by rw[z];exact W) (λv hv=> ?_) (by rfl) (by rfl) hQ
  obtain⟨e,P,rfl⟩:=List.mem_map.mp hv;exact(show Looks (model pw w) D.heap (typeOf (.ref e.x)) (EP e.d e.p e.z e.tp e.tq e.tz).cls from(Looks.ld (O m e (t.mem_iff.mp P))).andThen .now)
 ·rw[z,←E]at g k
  refine (?_:wpAny _ _ (keyLt' oneType' ((B.map λe=>Value.ref e.x).getD i .none) ((B.map λe=>Value.ref e.x).getD j .none)) _ _ _);rw[QX B c g,QX B c k];refine aH m (show A.in1.units<cLine from aI (u:=9000) hu (by decide)) (O m _ (G g)) (O m _ (G k)) (λe=> ?_) (hC D (.refl m));have y:B.Pairwise (λa b=>a.p≠b.p):=by
   have:S.Pairwise (λa b=>a.p≠b.p):=M.imp λh=>CN h;exact(t.pairwise_iff λ {a b} h=>Ne.symm h).mpr this
  rw[F6]at y;rw[show B.getD i c=B[i] by simp[g],show B.getD j c=B[j] by simp[k]]at e;rcases Jh i j with h|h|h
  ·exact y i j g k h e
  ·exact Z h
  ·exact y j i k g h e.symm
 ·rw[z]at U K
  have key:=OU (d:=c) (f:=BE.p) E U K t.symm M;have em:(p.toList.map λi=>(katRev false (B.map λe=>Value.ref e.x)).getD i .none)=S.map λe=>.ref e.x:=by
   have:(S.map λe=>Value.ref e.x)=(p.toList.map λi=>B.getD i c).map λe=>Value.ref e.x:=by rw[key]
   rw[this,BZ];apply DU;intro i g;have aa:i<B.length:=by rw[E];exact List.mem_range.mp (U.mem_iff.mp g)
   exact QX B c aa
  refine hR D [] [] [] rfl rfl rfl ?_ L.toks;refine (?_:Ag (kt w) s D ((l,li (IR o (S.map BE.x)) n)::BM S) (Bk ((l,li (IR o (S.map BE.x)) n)::BM S) (li (S.map λe=>.ref e.x) (n+2)::S.map JN)++BH [] []));rw[N];have e2:Bk ((l,li (B.map λe=>Value.ref e.x) n)::BM S) (li (S.map λe=>.ref e.x) (n+2)::S.map JN)++BH [] []=(l,li (S.map λe=>Value.ref e.x) (n+2))::BM S:=by
   show(l,_)::Bk (BM S) (S.map JN)++[]=_;rw[BV];congr 1;have:=Kz (BM S) (BM S) rfl;rwa[show(BM S).map (·.2)=S.map JN by unfold BM;rw[BZ];rfl]at this
  rw[e2,←em];exact L
theorem aL(w:Aa): ∃o,(kt w).get 2=some o∧(match o.data with| .dict a _=>a.all (λe=>match e.key with| .str _ _=>true|_=>false)&&(nsFind a sharingNotToldKey).isNone|_=>false)=true:=
 ⟨tw8851035615930858782 w.2,by kernel_rfl,by kernel_rfl⟩
theorem Mv{w:Aa}{s:Ab}{L:Ae}(S:An (kt w) s L):NoneBooked s.heap:=by
 obtain⟨o,e,a⟩:=aL w;have b:=S.old 2 o e;have c:s.heap.isNs 2=true:=by
  unfold Heap.isNs;rw[b];dsimp only;revert a;cases o.data <;> intro a <;> first|cases a|exact(Bool.and_eq_true_iff.mp a).1
 refine⟨_,.of_isNs c,?_⟩;unfold Heap.nsMap;have d:s.heap.get? cStatics=some o:=b;rw[d];dsimp only;revert a;cases o.data <;> intro a <;> first|cases a|exact Option.isNone_iff_eq_none.mp (Bool.and_eq_true_iff.mp a).2
theorem EqAt.float{A:Al}{s:Ab}(i:NoneBooked s.heap){a b:UInt64}{t u:Tok}(k:t≠0)(l:u≠0)(d:t≠u)(m:a=b→(Float64.cmp a b==some Ordering.eq)=true):
  EqAt A s (.float a t) (.float b u) (Float64.cmp a b==some Ordering.eq):=λg w E Q h=>by
 have c:wpAny (model g w) A (richCompare .Eq (.float a t) (.float b u)>>=λv=>truthOfDropped v) Q E s:=Af (AutoFloatOps.eq_0 (wpAny_truthy_bool h));unfold eqBool;refine Di ?_;refine wpAny_ite_split (λj=> ?_) (λ_=> ?_)
 ·have:=eq_of_beq j
  injection this with _ h2
  exact absurd h2 d
 ·dsimp only
  refine Af ?_;refine (?_:wpAny _ A (isSame.created (a==b&& !Float64.isNaN a) t u) _ E s);unfold isSame.created;have n:(t==0||u==0)=false:=by simp[k,l]
  have o:(t==u)=false:=by simpa using d
  rw[n,o];simp only[CZ,if_false];cases r:(a==b&& !Float64.isNaN a)with
  |false=>
   simp only[Bool.not_false,if_true];refine Aq ?_;simp only[CZ,if_false];exact c
  |true=>
   simp only[Lx,CZ,if_false];refine Af (wpAny_sharingNotTold_none i ?_);simp only[CZ,if_false];refine Af (wpAny_sharingNotTold_none i ?_);simp only[CZ,if_false];refine Af (FH (Af (wpAny_askSetting (Aq ?_))));dsimp only
   split
   ·refine Aq ?_
    have e:a=b:=eq_of_beq (Bool.and_eq_true_iff.mp r).1;rw[m e]at h;exact h
   ·exact c
theorem aM(x y:Addr)(a c:List Value)(n k:Nat)(b:Bool):Meets (Builtin.«tuple.__lt__» ⟨[.ref x,.ref y],[]⟩)
  (λA R s=>s.heap.get? x=some (tu a n)∧s.heap.get? y=some (tu c k)∧G1 .Lt A.in1 s a c b∧R (.ok (.ret (.bool b))) s):=λd w A R s ⟨e,hy,hl,h⟩=>by
 rw[U4];refine QV (.inl rfl) e rfl hy rfl (λQ h=>wpAny_isInstance (T:="tuple") ⟨_,hy,rfl⟩ AutoSeq1.sub_tuple_tuple h) hl h
theorem aN(x y:Addr)(a c:List Value)(n k:Nat)(b:Bool):Meets (Builtin.«tuple.__gt__» ⟨[.ref x,.ref y],[]⟩)
  (λA R s=>s.heap.get? x=some (tu a n)∧s.heap.get? y=some (tu c k)∧G1 .Gt A.in1 s a c b∧R (.ok (.ret (.bool b))) s):=λd w A R s ⟨e,hy,hl,h⟩=>by
 rw[uZ];refine QV (.inr rfl) e rfl hy rfl (λQ h=>wpAny_isInstance (T:="tuple") ⟨_,hy,rfl⟩ AutoSeq1.sub_tuple_tuple h) hl h
theorem CE.tuple_lt{A:Al}{s:Ab}(g:A.units<cLine){x y:Addr}{a c:List Value}{n k:Nat}{b:Bool}(d:s.heap.get? x=some (tu a n))(e:s.heap.get? y=some (tu c k))(i:G1 .Lt A.in1 s a c b):CE .Lt A s (.ref x) (.ref y) b:=λj w E Q h=>
 richCompare_meets_room (op:=.Lt) ⟨_,d,rfl⟩ ⟨_,e,rfl⟩ F.slot_tuple_lt F.entry_tuple_lt (F.args_tuple_lt_2 _ _) (aM x y a c n k b) ⟨d,e,i,show Value.bool b≠Value.notImplemented∧Q (.bool b) s from⟨(λx=>nomatch x),h⟩⟩ g
theorem CE.tuple_gt{A:Al}{s:Ab}(g:A.units<cLine){x y:Addr}{a c:List Value}{n k:Nat}{b:Bool}(d:s.heap.get? x=some (tu a n))(e:s.heap.get? y=some (tu c k))(i:G1 .Gt A.in1 s a c b):CE .Gt A s (.ref x) (.ref y) b:=λj w E Q h=>
 richCompare_meets_room (op:=.Gt) ⟨_,d,rfl⟩ ⟨_,e,rfl⟩ F.slot_tuple_gt F.entry_tuple_gt (F.args_tuple_gt_2 _ _) (aN x y a c n k b) ⟨d,e,i,show Value.bool b≠Value.notImplemented∧Q (.bool b) s from⟨(λx=>nomatch x),h⟩⟩ g
set_option maxHeartbeats 1000000
theorem aO{a:List Nat}{n:Nat}(h:a.Perm (List.range n)):(0::a.map (· +1)).Perm (List.range (n+1)):=by
 rw[PB];exact(h.map _).cons _
theorem Vb{b:Type}(c:List Nat)(S:List b)(a:b)(h:c.Perm (List.range S.length)):(c.map λi=>S.getD i a).Perm S:=by
 have e:(List.range S.length).map (λi=>S.getD i a)=S:=by
  apply Hn
  ·(first|((repeat(first|exact .head _|apply List.mem_cons_of_mem));done)|simp)
  ·intro i d g
   simp at d;simp[d]
 have:=h.map λi=>S.getD i a;rwa[e]at this
theorem Vc{j:Type}(d:j){l m:List j}(h:l.Perm m): ∃c:List Nat,c.Perm (List.range l.length)∧m=c.map λi=>l.getD i d:=by
 induction h with
 |nil=>exact⟨[],AW _,rfl⟩
 | @cons x l m h u=>
  obtain⟨c,b,g⟩:=u;refine⟨0::c.map (· +1),aO b,?_⟩;rw[Eh,BZ,g];rfl
 |swap x y l=>
  refine⟨1::0::(List.range l.length).map (· +2),?_,?_⟩
  ·have:(List.range (l.length+2))=0::1::(List.range l.length).map (· +2):=by
    rw[PB,PB,Eh,BZ];rfl
   show(1::0::_).Perm (List.range (l.length+2));rw[this];exact List.Perm.swap _ _ _
  ·rw[Eh,Eh,BZ]
   congr 2;apply Hn
   ·(first|((repeat(first|exact .head _|apply List.mem_cons_of_mem));done)|simp)
   ·intro i b g
    simp[b]
 | @trans l m k b g n o=>
  obtain⟨a,r,v⟩:=n;obtain⟨e,s,w⟩:=o;have z:a.length=l.length:=by rw[r.length_eq,F9]
  have A:m.length=l.length:=b.length_eq.symm;refine⟨e.map λi=>a.getD i 0,?_,?_⟩
  ·refine(Vb e a 0 (by rw[z,←A];exact s)).trans r
  ·rw[BZ,w]
   apply DU;intro i B;have C:i<m.length:=List.mem_range.mp (s.mem_iff.mp B);have t:i<a.length:=by (first|lia|omega)
   subst v;simp[t]
theorem aP{a b c d:Nat→Nat}: ∀(n i:Nat) (s:Nat×Nat×Nat),(∀k,i≤k→k<i+n→(a k=b k↔c k=d k))→B8 a b n i s=B8 c d n i s:=by
 intro n
 induction n with
 |zero=>intro i s _;rfl
 |succ n j=>
  intro i s h;refine (?_:B8 a b n (i+1) (D9 a b i s)=B8 c d n (i+1) (D9 c d i s));have e:D9 a b i s=D9 c d i s:=by
   have g:=h i (A7 _) (by (first|lia|omega));unfold D9
   by_cases q:a i=b i
   ·rw[AS q,AS (g.mp q)]
   ·rw[AH q,AH λx=>q (g.mpr x)]
  rw[e];exact j (i+1) _ λk l m=>h k (by (first|lia|omega)) (by (first|lia|omega))
theorem aQ{a b m o:Nat→Nat}(h: ∀k,k<8→(a k=b k↔m k=o k)): ∀(n:Nat) (Q l:List (Nat×Nat)),(∀c∈Q,c.1≤c.2∧c.2≤8)→Ea a b n Q l=Ea m o n Q l:=by
 intro n
 induction n with
 |zero=>intro Q l _;rfl
 |succ n u=>
  intro Q l v;cases Q with
  |nil=>rfl
  |cons c Q=>
   obtain⟨g,i⟩:=c;have j:=v (g,i) Bj;have s: ∀c∈Q,c.1≤c.2∧c.2≤8:=λc j=>v c (BB _ j);have e:B8 a b (i-g) g (0,g,0)=B8 m o (i-g) g (0,g,0):=aP _ _ _ λk B C=>h k (by have:=j.1;have:=j.2;dsimp only at*;(first|lia|omega));have z:Em a b g i=Em m o g i:=by unfold Em;rw[e]
   have A:En a b g i=En m o g i:=by unfold En;rw[e]
   obtain⟨r,t⟩:=Qx a b j.1;have w:=t.p1;have y:=t.p2;dsimp only at w y j;show(if En a b g i=0 then _ else _)=(if En m o g i=0 then _ else _);rw[←A,←z]
   split
   ·exact u _ _ s
   ·refine u _ _ λc d=> ?_
    simp only[List.mem_append]at d;rcases d with(d|d)|d
    ·split at d
     ·rw[Ip]at d;subst d;exact⟨y,j.2⟩
     ·cases d
    ·split at d
     ·rw[Ip]at d;subst d;exact⟨w,by refine (?_:Em a b g i≤8);(first|lia|omega)⟩
     ·cases d
    ·exact s c d
theorem aR{a b c d:Nat→Nat}: ∀n,(∀k,k<n→(a k=b k↔c k=d k))→cnt a b n=cnt c d n:=by
 intro n
 induction n with
 |zero=>intro _;rfl
 |succ n e=>
  intro h;unfold cnt;rw[e λk g=>h k (by (first|lia|omega))];have:=h n (by (first|lia|omega))
  by_cases q:a n=b n
  ·rw[AS q,AS (this.mp q)]
  ·rw[AH q,AH λx=>q (this.mpr x)]
noncomputable def OV(x:Nat×Nat):List (Nat×Nat)→List (Nat×Nat)
 |[]=>[x]
 |y::l=>if x.1<y.1 then x::y::l else y::OV x l
noncomputable def OW:List (Nat×Nat)→List (Nat×Nat)
 |[]=>[]
 |x::l=>OV x (OW l)
theorem Vd(x:Nat×Nat): ∀l,(OV x l).Perm (x::l)
 |[]=>AW _
 |y::l=>by
  unfold OV
  split
  ·exact AW _
  ·exact((Vd x l).cons y).trans (List.Perm.swap _ _ _)
theorem Ve: ∀l,(OW l).Perm l
 |[]=>AW _
 |x::l=>(Vd x _).trans ((Ve l).cons x)
noncomputable def HK:Nat→List (Nat×Nat)→Bool
 |_,[]=>true
 |m,(p,z)::l=>Nat.ble m p&&Nat.blt 0 z&&Nat.ble (p+z) 8&&HK (p+z+1) l
noncomputable def G2:List (Nat×Nat)→Nat
 |[]=>0
 |(_,z)::l=>z+G2 l
noncomputable def B3(a b:Nat→Nat):List (Nat×Nat):=OW (Ea a b 9 [(0,8)] [])
noncomputable def IS(N:Nat)(i:Nat):Nat:=N/2^i%2
noncomputable def Vf(N:Nat):Bool:=
 let l:=OW (Ea (IS N) (λ_=>1) 9 [(0,8)] [])
 HK 0 l&&Nat.ble l.length 4&&Nat.beq (G2 l) (cnt (IS N) (λ_=>1) 8)
theorem aS: ∀N,N<256→Vf N=true:=by decide+kernel
noncomputable def Go(a b:Nat→Nat):Nat→Nat
 |0=>0
 |n+1=>Go a b n+if a n=b n then 2^n else 0
theorem Vg(a b:Nat→Nat): ∀n,Go a b n<2^n:=by
 intro n
 induction n with
 |zero=>simp[Go]
 |succ n c=>unfold Go;rw[Nat.pow_succ];split <;> (first|lia|omega)
theorem aT(a b:Nat→Nat): ∀n i,i<n→(a i=b i↔IS (Go a b n) i=1):=by
 intro n
 induction n with
 |zero=>intro i h;(first|lia|omega)
 |succ n g=>
  intro i h;have c:=Vg a b n;unfold Go
  by_cases e:i=n
  ·subst e
   unfold IS
   by_cases q:a i=b i
   ·rw[AS q]
    have:(Go a b i+2^i)/2^i=1:=by
     rw[Nat.add_div_right _ (Nat.two_pow_pos i),Nat.div_eq_of_lt c]
    rw[this];simp[q]
   ·rw[AH q]
    rw[Lz,Nat.div_eq_of_lt c];simp[q]
  ·have d:i<n:=Io (Eg h) e
   have:=g i d;have key:IS (Go a b n+if a n=b n then 2^n else 0) i=IS (Go a b n) i:=by
    unfold IS
    split
    ·obtain⟨k,rfl⟩:=Nat.exists_eq_add_of_lt d
     have:2^(i+k+1)=2^i*(2*2^k):=by rw[Lv,Nat.pow_add,Nat.pow_succ,Nat.mul_comm (2^k)]
     rw[this,Nat.add_mul_div_left _ _ (Nat.two_pow_pos i),Nat.add_mul_mod_self_left]
    ·rfl
   rw[key];exact this
theorem OX(a b:Nat→Nat):HK 0 (B3 a b)=true∧(B3 a b).length≤4∧G2 (B3 a b)=cnt a b 8:=by
 have c: ∀k,k<8→(a k=b k↔IS (Go a b 8) k=(λ_=>1) k):=aT a b 8;have d:=aQ c 9 [(0,8)] [] (by (first|((repeat(first|exact .head _|apply List.mem_cons_of_mem));done)|simp));have e:=aR 8 c;have h:=aS (Go a b 8) (Vg a b 8);unfold Vf at h;simp only[Fo]at h;obtain⟨⟨g,i⟩,j⟩:=h;unfold B3;rw[d,e];exact⟨g,Ef i,Jd j⟩
theorem aU: ∀{l:List (Nat×Nat)} {m:Nat},HK m l=true→(∀c∈l,m≤c.1)∧l.Pairwise (λa b=>a.1<b.1):=by
 intro l
 induction l with
 |nil=>intro m _;exact⟨λ_ h=>(nomatch h),.nil⟩
 |cons c l i=>
  intro m h;obtain⟨p,z⟩:=c;unfold HK at h;simp only[Fo]at h;obtain⟨⟨⟨e,n⟩,o⟩,j⟩:=h;have e:=Ef e;obtain⟨g,k⟩:=i j;refine⟨λc d=> ?_,?_⟩
  ·rcases List.mem_cons.mp d with rfl|d
   ·exact e
   ·have:=g c d;(first|lia|omega)
  ·rw[List.pairwise_cons]
   exact⟨λc d=>by have:=g c d;refine (?_:p<c.1);(first|lia|omega),k⟩
theorem aV(a b:Nat→Nat):B5 λ (c h:List Nat)=>c.Perm (List.range (B3 a b).length)∧h.Perm (List.range (B3 a b).length)∧
  ∀{k:Type} (d:k) (f:k→Nat×Nat) (B:List k),B.map f=Ea a b 9 [(0,8)] []→(c.map λi=>B.getD i d).map f=B3 a b∧(c.map λi=>B.getD i d).Perm B∧B=h.map λj=>(c.map λi=>B.getD i d).getD j d:=by
 have n:(Ea a b 9 [(0,8)] []).Perm (B3 a b):=(Ve _).symm;obtain⟨c,g,o⟩:=Vc (0,0) n;have r:(Ea a b 9 [(0,8)] []).length=(B3 a b).length:=n.length_eq;rw[r]at g;obtain⟨h,s,u⟩:=Vc 0 g;have rl:c.length=(B3 a b).length:=by rw[g.length_eq,F9]
 refine⟨c,h,g,by rw[←rl];exact s,λ {k} d f B t=> ?_⟩;have l:B.length=(B3 a b).length:=by rw[←r,←t,BY]
 refine⟨?_,Vb c B d (by rw[l];exact g),?_⟩
 ·rw[o,BZ]
  apply DU;intro i m;have:i<B.length:=by rw[l];exact List.mem_range.mp (g.mem_iff.mp m)
  simp[←t,this]
 ·have e:B=(List.range (B3 a b).length).map λi=>B.getD i d:=by
   apply Hn
   ·simp[l]
   ·intro i g o
    simp[g]
  rw[u,BZ]at e;refine e.trans (DU λi m=> ?_);have:i<c.length:=List.mem_range.mp (s.mem_iff.mp m);simp[this]
set_option maxHeartbeats 400000
theorem Ag.subs{kt:KT}{s b:Ab}{L c L'':Ae}(x:Ag kt s b L c)(h:L''.Sublist c):Ag kt s b L L'':=
 ⟨⟨λp a=>x.sat.mem p (h.subset a),(h.map _).nodup x.sat.nd,x.sat.old,λp a=>x.sat.apart p (h.subset a)⟩,x.keep,λp a=>x.new p (h.subset a),x.size,x.gens,x.os,x.drawn,x.toks⟩
theorem aW{w:Aa}{A:Al}{c:Code}{L:Ae}{k j:Result→Ae→List Nat→Prop}(h:RunsW w A c L k)
  (m: ∀r g e,k r g e→B5 λi X=>g.Perm (i++X)∧j r i e):RunsW w A c L j:=λs S=>by
 refine B4 (h s S) λr l hz=> ?_;obtain⟨g,e,a,b,d⟩:=hz;obtain⟨i,X,q,z⟩:=m r g e a;exact⟨i,e,z,(b.permR q).subs (EW _ _),d⟩
noncomputable def HM:Nat→List (Nat×Nat)→List Nat→List Obj→List BE
 |_,[],_,_=>[]
 |i,c::l,a,o=>⟨a.getD (2*i) 0,a.getD (2*i+1) 0,c.1,c.2,Ao o (22+3*i),Ao o (23+3*i),Ao o (24+3*i)⟩::HM (i+1) l a o
noncomputable def EA:List BE→List Nat
 |[]=>[]
 |e::S=>e.x::e.d::EA S
noncomputable def Dl:List BE→List Obj
 |[]=>[]
 |e::S=>Ac e.tp::Ac e.tq::Ac e.tz::Dl S
theorem QY{l:List Obj}{n:Nat}{r:List Obj}{k i:Nat}(h:l.length=i):Ao (l++Ac n::r) i=n:=by
 subst h;simp[Ao,BP,Ac]
theorem aX: ∀(S:List BE) (i:Nat) (b:List Nat) (a:List Obj),b.length=2*i→a.length=22+3*i→HM i (S.map λc=>(c.p,c.z)) (b++EA S) (a++Dl S)=S:=by
 intro S
 induction S with
 |nil=>intro i b a _ _;rfl
 |cons e S g=>
  intro i b a d h;rw[Eh];unfold HM;have j:=g (i+1) (b++[e.x,e.d]) (a++[Ac e.tp,Ac e.tq,Ac e.tz]) (by (first|((repeat(first|exact .head _|apply List.mem_cons_of_mem));done)|simp);(first|lia|omega)) (by (first|((repeat(first|exact .head _|apply List.mem_cons_of_mem));done)|simp);(first|lia|omega));have l:b++EA (e::S)=(b++[e.x,e.d])++EA S:=by simp[EA]
  have m:a++Dl (e::S)=(a++[Ac e.tp,Ac e.tq,Ac e.tz])++Dl S:=by simp[Dl]
  rw[l,m,j];have n:((b++[e.x,e.d])++EA S).getD (2*i) 0=e.x:=by rw[←d];(first|((repeat(first|exact .head _|apply List.mem_cons_of_mem));done)|simp)
  have o:((b++[e.x,e.d])++EA S).getD (2*i+1) 0=e.d:=by rw[←d];(first|((repeat(first|exact .head _|apply List.mem_cons_of_mem));done)|simp)
  have r:Ao ((a++[Ac e.tp,Ac e.tq,Ac e.tz])++Dl S) (22+3*i)=e.tp:=by
   rw[Dr];exact QY (k:=0) h
  have s:Ao ((a++[Ac e.tp,Ac e.tq,Ac e.tz])++Dl S) (23+3*i)=e.tq:=by
   rw[show(a++[Ac e.tp,Ac e.tq,Ac e.tz])++Dl S=(a++[Ac e.tp])++Ac e.tq::(Ac e.tz::Dl S) by (first|((repeat(first|exact .head _|apply List.mem_cons_of_mem));done)|simp)];exact QY (k:=0) (by (first|((repeat(first|exact .head _|apply List.mem_cons_of_mem));done)|simp);(first|lia|omega))
  have t:Ao ((a++[Ac e.tp,Ac e.tq,Ac e.tz])++Dl S) (24+3*i)=e.tz:=by
   rw[show(a++[Ac e.tp,Ac e.tq,Ac e.tz])++Dl S=(a++[Ac e.tp,Ac e.tq])++Ac e.tz::Dl S by (first|((repeat(first|exact .head _|apply List.mem_cons_of_mem));done)|simp)];exact QY (k:=0) (by (first|((repeat(first|exact .head _|apply List.mem_cons_of_mem));done)|simp);(first|lia|omega))
  rw[n,o,r,s,t]
theorem aY: ∀S:List BE,BH (EA S) ((BL S).map (·.2))=BL S:=by
 intro S
 induction S with
 |nil=>rfl
 |cons e S a=>show _::_::BH (EA S) ((BL S).map (·.2))=_;rw[a];rfl
theorem aZ{S B:List BE}(h:S.Perm B):(BL S).Perm (BL B):=by
 induction h with
 |nil=>exact AW _
 |cons e h a=>exact(a.cons _).cons _
 |swap e f S=>
  show([_,_]++([_,_]++BL S)).Perm ([_,_]++([_,_]++BL S));rw[←Dr,←Dr];exact List.perm_append_comm.append_right _
 |trans _ _ b c=>exact b.trans c
noncomputable def QZ(o:List Obj):TT:=⟨λi=>Ao o i,Ao o 8,Ao o 9,Ao o 10,Ao o 11,λi=>Ao o (12+i),Ao o 16,Ao o 17,Ao o 18,Ao o 19⟩
noncomputable def Vh:TT:=QZ []
noncomputable def Mw(P:Aj)(K:QK)(b n e:Nat)(s:Nat→Nat)(a:List (Nat×Nat))(g:List Nat):Ak:=
 {d:=570,u:=3400,h:=none,c:=Mn Mp (Mo K.f),idx:=[],
  pre:=HH P K false Vh [.ref b] n++(IP P K [] e++[(b,IN 0 8 s)]),
  na:=2*a.length,nt:=0,no:=22+3*a.length,r:=λ_ _=>.ok .next,
  outs:=λx _ o=>(HH P K true (QZ o) [] (Ao o 20)++(IP P K (IR g ((HM 0 a x o).map BE.x)) (Ao o 21)++[(b,IN 0 8 s)])).map (·.2),
  news:=λx _ o=>(BL (HM 0 a x o)).map (·.2)}
theorem bA(S:List BE):(EA S).length=2*S.length:=by
 induction S with
 |nil=>rfl
 |cons e S a=>show(EA S).length+1+1=_;rw[a,Ir];(first|lia|omega)
theorem bB(S:List BE):(Dl S).length=3*S.length:=by
 induction S with
 |nil=>rfl
 |cons e S a=>show(Dl S).length+1+1+1=_;rw[a,Ir];(first|lia|omega)
theorem bC{H R B S D:Ae}{X:Addr×Obj}(h:S.Perm B):((H++(R++([]++B)))++((D++[X])++[])).Perm (((H++(R++[X]))++S)++D):=by
 classical
 refine List.perm_iff_count.mpr λy=> ?_;have h:=List.perm_iff_count.mp h y;simp only[NJ,List.count_nil];(first|lia|omega)
theorem bD{w:Aa}{K:QK}{b n d:Nat}{s:Nat→Nat}{g a:List Nat}(y:Lt K.a)(z:Lt K.b)(h1:g.Perm (List.range (B3 K.a K.b).length))(U:a.Perm (List.range (B3 K.a K.b).length))
  (C: ∀(B:List BE),B.map (λc=>(c.p,c.z))=Ea K.a K.b 9 [(0,8)] []→(g.map λi=>B.getD i ⟨0,0,0,0,0,0,0⟩).map (λc=>(c.p,c.z))=B3 K.a K.b∧(g.map λi=>B.getD i ⟨0,0,0,0,0,0,0⟩).Perm B∧B=a.map λj=>(g.map λi=>B.getD i ⟨0,0,0,0,0,0,0⟩).getD j ⟨0,0,0,0,0,0,0⟩):
  Av w (Mw w.2 K b n d s (B3 K.a K.b) a):=by
 refine Ba.ext λA D E F=> ?_;have G:=Mg (UR (w:=w) F D E y z 9 [⟨b,0,8,s⟩] [] false Vh n d [] (A7 9) (A7 8) λc V=>List.mem_singleton.mp V▸⟨Jk 7,A7 8⟩);clear y z F D E;refine aW (Gj [] (.of_eq ((BV _).trans (BV _))) G λr H m h=>⟨H,.of_eq (BV _),h⟩) λr H m hz=> ?_;obtain⟨I,_,W,v,T,o,k,l,D',X,J,Y,L⟩:=hz;obtain⟨Z,e⟩:=J _ _ rfl;obtain⟨t,M,N⟩:=C l L;clear J L C;generalize hS:(g.map λi=>l.getD i (⟨0,0,0,0,0,0,0⟩:BE))=S at t M N;have u:S.length=(B3 K.a K.b).length:=by rw[←t,BY]
 obtain⟨o0,O⟩: ∃o0:List Obj,o0=[Ac (T.y 0),Ac (T.y 1),Ac (T.y 2),Ac (T.y 3),Ac (T.y 4),Ac (T.y 5),Ac (T.y 6),Ac (T.y 7),Ac T.lo,Ac T.hi,Ac T.p,Ac T.z,Ac (T.s 0),Ac (T.s 1),Ac (T.s 2),Ac (T.s 3),Ac T.tp,Ac T.tq,Ac T.tz,Ac T.x,Ac o,Ac k]:=⟨_,rfl⟩
 have P:o0.length=22:=O▸rfl;have Q:HM 0 (B3 K.a K.b) (EA S) (o0++Dl S)=S:=by
  have:=aX S 0 [] o0 rfl P;rwa[t]at this
 have R:IR a (S.map BE.x)=GZ l:=by
  rw[Va a S ⟨0,0,0,0,0,0,0⟩ (by rw[u];exact U),←N]
 refine⟨_,QL Z,?_,EA S,o0++Dl S,(bA S).trans (Am (2* ·) u),Am Iu I,by rw[EX,bB,u,P];rfl,W,rfl⟩;have e1:(Mw w.2 K b n d s (B3 K.a K.b) a).outs (EA S) m (o0++Dl S)=(HH w.2 K true T [] o++(IP w.2 K (GZ l) k++[(b,IN 0 8 s)])).map (·.2):=by
  show(HH w.2 K true (QZ (o0++Dl S)) [] (Ao (o0++Dl S) 20)++(IP w.2 K (IR a ((HM 0 (B3 K.a K.b) (EA S) (o0++Dl S)).map BE.x)) (Ao (o0++Dl S) 21)++[(b,IN 0 8 s)])).map (·.2)=_;rw[Q,R,O];rfl
 have e2:(Mw w.2 K b n d s (B3 K.a K.b) a).news (EA S) m (o0++Dl S)=(BL S).map (·.2):=Am (λS=>(BL S).map λp:Addr×Obj=>p.2) Q;rw[e1,e2,aY,Kz (Mw w.2 K b n d s (B3 K.a K.b) a).pre (HH w.2 K true T [] o++(IP w.2 K (GZ l) k++[(b,IN 0 8 s)])) rfl,Y,e,X (.inl (List.cons_ne_nil _ _)),QL,BC];exact bC (aZ M)
noncomputable def Q1(a:Value):Ak:=
 {d:=900,u:=9000,h:=none,c:=.call (.builtin Qe) ⟨[LR,a],[]⟩,idx:=[],pre:=[],na:=1,nt:=0,r:=λx _=>.ok (.ret (.ref (x.getD 0 0))),outs:=λ_ _ _=>[],news:=λ_ _ _=>[li [] 0]}
theorem Vi{w:Aa}{a:Value}:Av w (Q1 a):=by
 refine GR λA s g i j S R c=> ?_;refine (?_:codeAny _ _ (.call (.builtin Qe) ⟨[LR,a],[]⟩) _ s);rw[qM,Qg];have d:=S.push (o:=li [] 0) rfl;have e:li [] 0={cls:=.type "list",data:=.seq #[]}:=BW [] 0;refine B4 (code_list_new (E:=λ_ _=>False) (Q₁:=λv b=>v= .ref s.heap.objs.size∧b={s with heap:=s.heap.push {cls:=.type "list",data:=.seq #[]}}) a ⟨rfl,rfl⟩) λr b h=> ?_
 match r,h with
 | .ok (.ret v),h=>
  obtain⟨rfl,rfl⟩:=h;rw[←e];exact c _ [s.heap.objs.size] [] [] rfl rfl rfl d (A7 _)
theorem Ag.pushOut{kt:KT}{s:Ab}{L:Ae}(S:An kt s L){o:Obj}(a:o.isFreed=false):Ag kt s {s with heap:=s.heap.push o} L L:=(S.push a).subs (EW _ _)
noncomputable def Q3(a n:Nat)(b:List Value):Ak:=II (.call (.builtin Ko) ⟨[.ref a],[]⟩) [(a,li b n)] [li b (n+2*b.length)] .none
theorem bE{a:List Value}{n:Nat}(h:a.length<2):(if a.length=([]:List Value).length then if([]:List Value).length=a.length then n else n+1 else(if([]:List Value).length=a.length then n else n+1)+1)=n+2*a.length:=by
 rcases a with _|⟨v,_|⟨_,_⟩⟩
 ·rfl
 ·rfl
 ·simp at h;(first|lia|omega)
theorem Vj{w:Aa}{a n:Nat}{b:List Value}(z:b.length<2):Av w (Q3 a n b):=by
 refine Kq λA s _ _ _ S R E=> ?_;have r:=S.mem (a,li b n) (by (first|((repeat(first|exact .head _|apply List.mem_cons_of_mem));done)|simp));have C: ∀(c e:List Value) (n:Nat),Obj.mapSeq (λ_=>(⟨e⟩:Array Value)) (li c n)=li e (if e.length=c.length then n else n+1):=λc e n=>by
  unfold Obj.mapSeq;dsimp only
  by_cases h:e.length=c.length
  ·have:((⟨e⟩:Array Value).size==(⟨c⟩:Array Value).size)=true:=by
    show(e.length==c.length)=true;simp[h]
   rw[this,AS h];rfl
  ·have:((⟨e⟩:Array Value).size==(⟨c⟩:Array Value).size)=false:=by
    show(e.length==c.length)=false;simp[h]
   rw[this,AH h];rfl
 have d:=S.set (i:=0) rfl (f:=Obj.mapSeq λ_=>(⟨[]⟩:Array Value)) (p:=(a,li b n)) rfl;dsimp only at r d;rw[C]at d;generalize D:(if([]:List Value).length=b.length then n else n+1)=l at d;have t:=d.sat.mem (a,li [] l) (by simp[Ew]);rw[BW]at r t;rw[P9];refine DT slot_list_sort.plain entry_list_sort (slot_list_sort.check _ _ _ _ _ _ _ _ ⟨_,r,rfl⟩ (args_list_sort _) ?_);rw[list_sort_plain];refine Af (listItems_at r rfl ?_);refine Af (listUpdate_at r rfl ?_ (by refine (?_:b.length≤_);rw[sizeLine_eq];(first|lia|omega)) (B7 _));refine Af (seqEpoch_at t rfl ?_);refine Af (wpAny_newTuple ?_ (by refine (?_:b.length≤_);rw[sizeLine_eq];(first|lia|omega)));refine Af (wpAny_newList ?_ (B7 _));refine Di ?_;have u:=d.trans (Ag.pushOut (o:={cls:=.type "tuple",data:=.seq (⟨b⟩:Array Value).toList.toArray}) d.sat rfl);have v:=u.trans (Ag.pushOut (o:={cls:=.type "list",data:=.seq ([]:List Value).toArray}) u.sat rfl);generalize F:({heap:=((s.heap.update a (Obj.mapSeq λ_=>(⟨[]⟩:Array Value))).push {cls:=.type "tuple",data:=.seq (⟨b⟩:Array Value).toList.toArray}).push {cls:=.type "list",data:=.seq ([]:List Value).toArray},gens:=s.gens,drawn:=s.drawn,toks:=s.toks,os:=s.os}:Ab)=B at v;have g:Ag (kt w) s B [(a,li b n)] [(a,li [] l)]:=v;refine(?_ :wpAny (model pw w) A.in1 _ _ _ B);have y:(⟨b⟩:Array Value).size<2:=z;rw[AS y,AS y];refine Af (Aq ?_);refine Af (m:=StateT.run (pure ()) _) (Aq ?_);have j:=g.sat.mem (a,li [] l) (by (first|((repeat(first|exact .head _|apply List.mem_cons_of_mem));done)|simp));have k:=g.sat.set (i:=0) rfl (f:=Obj.mapSeq λ_=>(⟨b⟩:Array Value)) (p:=(a,li [] l)) rfl;dsimp only at k j;rw[C]at k;rw[BW]at j;refine Af (seqEpoch_at j rfl ?_);have hz:(arrOf (SortSt.mk' general' ((⟨b⟩:Array Value).zip ⟨b⟩) #[] 7 none)).map (·.2)=(⟨b⟩:Array Value):=by
  show((⟨b⟩:Array Value).zip ⟨b⟩).map (·.2)=_;have: ∀c:List Value,((⟨c⟩:Array Value).zip ⟨c⟩).map (·.2)=⟨c⟩:=λc=>by
   apply Array.ext
   ·(first|((repeat(first|exact .head _|apply List.mem_cons_of_mem));done)|simp)
   ·intro i z G;(first|((repeat(first|exact .head _|apply List.mem_cons_of_mem));done)|simp)
  exact this b
 refine (?_:wpAny _ _ (Builtin.List.listUpdate (.ref a) (λ_=>(arrOf (SortSt.mk' general' ((⟨b⟩:Array Value).zip ⟨b⟩) #[] 7 none)).map (·.2))>>=_) _ _ B);rw[hz];refine Af (listUpdate_at j rfl ?_ (B7 _) (by refine (?_:b.length≤_);rw[sizeLine_eq];(first|lia|omega)));dsimp only;simp only[bne_self_eq_false,CZ,if_false];refine Aq ?_;have en:(if b.length=([]:List Value).length then l else l+1)=n+2*b.length:=by
  subst D;exact bE z
 rw[en]at k;exact E _ (g.trans k)
section
open PySem.F
theorem Vk:Slot "map" "__iter__" "map.__iter__":=
 .of (owner:="map") (n:="__iter__") (by rw[typeLookup_type,builtinLookup_eq_fast];kernel_rfl) (by decide+kernel) (by decide+kernel) (by decide+kernel)
  (by first|exact .inl (by decide+kernel)|exact .inr (by decide+kernel)) (by rw[isSubtype_type];kernel_rfl)
theorem bF:Slot "map" "__next__" "map.__next__":=
 .of (owner:="map") (n:="__next__") (by rw[typeLookup_type,builtinLookup_eq_fast];kernel_rfl) (by decide+kernel) (by decide+kernel) (by decide+kernel)
  (by first|exact .inl (by decide+kernel)|exact .inr (by decide+kernel)) (by rw[isSubtype_type];kernel_rfl)
theorem bG:entryFor table "map.__iter__"=some Builtin.«dict_keyiterator.__iter__»:=
 entryFor_alias (id':="dict_keyiterator.__iter__") (by kernel_rfl) (by first|rfl|decide+kernel|(unfold String.splitOn;simp+decide [String.splitOnAux])) (by decide+kernel) (by kernel_rfl)
theorem bH:Manifest.owners.lookup (String.ofList ['p','a','m'].reverse)=some Manifest.sig_map:=by kernel_rfl
theorem bI(a:Value):argsOk "map.__iter__" ⟨[a],[]⟩:=by
 unfold argsOk;rw[signature?_of (id:="map.__iter__") (n:=['_','_','r','e','t','i','_','_']) (o:=['p','a','m']) (by kernel_rfl) bH];kernel_rfl
theorem bJ:typeLookup (.type "map") "__len__"=pure none:=by rw[typeLookup_type,builtinLookup_eq_fast];kernel_rfl
theorem bK:typeLookup (.type "map") "__length_hint__"=pure none:=by rw[typeLookup_type,builtinLookup_eq_fast];kernel_rfl
theorem bL:P5= .type "map":=by
 refine (?_:Value.type s462964344163437139x3=_);rw[←e462964344163437139x3]
noncomputable abbrev mpO(a m:Nat):Obj:=fi P5 [.ref a,.ref m]
theorem bM{a:Program}{w:Aa}{A:Al}{E:Value→Ab→Prop}{s:Ab}{z:Addr}{Q:Value→Ab→Prop}(b:s.TypeIs (.ref z) "map")(h:Q (.ref z) s):wpAny (model a w) A (pyIter (.ref z)) Q E s:=by
 refine wpAny_pyIter_slot b Vk (wpAny_call_entry Vk b bG ?_ (bI _));refine (?_:wpAny _ _ (ret (.ref z)) _ _ s);exact Aq ⟨_,rfl,"map",_,b,bF.lookup,h⟩
theorem bN{w:Aa}{A:Al}{a c k m:Nat}{F:Ae}{z:Result→Ae→List Nat→Prop}
  (h:RunsW w A (.builtin "list.extend.loop" ⟨[.ref a,.ref c,.none],[]⟩) ((a,li [] 2)::(c,mpO k m)::F) z):
  RunsW w A (.call (.builtin Oq) ⟨[.ref a,.ref c],[]⟩) ((a,li [] 0)::(c,mpO k m)::F) z:=by
 refine Qr λs S R E=> ?_;rw[qN];have n:=S.mem (a,li [] 0) (by (first|((repeat(first|exact .head _|apply List.mem_cons_of_mem));done)|simp));have G:=S.mem (c,mpO k m) (by (first|((repeat(first|exact .head _|apply List.mem_cons_of_mem));done)|simp));have B:a≠c:=λe=>by
  have:=S.nd;simp[e]at this
 rw[BW]at n;have C:(mpO k m:Obj)={cls:=.type "map",data:=.fields #[.ref k,.ref m]}:=by
  refine (?_:Obj.mk P5 none _ _=_);rw[bL]
 rw[C]at G;have g:=S.set (i:=0) rfl (f:=Obj.mapSeq λ_=>(#[]:Array Value)) (p:=(a,li [] 0)) rfl;have H:Obj.mapSeq (λ_=>(#[]:Array Value)) (li [] 0)=li [] 0:=rfl;dsimp only at g;rw[H]at g;have j:=g.sat.set (i:=0) rfl (f:=Obj.mapSeq (·.push Value.none)) (p:=(a,li [] 0)) rfl;have I:Obj.mapSeq (·.push Value.none) (li [] 0)=li [.none] 1:=rfl;dsimp only at j;rw[I]at j;have l:=j.sat.set (i:=0) rfl (f:=Obj.mapSeq (·.pop)) (p:=(a,li [.none] 1)) rfl;have J:Obj.mapSeq (·.pop) (li [.none] 1)=li [] 2:=rfl;dsimp only at l;rw[J]at l;have t:=g.sat.mem (a,li [] 0) (by simp[Ew]);have u:=j.sat.mem (a,li [.none] 1) (by simp[Ew]);have v:=g.sat.mem (c,mpO k m) (by simp[Ew]);rw[BW]at t u;rw[C]at v;have o:Shared.TypeIs _ (.ref c) "map":=⟨_,v,rfl⟩
 have y:=(g.trans j).trans l;refine DT slot_list_init.plain entry_list_init (slot_list_init.check _ _ _ _ _ _ _ _ ⟨_,n,rfl⟩ (args_list_init_2 _ _) ?_);refine (?_:wpAny _ A.in1 (do let D←Builtin.List.listItems (.ref a);Builtin.List.listUpdate (.ref a) (λ_=> #[]);letGo D.toList.reverse;Builtin.List.listExtendWith (.ref a) (.ref c) .none) _ _ s);refine Af (listItems_at n rfl ?_);refine Af (listUpdate_at n rfl ?_ (B7 _) (B7 _));refine Af (wpAny_letGo ?_);unfold Builtin.List.listExtendWith;refine Af (wpAny_typeOf o ?_);have K:Builtin.List.listSameRef (.ref a) (.ref c)=false:=by simp[Builtin.List.listSameRef,B]
 have L:(Value.type "map"==Value.type "list")=false:=by decide
 have M:(Value.type "map"==Value.type "tuple")=false:=by decide
 simp only[K,L,M,Lw,CZ,if_false];refine Af (bM o ?_);refine Af (Di ?_);unfold Builtin.List.listLengthHint;refine Af (wpAny_specialOf o bJ ?_);refine (?_:wpAny _ A.in1 (specialOf (Value.ref c) (Str.ofString "__length_hint__")>>=_) _ _ _);refine Af (wpAny_specialOf o bK ?_);refine Aq ?_;refine (?_:wpAny _ A.in1 (rule "list.extend.makes-room">>=λ_=>Builtin.List.listTouch (.ref a)>>=λ_=>
  again (.builtin "list.extend.loop" ⟨[.ref a,.ref c,.none],[]⟩)) _ _ _)
 refine Af (FH ?_);refine Af ?_;refine (?_:wpAny _ A.in1 (updateSeq a (·.push .none)>>=λ_=>updateSeq a (·.pop)) _ _ _);refine Af (wpAny_updateSeq t rfl ?_ (B7 _) (by refine (?_:1≤_);rw[sizeLine_eq];(first|lia|omega)));refine wpAny_updateSeq u rfl ?_ (by refine (?_:1≤_);rw[sizeLine_eq];(first|lia|omega)) (B7 _);refine Aq ⟨plainId_quiet PySem.F.plain_extend_loop _,?_⟩;refine B4 (h _ y.sat) λr N hz=> ?_;obtain⟨O,P,a,b,d⟩:=hz;exact E r N O P a (y.trans b) d
end
section
noncomputable abbrev Mx(d:Nat)(v:Nat→Value):Obj:=⟨.ref 163,some d,.seq ⟨[v 0,v 1,v 2]⟩ 0,⟨[]⟩⟩
noncomputable abbrev Vl(v:Nat→Value):Obj:=tu [v 0,v 1,v 2] 0
noncomputable def Q4:List (Nat×(Nat→Value))→List Obj→List Obj
 |[],_=>[]
 |x::l,o=>Mx (Ao o 0) x.2::Q4 l (o.drop 1)
section
variable (S mp tt mm it l n:Nat)(xv:List (Nat×(Nat→Value)))
noncomputable abbrev Q5:Ae:=[(tt,tu [.ref it] 0),(mm,fi TC [.ref 117,.ref 163]),(it,liO l 0),(l,li (xv.map λx=>.ref x.1) n)]++xv.map λx=>(x.1,Vl x.2)
noncomputable def My:Ak:=
 {d:=580,u:=3600,h:=none,c:=.call (.builtin Oq) ⟨[.ref S,.ref mp],[]⟩,idx:=[],
  pre:=[(S,li [] 0),(mp,mpO tt mm)]++Q5 tt mm it l n xv,
  na:=xv.length,nt:=0,no:=xv.length,r:=λ_ _=>.ok (.ret .none),
  outs:=λa _ _=>[li (a.map .ref) (xv.length+2),mpO tt mm,tu [.ref it] 0,fi TC [.ref 117,.ref 163],fi Bo [.none,.int xv.length 0],li (xv.map λx=>.ref x.1) n]++xv.map λx=>Vl x.2,
  news:=λ_ _ o=>Q4 xv o}
noncomputable def Vm:List Nat:=[2,2,2,3,5,5,5,5,6,5,5]
noncomputable def Vn:Nat→Nat→List Nat
 |0,_=>Vm
 |k+1,a=>Vm++([2,4,0,0,0,a,a,0,a,a,0,1,0,0,a,a]++Cc 15 0++[a+1,0,0,a,a,0,0,a,a+3,0,0,0,a+3,0,a+3,1,a,1,1,1])++Vn k (a+4)
noncomputable def Vo(n:Nat):List Nat:=List.range (6+n)++(List.range n).map λj=>9+n+4*j
noncomputable def bO:List (List Nat→List Nat→List Obj→Ak):=xv.map λx _ _ _=>IM JJ x.1 (x.2 0) [x.2 1,x.2 2] 0
noncomputable def Mz(a:Nat→Nat)(i:Nat):List Nat:=(List.range xv.length).map λj=>a (i+4*j)
noncomputable abbrev bP(w:Aa):Prop:=AI w (28+121*xv.length) (.builtin Ua ⟨[.ref S,.ref mp,.none],[]⟩) ((S,li [] 2)::(mp,mpO tt mm)::Q5 tt mm it l n xv) (Vn xv.length (7+xv.length)++[8+5*xv.length]) (AE ((5,[6])::(List.range (xv.length-1)).map λj=>(8,[7+j])) (bO xv)) [] 99 580 3600 (Vo xv.length)
   (λa b c=>.done (.ret .none)) (λa b c=>Bk (My S mp tt mm it l n xv).pre ((My S mp tt mm it l n xv).outs (Mz xv a 3) [] [])++BH (Mz xv a 3) (Q4 xv ((Mz xv a 2).map Ac))) (8*xv.length)
end
theorem bQ{w:Aa}{S mp tt mm it l n:Nat}: ∀{xv:List (Nat×(Nat→Value))},0<xv.length→xv.length≤5→bP S mp tt mm it l n xv w
 |[_],_,_=>by kernel_rfl
 |[_,_],_,_=>by kernel_rfl
 |[_,_,_],_,_=>by kernel_rfl
 |[_,_,_,_],_,_=>by kernel_rfl
 |[_,_,_,_,_],_,_=>by kernel_rfl
 |[],h,_=>absurd h (by (first|((repeat(first|exact .head _|apply List.mem_cons_of_mem));done)|simp))
 |_::_::_::_::_::_::_,_,h=>absurd h (by (first|((repeat(first|exact .head _|apply List.mem_cons_of_mem));done)|simp))
end
theorem Vp{w:Aa}{a:Type}{f:a→List Nat→List Nat→List Obj→Ak}(h: ∀x b c d,Av w (f x b c d))(l:List a):DD w (l.map f):=λe g=>by
 obtain⟨x,_,rfl⟩:=List.mem_map.mp g;exact h x
theorem Vq{w:Aa}{S b c mm d l n:Nat}{a:List (Nat×(Nat→Value))}(h:0<a.length)(e:a.length≤5):Av w (My S b c mm d l n a):=by
 refine Ba.ext λA i j k=> ?_;refine (?_:RunsW w A (.call (.builtin Oq) ⟨[.ref S,.ref b],[]⟩) ((S,li [] 0)::(b,mpO c mm)::Q5 c mm d l n a) _);refine bN ?_;rw[←qP];exact Bf (bQ h e) [] k i j (AD _ _ (Vp (λ_ _ _ _=>UF UG (by (first|((repeat(first|exact .head _|apply List.mem_cons_of_mem));done)|simp))) a)) Ar (λg m o=>⟨Mz a g 3,(Mz a g 2).map Ac,(BY _).trans F9,rfl,(BY _).trans ((BY _).trans F9),rfl,rfl⟩) ((by decide: ∀n,n<6→BR (Vo n)=true) _ (F8 e))
section
noncomputable abbrev mS(bs:List (Nat×Nat))(c:List Nat)(e:List Obj):List BE:=HM 0 bs (c.drop 8) e
noncomputable def v3(a b c:Value):Nat→Value:=λi=>[a,b,c].getD i .none
noncomputable def KG:List (Nat×Nat)→List Obj→List Obj
 |[],_=>[]
 |c::l,o=>Mx (Ao o 0) (v3 (.int c.1 (Ao o 1)) (.int c.1 (Ao o 2)) (.int c.2 (Ao o 3)))::KG l (o.drop 4)
section
variable (w:Aa)(m d j2 bj bp t u:Nat)(kq a b g l g':Nat→Nat)(fb:Value)
noncomputable abbrev KH(P:Aj):Ae:=[(m,mO d),(d,AT P kq (AG a t) (AG b u) .none fb j2 bj bp),(bj,CD P),(j2,B2 P b g l)]++AZ l g'
noncomputable def MA(P:Aj)(m d j2 bj bp:Nat)(kq a b g l g':Nat→Nat)(fb:Value)(t u:Nat)(bs:List (Nat×Nat)):Ak:=
 {d:=550,u:=3200,h:=none,c:=.call (.ref 231) ⟨[.ref m],[]⟩,idx:=[],pre:=KH m d j2 bj bp t u kq a b g l g' fb P,
  na:=bs.length+2,nt:=0,no:=4*(bs.length+1),r:=λx _=>.ok (.ret (.ref (x.getD 0 0))),
  outs:=λx _ _=>[mO d,AT P kq (AG a t) (AG b u) (.ref (x.getD 0 0)) fb j2 bj bp,CD P,B2 P b g l]++(AZ l g').map (·.2),
  news:=λx _ o=>li (x.tail.map .ref) (bs.length+3)::KG (bs++[(8,0)]) o}
noncomputable def Q6(bs:List (Nat×Nat))(π:List Nat)(e c:List Nat):Ak:=Mw w.2 ⟨tk e 0,tk e 6,tk e 7,m,d,j2,bj,bp,tk c 8,tk c 5,t,u,λi=>[tk c 0,tk c 9,tk c 10,tk c 13,tk c 14].getD i 0,kq,a,b,g,l,g',fb⟩ (tk e 5) 0 0 (λi=>[tk c 11,tk c 5,tk c 12,tk c 8].getD i 0) bs π
noncomputable def gT(x t:Nat):List Nat:=Cc 5 t++x::Cc 6 t++x::Cc 6 t++x::Cc 6 t++[x,t,t]
noncomputable def Vr:List Nat:=[0,13,13,0,13,13,0,13,13]
noncomputable def Vs(x t:Nat):List Nat:=[x,0,0,0,x,0,0,0,x,0,0,0,1,x,0]++gT x t++(t+2)::Vr++[13,13,13,1,13,13]
noncomputable def Vt(s:Nat):List Nat:=[s,s,s,1,s]++gT s (s+1)++(s+3)::Vr
noncomputable def Vu:List Nat:=[0,0,0,13,13,0,1,13,1,0,0,0,1,0,0,0,1,1,0,2,0,0,13,1,0,0,0,1,0,0,0,1,1,0,2,0,0,13,1,0,0,0,1,0,0,0,1,1,0,2,14,14,14,1,14,15,15,15,15,15,14,15,15,15,15,15,15,14,15,15,15,15,15,15,14,15,15,17,0,13,13,0,13,13,13,13,0,13,13,0,13,13,13,20,20,20,20,0,13,13,0,13,13,0,13,13,0,13,13,13,20,20,1,20]
noncomputable def Vv(z a:Nat)(y:List Nat):List Nat:=let q:=Cc 4 a;z::13::13::q++y++q++Cc 16 0++[13,a,a,1,a]
noncomputable def Vw(z:Nat):List Nat:=[z,z+2,z+2,z+2,z+2,z+3,z+3,13,1,0,0,0,1,0,1,0,1,0,0,0,1,0,0,2,2,2,13,1,0,0,0,1,0,0,0,1,1,0,2]
noncomputable def Vx(b:Nat):Nat→Nat→Nat→List Nat
 |0,_,_=>[]
 |k+1,x,t=>b::Vs x t++(let q:=Cc 4 (b-1);q++[13,13,13]++q++[13,13,13])++Vt (t+4)++[b,b,b,b,20,b,b]++Vx b k (x+2) (t+8)
noncomputable abbrev bR:Prop:=AI w 418 (.call (.ref 231) ⟨[.ref m],[]⟩) (KH m d j2 bj bp t u kq a b g l g' fb w.2) (Vu++[22,22,22,22,22,20,22,22]++Vv 24 21 [13,13]++Vw 27) (AE [(11,[12,18,19,0,1,2,3,4,5,6,7,8,9,10,11,17]),(0,[19]),(12,[]),(0,[29,28,27,25,26,20,24])] [λc i j=>Q6 w m d j2 bj bp t u kq a b g l g' fb [] [] c i,λc i j=>Q3 (tk c 7) (Ao j 21) [],λc i j=>Q1 (.ref (tk c 16)),λc i j=>My (tk c 17) (tk c 16) (tk c 15) (tk c 13) (tk c 14) (tk c 8) 1 [(tk c 12,v3 (.int 8 (tk i 5)) (.int 8 (tk i 8)) (Bu (tk i 20)))]]) [] 1 550 3200 [0,1,2,3,4,5,6,7,8,9,10,11,29,30]
   (λh k n=>.done (.ret (.ref (h 17)))) (λh k n=>let e:=MA w.2 m d j2 bj bp kq a b g l g' fb t u [];Bk e.pre (e.outs [h 17,h 18] [] [])++BH [h 17,h 18] (e.news [h 17,h 18] [] [n 22,Ac (k 5),Ac (k 8),Ac (k 20)])) 25
theorem bS:bR w m d j2 bj bp t u kq a b g l g' fb:=by
 kernel_rfl
noncomputable abbrev l1{c:Type}(l:List (Nat×Nat))(x y:c):c:=match l with
 |[]=>x
 |_=>y
noncomputable def gX(T G A:Nat→Nat)(fin:Nat→Value):Nat→Nat→(Nat→Value)→List (Nat×Nat)→List (Nat×(Nat→Value))
 |i,_,v,[]=>[(A (i-1),v),(A i,fin)]
 |i,k,v,c::l=>(A i,v)::gX T G A fin (i+8) (k+3) (v3 (.int c.1 (G k)) (.int c.1 (G (k+1))) (.int c.2 (G (k+2)))) l
noncomputable def gI:Nat→Nat→List Nat
 |i,0=>[i-1,i]
 |i,k+1=>i::gI (i+8) k
noncomputable def Q7:Nat→Nat→List (Nat×Nat)→List (List Nat→List Nat→List Obj→Value×Value)
 |_,z,[]=>[λ_ _ _=>(.bool ((z:Int) != 0),.bool true)]
 |p,z,c::l=>(λ_ _ _=>(.bool (decide ((p:Int)+z=c.1)),.bool false))::(λ_ _ _=>(.bool ((z:Int) != 0),.bool true))::Q7 c.1 c.2 l
variable (f:Bool)(p z:Nat)(bs:List (Nat×Nat))(π:List Nat)
noncomputable def bT(n:Nat):List (List Nat→List Nat→List Obj→Ak):=[λc e h=>Q6 w m d j2 bj bp t u kq a b g l g' fb ((cond f 0 p,z)::bs) π c e,λc e h=>l1 bs (Q3 (tk c 7) (Ao h 21) [.ref (tk c 8)]) (U9 (tk c 7) (Ao h 21) (mS ((cond f 0 p,z)::bs) c h) π),λc e h=>Q1 (.ref (tk c (n-1))),λc e h=>My (tk c n) (tk c (n-1)) (tk c (n-2)) (tk c (n-4)) (tk c (n-3)) (tk c (10+2*bs.length)) (bs.length+2) (gX (tk e) (Ao h) (tk c) (v3 (.int 8 (tk e 5)) (.int 8 (tk e 8)) (.int 0 (tk e (27+7*bs.length)))) (22+2*bs.length-cond f 4 0) 25 (cond f (v3 (Bu (tk e 15)) (Bu (tk e 15)) (.int z (tk e 25))) (v3 (.int p (Ao h 22)) (.int p (Ao h 23)) (.int z (Ao h 24)))) bs)]
noncomputable def bU:List (List Nat→List Nat→List Obj→Value×Value):=(λ_ c _=>cond f (.int ((0:Int)+z) (tk c 25),.int (z:Nat) (tk c 25)) (.bool (decide ((0:Int)+0=p)),.bool false))::Q7 (cond f 0 p) z bs
noncomputable def OY(c:Nat→Nat):List Nat:=(List.range' (27+10*bs.length-cond f 4 0) (bs.length+3)).map c
noncomputable def Q8(e:Nat→Nat)(c:Nat→Obj):List Obj:=c (25+3*bs.length)::cond f [Ac (e 15),Ac (e 15),Ac (e 25)] [c 22,c 23,c 24]++((List.range bs.length).flatMap λj=>[c (26+3*bs.length+j),c (25+3*j),c (26+3*j),c (27+3*j)])++[c (26+4*bs.length),Ac (e 5),Ac (e 8),Ac (e (27+7*bs.length))]
noncomputable def bV(n:Nat):List Nat:=let b:=24+2*n;let z:=33+10*n-cond f 4 0;Vu++Cc 5 b++20::Cc 3 b++Vs 21 (b+1)++cond f [13,1,13,13,0,13,13] (13::13::Vt (b+4))++[b,b,b,b,20,b,b]++Vx b n 23 (b+8-cond f 4 0)++Vv z (b-1) ([13,13,13]++Cc 4 (b-1)++13::Cc 4 (b-1)++[13,13])++Vw (z+4)
noncomputable abbrev MB:Prop:=AI w (cond f 593 651+233*bs.length) (.call (.ref 231) ⟨[.ref m],[]⟩) (KH m d j2 bj bp t u kq a b g l g' fb w.2) (bV f bs.length) (AE [(11,[12,18,19,0,1,2,3,4,5,6,7,8,9,10,11,17]),(0,19::l1 bs [] (List.range' 20 (bs.length+1) 2)),(27+15*bs.length-cond f 3 0,[]),(0,let r:=39+10*bs.length-cond f 4 0;[r,r-1,r-2,r-4,r-3,22+2*bs.length]++gI (34+2*bs.length-cond f 4 0) bs.length)] (bT w m d j2 bj bp t u kq a b g l g' fb f p z bs π (27+10*bs.length-cond f 4 0))) (Bh (cond f (20::l1 bs [0] (6::0::(Cc (bs.length-1) [11,0]).flatten++[5])) (17::(Cc bs.length [11,0]).flatten++[5])) (bU f p z bs)) 1 550 3200 (List.range 12++List.range' (39+10*bs.length-cond f 4 0) (bs.length+3))
   (λc h i=>.done (.ret (.ref (c (27+10*bs.length-cond f 4 0))))) (λc h i=>let e:=MA w.2 m d j2 bj bp kq a b g l g' fb t u ((cond f 0 p,z)::bs);Bk e.pre (e.outs (OY f bs c) [] [])++BH (OY f bs c) (e.news (OY f bs c) [] (Q8 f bs h i))) (32+7*bs.length)
theorem bW:MB w m d j2 bj bp t u kq a b g l g' fb f p z [] [0]:=by
 revert f;exact Ek (by kernel_rfl)
theorem bX(c0:Nat×Nat):MB w m d j2 bj bp t u kq a b g l g' fb f p z [c0] π:=by
 revert f;exact Ek (by kernel_rfl)
theorem bY(c0 c1:Nat×Nat):MB w m d j2 bj bp t u kq a b g l g' fb f p z [c0,c1] π:=by
 revert f;exact Ek (by kernel_rfl)
theorem bZ(c0 c1 c:Nat×Nat):MB w m d j2 bj bp t u kq a b g l g' fb f p z [c0,c1,c] π:=by
 revert f;exact Ek (by kernel_rfl)
theorem cA: ∀bs:List (Nat×Nat),bs.length≤3→MB w m d j2 bj bp t u kq a b g l g' fb f p z bs (l1 bs [0] π)
 |[],_=>bW w m d j2 bj bp t u kq a b g l g' fb f p z
 |[c0],_=>bX w m d j2 bj bp t u kq a b g l g' fb f p z π c0
 |[c0,c1],_=>bY w m d j2 bj bp t u kq a b g l g' fb f p z π c0 c1
 |[c0,c1,c],_=>bZ w m d j2 bj bp t u kq a b g l g' fb f p z π c0 c1 c
 |_::_::_::_::_,h=>absurd h (by (first|((repeat(first|exact .head _|apply List.mem_cons_of_mem));done)|simp))
end
end
theorem Vy: ∀(a:List (Nat×Nat)) (i:Nat) (x:List Nat) (o:List Obj),(HM i a x o).map (·.p)=a.map (·.1)
 |[],_,_,_=>rfl
 |c::l,i,x,o=>Am (c.1:: ·) (Vy l (i+1) x o)
theorem Q9{T G A:Nat→Nat}{fin:Nat→Value}: ∀{a:List (Nat×Nat)} {i k:Nat} {v:Nat→Value},(gX T G A fin i k v a).length=a.length+2
 |[],_,_,_=>rfl
 |_::_,_,_,_=>Am (· +1) Q9
theorem Vz{m p z:Nat}{l:List (Nat×Nat)}(h:HK m ((p,z)::l)=true):m≤p∧0<z∧HK (p+z+1) l=true:=by
 unfold HK at h;simp only[Fo,Nat.ble_eq,Nat.blt_eq]at h;exact⟨h.1.1.1,h.1.1.2,h.2⟩
theorem VA{z:Nat}(h:0<z):Value.bool ((z:Int) != 0)= .bool true:=Am Value.bool (bne_iff_ne.mpr (Int.ofNat_ne_zero.mpr (EY h)))
theorem VB: ∀(l:List (Nat×Nat)) (p z:Nat),0<z→HK (p+z+1) l=true→E8 (Q7 p z l)
 |[],_,_,h,_=>Az (λ_ _ _=>VA h) Bp
 |(q,y)::l,p,z,h,k=>by
  obtain⟨a,b,c⟩:=Vz k;exact Az (λ_ _ _=>Am Value.bool (BQ λe:(p:Int)+z=q=>absurd (Int.ofNat.inj e) (CN a))) (Az (λ_ _ _=>VA h) (VB l q y b c))
theorem cB{w:Aa}{m d y C D:Nat}{E a b g l F:Nat→Nat}{G:Value}{t u:Nat}(L:Lt a)(M:Lt b):Av w (MA w.2 m d y C D E a b g l F G t u (B3 a b)):=by
 obtain⟨ρ,s,N,H,O⟩:=aV a b;have P: ∀J T,Av w (Q6 w m d y C D t u E a b g l F G (B3 a b) s J T):=λ_ _=>bD L M N H λB U=>O _ _ B U;obtain⟨o,j,V⟩:=OX a b;clear N O V L M;generalize B3 a b=W at*;refine Ba.ext λA Q R S=> ?_;cases W with
 |nil=>
  have e:s=[]:=List.perm_nil.mp H;subst e;exact Bf (bS w m d y C D t u E a b g l F G) [] S Q R (AD _ _ (Ah (λ_ _ _=>P _ _) (Ah (λ_ _ _=>Vj (by decide)) (Ah (λ_ _ _=>Vi) (Ah (λ_ _ _=>Vq (Jk _) (Ef rfl)) AC))))) Ar λI v K=>⟨[I 17,I 18],[K 22,Ac (v 5),Ac (v 8),Ac (v 20)],rfl,rfl,rfl,rfl,rfl⟩
 |cons c i=>
  obtain⟨p,z⟩:=c;have X:=(aU o).2;replace o:=(Vz o).2;obtain⟨Y,o⟩:=o;replace j:i.length≤3:=Nat.le_of_succ_le_succ j;obtain⟨f,r,e,Z⟩:B5 λf r=>p=cond f 0 r∧(f=false→r≠0):=by
   by_cases h:p=0
   ·exact⟨true,0,h,λe=>nomatch e⟩
   ·exact⟨false,p,rfl,λ_=>h⟩
  subst e;have e:l1 i [0] s=s:=by
   cases i with
   |nil=>exact(List.perm_singleton.mp H).symm
   |cons=>rfl
  have k:=cA w m d y C D t u E a b g l F G f r z s i j;rw[e]at k;refine Bf k [] S Q R (AD _ _ (Ah (λ_ _ _=>P _ _) (Ah (λJ _ gh=> ?_) (Ah (λ_ _ _=>Vi) (Ah (λ_ _ _=>Vq (by rw[Q9];exact Jk _) (by rw[Q9];exact Cz j 2)) AC))))) (Bi _ _ (Az (λ_ _ _=> ?_) (VB i _ z Y o))) (λI v K=>⟨OY f i I,Q8 f i v K,(BY _).trans List.length_range',rfl,?_,rfl,rfl⟩) ((by decide: ∀n,n<4→ ∀f,BR (List.range 12++List.range' (39+10*n-cond f 4 0) (n+3))=true) _ (F8 j) f)
  ·cases i with
   |nil=>exact Vj (Hm 1)
   |cons c i=>
    have q:=Vy ((cond f 0 r,z)::c::i) 0 (J.drop 8) gh;have n:=Am Iu q;rw[BY,BY]at n;exact aK (by rw[n];exact H) (List.pairwise_map.mp (q▸List.pairwise_map.mpr X)) (by rw[n];exact Nat.le_add_left 2 _) (by rw[n];exact CM (Cz j 1) (by decide))
  ·cases f with
   |true=>exact Am (λx=>Value.int x _) (Int.zero_add _)
   |false=>exact Am Value.bool (BQ λe:(0:Int)+0=r=>Z rfl (Int.ofNat.inj e).symm)
  ·have q:((List.range i.length).map λ_=>4).sum=4*i.length:=(by decide: ∀n,n<4→((List.range n).map λ_=>4).sum=4*n) _ (F8 j)
   unfold Q8;rw[EX,EX,List.length_flatMap];refine(Am (λn=>_+n+_) q).trans ?_;cases f <;> exact Am (· +4) (Nat.add_comm 4 _)
set_option maxHeartbeats 4000000
noncomputable abbrev FN:List Stmt:=AN (EK 6 10)
noncomputable abbrev BU(f:Nat):Env:={scope:=EH (EK 6 10),locals:=f,globals:=3,cells:=[],qual:=⟨⟨[83,101,113,117,101,110,99,101,77,97,116,99,104,101,114,46,114,97,116,105,111,46,60,108,111,99,97,108,115,62,46]⟩⟩,func:=some 253,code:=.ref 252,frame:=some f,builtins:=0}
noncomputable abbrev OZ:Stmt:=AB FN 0
noncomputable abbrev HN:Stmt:=AB FN 1
noncomputable abbrev VC:Stmt:=AB FN 2
noncomputable abbrev HO:Expr:=A9 (Kh HN) 0
noncomputable abbrev IT:Expr:=A9 (Kh HN) 1
noncomputable abbrev IU:Expr:=A9 (Br HO) 0
noncomputable abbrev Fw:Expr:=A9 (Br HO) 1
noncomputable abbrev Fx:Expr:=A9 (Br Fw) 0
noncomputable abbrev JO:Expr:=A9 (Br Fw) 1
noncomputable abbrev G3:Expr:=A9 (Br Fw) 2
noncomputable abbrev Ec:Scope:=Fq Fw
theorem cC:FN=[OZ,.Assign [.Name Hz (gP IT)] (.Call (.Name HB (gP IU)) [.GeneratorExp Fx [⟨.Name Gh (gP JO),G3,[],0⟩] Ec (gP Fw)] [] (gP HO)) (sP HN),VC]:=by kernel_rfl
noncomputable def trIter(f:Nat):Sem AA:=eval G3 (BU f)>>=λv=>pure (.done (.ret v))
noncomputable def trPyIter(v:Value):Sem AA:=pyIter v>>=λv=>pure (.done (.ret v))
noncomputable def trCode(f:Nat):Sem AA:=genexprCode (BU f) (gP Fw) ((BU f).qual++"<genexpr>") Ec>>=λv=>pure (.done (.ret v))
noncomputable def trBi(f:Nat):Sem AA:=builtinsFor (BU f).globals (BU f).builtins>>=λv=>pure (.done (.ret (.ref v)))
noncomputable def trSum(f:Nat):Sem AA:=eval (.Name HB (gP IU)) (BU f)>>=λv=>pure (.done (.ret v))
noncomputable def trDoc(f:Nat):Sem AA:=exec OZ (BU f)>>=λv=>pure (.done v)
noncomputable def MC(f:Nat)(v:Value):Sem Flow:=do
 let a←(do standAt (gP IT);bindName (BU f) Hz v;pure Flow.next)
 match a with
 | .next=>execs [VC] (BU f)
 |g=>pure g
noncomputable def trTail(f:Nat)(v:Value):Sem AA:=MC f v>>=λv=>pure (.done v)
noncomputable abbrev VD:Expr:=A9 (Br Fx) 0
noncomputable abbrev Ra:Expr:=A9 (Br Fx) 1
theorem cD:Fx= .Subscript (.Name Gh (gP VD)) Ra (gP Fx):=by kernel_rfl
noncomputable def cE(a:Env)(o:Value):Sem Value:=do
 let i←holding [o] (eval Ra a)
 standAt (gP Fx)
 let r←subscripted Ra (←getitemInPython o) o i
 letTemporaryGo (.Name Gh (gP VD)) o r
 pure r
noncomputable def trSub(C:Nat)(code:Value)(a:Addr)(f x:Nat):Sem AA:=cE (genEnv Ec [] C code a (BU f)) (.ref x)>>=λv=>pure (.done (.ret v))
lay_quick trIter trPyIter trCode trBi trSum trDoc trTail trSub
set_option maxHeartbeats 400000
section
noncomputable abbrev AP(c:List Value):Obj:=⟨.none,none,.fields ⟨c⟩,⟨[]⟩⟩
noncomputable abbrev DF(P:Aj)(e m:Nat):Obj:=fr [Ap P HA e (.ref m)] 1
noncomputable def VE(P:Aj)(m d l:Nat)(q:Nat→Nat)(a b:Nat→Nat)(t u:Nat)(fb:Value)(j2 bj bp:Nat):Ak:=IG (.call (.ref 231) ⟨[.ref m],[]⟩) [(m,mO d),(d,AT P q (AG a t) (AG b u) (.ref l) fb j2 bj bp)] (.ref l)|>λe=>{e with d:=550,u:=3200}
theorem cF(w:Aa)(m d l:Nat)(q:Nat→Nat)(a b:Nat→Nat)(t u:Nat)(fb:Value)(j2 bj bp:Nat):
  AI w 59 (.call (.ref 231) ⟨[.ref m],[]⟩) ([(m,mO d),(d,AT w.2 q (AG a t) (AG b u) (.ref l) fb j2 bj bp)]) (dg 4 0x40f1d01014b404052) [] [] 1 550 3200 [0,1]
   (λc h i=>.done (.ret (.ref l))) (λc h i=>[(m,mO d),(d,AT w.2 q (AG a t) (AG b u) (.ref l) fb j2 bj bp)]) 4:=by
 kernel_rfl
theorem VF(w:Aa)(m:Nat):
  AI w 14 (.call (.ref 253) ⟨[.ref m],[]⟩) ([]) [0,0,0,1,1,0,1] [] [] 0 520 3000 [0]
   (λc h i=>.again (.func FN (BU (c 0)))) (λc h i=>[(c 0,DF w.2 (h 0) m)]) 1:=by
 kernel_rfl
theorem cG(w:Aa)(f:Nat):
  AF w 8 (tw4522679141434849561 f) ([]) [] [] [] 540 3100 []
   (λc h i=>.done .next) (λc h i=>[]) 1:=by
 kernel_rfl
theorem cH(w:Aa)(f e m:Nat):
  AF w 9 (tw934501407238740123 f) ([(f,DF w.2 e m)]) [0,0] [] [] 540 3100 [0]
   (λc h i=>.done (.ret (.builtin LZ))) (λc h i=>[(f,fr [Ad w HA e (.ref m)] 1)]) 0:=by
 kernel_rfl
structure MI where
 x:Nat
 dx:Nat
 v0:Value
 v1:Value
 z:Nat
 tz:Nat
noncomputable def Gp(i:MI):Obj:=Mx i.dx (v3 i.v0 i.v1 (.int i.z i.tz))
noncomputable def ER(c:List MI):Ae:=c.map λi=>(i.x,Gp i)
noncomputable abbrev CI(c:List MI):List Value:=c.map λi=>Value.ref i.x
noncomputable def HP:List MI→Nat
 |[]=>0
 |i::l=>i.z+HP l
noncomputable def KI(A G:Nat→Nat):Nat→Nat→List (Nat×Nat)→List MI
 |_,_,[]=>[]
 |j,k,c::l=>⟨A j,G k,.int c.1 (G (k+1)),.int c.1 (G (k+2)),c.2,G (k+3)⟩::KI A G (j+1) (k+4) l
theorem Rb(A G:Nat→Nat): ∀(bs:List (Nat×Nat)) (j k:Nat),HP (KI A G j k (bs++[(8,0)]))=G2 bs
 |[],_,_=>rfl
 |c::l,j,k=>Am (c.2+ ·) (Rb A G l (j+1) (k+4))
theorem VG(A G:Nat→Nat): ∀(bs:List (Nat×Nat)) (j k:Nat),(KI A G j k bs).length=bs.length
 |[],_,_=>rfl
 |_::l,j,k=>Am (· +1) (VG A G l (j+1) (k+4))
theorem VH(A:Nat→Nat)(h:Nat→Obj): ∀(bs:List (Nat×Nat)) (j k:Nat),(KI A (λi=>BP (h i)) j k bs).map Gp=KG bs ((List.range' k (4*bs.length)).map h)
 |[],_,_=>rfl
 |c::l,j,k=>Am (Gp _:: ·) (VH A h l (j+1) (k+4))
section
variable (w:Aa)(f e m d j2 bj bp t u:Nat)(kq a b g l g':Nat→Nat)(fb:Value)(bs:List (Nat×Nat))
noncomputable def VI(c:Nat→Nat)(h:Nat→Obj):List MI:=KI c (λi=>BP (h i)) 1 0 (bs++[(8,0)])
noncomputable abbrev cI:Prop:=AF w 29 (tw10031696195161836380 f) ((f,DF w.2 e m)::KH m d j2 bj bp t u kq a b g l g' fb w.2) [1,2,0,0,0,2,0,0,0,2,0,0,0,0,2,3,0] (AE [(0,[1,2,3,4,5,6,7,8,9,10,11,12])] [λ_ _ _=>MA w.2 m d j2 bj bp kq a b g l g' fb t u bs]) [] 540 3100 ([13,0,1,2]++List.range' 14 (bs.length+1)++[3,4,5,6,7,8,9,10,11,12])
   (λc i h=>.done (.ret (.ref (c 0)))) (λc i h=>(c 0,li (CI (VI bs c h)) (bs.length+3))::(f,DF w.2 e m)::([(m,mO d),(d,AT w.2 kq (AG a t) (AG b u) (.ref (c 0)) fb j2 bj bp)]++(ER (VI bs c h)++([(bj,CD w.2),(j2,B2 w.2 b g l)]++AZ l g')))) 0
theorem cJ: ∀bs:List (Nat×Nat),bs.length≤4→cI w f e m d j2 bj bp t u kq a b g l g' fb bs
 |[],_=>by kernel_rfl
 |[_],_=>by kernel_rfl
 |[_,_],_=>by kernel_rfl
 |[_,_,_],_=>by kernel_rfl
 |[_,_,_,_],_=>by kernel_rfl
 |_::_::_::_::_::_,h=>absurd h (by (first|((repeat(first|exact .head _|apply List.mem_cons_of_mem));done)|simp))
end
theorem cK(w:Aa)(f e m d l:Nat)(q:Nat→Nat)(a b:Nat→Nat)(t u:Nat)(fb:Value)(j2 bj bp:Nat):
  AF w 29 (tw10031696195161836380 f) ([(f,DF w.2 e m),(m,mO d),(d,AT w.2 q (AG a t) (AG b u) (.ref l) fb j2 bj bp)]) (dg 4 23630741548) (AE [(0,[1,2])] ([λj k n=>VE w.2 m d l q a b t u fb j2 bj bp])) [] 540 3100 [0,1,2]
   (λc h i=>.done (.ret (.ref l))) (λc h i=>[(f,DF w.2 e m),(m,mO d),(d,AT w.2 q (AG a t) (AG b u) (.ref l) fb j2 bj bp)]) 0:=by
 kernel_rfl
theorem cL(w:Aa)(l n:Nat)(h:List Value):
  AF w 15 (tw1895007636148923766 (.ref l)) ([(l,li h n)]) [1,1,1,1,2] [] [] 540 3100 [0,1]
   (λc i j=>.done (.ret (.ref (c 0)))) (λc i j=>[(l,li h n),(c 0,liO l 0)]) 0:=by
 kernel_rfl
noncomputable abbrev Rc(a:Nat):=[(248,AP [.int 411 0,.int 22 0,.ref a])]
theorem cM(w:Aa)(f:Nat):
  AF w 19 (tw11439811130977472393 f) ([(248,AP [])]) [0,1,1,1,1] [] [] 540 3100 [0]
   (λc h i=>.done (.ret (.ref (c 2)))) (λc h i=>(Rc (c 2))) 5:=by
 kernel_rfl
theorem cN(w:Aa)(f c:Nat):
  AF w 8 (tw11439811130977472393 f) (Rc c) [0,1] [] [] 540 3100 [0]
   (λh i j=>.done (.ret (.ref c))) (λh i j=>(Rc c)) 0:=by
 kernel_rfl
theorem cO(w:Aa)(f:Nat):
  AF w 8 (tw6614478055894812977 f) ([]) [0,0] [] [] 540 3100 []
   (λc h i=>.done (.ret (.ref 0))) (λc h i=>[]) 0:=by
 kernel_rfl
theorem cP(w:Aa)(f e m d k c:Nat)(q:Nat→Nat)(a b:Nat→Nat)(t u:Nat)(h fb:Value)(j2 bj bp:Nat):
  AF w 93 (tw14053590656718986233 f (.int k c)) ([(f,DF w.2 e m),(m,mO d),(d,AT w.2 q (AG a t) (AG b u) h fb j2 bj bp)]) (dg 4 0x114418080a30602028c) (AE [(7,[])] ([λr j s=>OA k c (tk j 7)])) [] 540 3100 [1,2]
   (λn i o=>.done (.ret (.float (Bl k) (i 8)))) (λn i o=>[(m,mO d),(d,AT w.2 q (AG a t) (AG b u) h fb j2 bj bp)]) 9:=by
 kernel_rfl
theorem cQ(w:Aa)(C:Nat)(code:Value)(h:Nat)(f x i j c:Nat)(v:Nat→Value):
  TB w 29 (tw11817400135307499448 C code h f x) ([(x,Mx c v)]) [1,0,0,0,1,0,1,0,0,0,1,0,1] [] [] i j [0]
   (λk n o=>.done (.ret (v 2))) (λk n o=>[(x,Mx c v)]) 2:=by
 kernel_rfl
end
theorem Ag.part{kt:KT}{s b:Ab}{L La a:Ae}(F:Ae)(S:An kt s L)(h:(La++F).Perm L)(x:Ag kt s b La a):Ag kt s b L (a++F):=(x.frame (S.permS h.symm)).permL h
theorem An.part{kt:KT}{s:Ab}{L La:Ae}(F:Ae)(S:An kt s L)(h:(La++F).Perm L):An kt s La:=(S.permS h.symm).left
theorem cR(val:Nat→Int): ∀(a:List MI) (k:Nat),(∀i (h:i<a.length),val (k+i)=a[i].z)→preSum val (k+a.length)=preSum val k+HP a:=by
 intro a
 induction a with
 |nil=>intro k _;simp[HP]
 |cons m a c=>
  intro k h;have b:=h 0 (by (first|((repeat(first|exact .head _|apply List.mem_cons_of_mem));done)|simp));have e:k+(m::a).length=(k+1)+a.length:=by (first|((repeat(first|exact .head _|apply List.mem_cons_of_mem));done)|simp);(first|lia|omega)
  rw[e,c (k+1) λi d=>by
   have:=h (i+1) (by (first|((repeat(first|exact .head _|apply List.mem_cons_of_mem));done)|simp);(first|lia|omega));rw[show k+(i+1)=k+1+i by (first|lia|omega)]at this;simpa using this]
  refine (?_:preSum val k+val k+_=_);rw[show k+0=k from rfl]at b;rw[b];simp[HP];(first|lia|omega)
theorem cS(n:Nat):passing (λ_=>true) n 0=List.range n:=by
 unfold passing;(first|((repeat(first|exact .head _|apply List.mem_cons_of_mem));done)|simp)
theorem cT{g:Nat}{a b:Array GenState}(h:GenOnlyQ g a b)(d: ∀x,a[g]? =some x→x.bare=true):PS g a b:=by
 rcases h with rfl|⟨c,e⟩
 ·exact⟨rfl,λ_ _=>rfl,d⟩
 ·exact⟨c.1,c.2,e⟩
theorem cU(f:Nat):swapsWith (.Call (.Name HB (gP IU)) [.GeneratorExp Fx [⟨.Name Gh (gP JO),G3,[],0⟩] Ec (gP Fw)] [] (gP HO)) (some (.Name Hz (gP IT))) (sP HN).line (BU f)=pure false:=rfl
theorem cV(f:Nat):exec (.Assign [.Name Hz (gP IT)] (.Call (.Name HB (gP IU)) [.GeneratorExp Fx [⟨.Name Gh (gP JO),G3,[],0⟩] Ec (gP Fw)] [] (gP HO)) (sP HN)) (BU f)=(do
   standAt (sP HN)
   if←swapsWith (.Call (.Name HB (gP IU)) [.GeneratorExp Fx [⟨.Name Gh (gP JO),G3,[],0⟩] Ec (gP Fw)] [] (gP HO)) (some (.Name Hz (gP IT))) (sP HN).line (BU f)then
    evalThenUse (.Call (.Name HB (gP IU)) [.GeneratorExp Fx [⟨.Name Gh (gP JO),G3,[],0⟩] Ec (gP Fw)] [] (gP HO)) (BU f) (assign (.Name Hz (gP IT)) (BU f))
    return .next
   let v←eval (.Call (.Name HB (gP IU)) [.GeneratorExp Fx [⟨.Name Gh (gP JO),G3,[],0⟩] Ec (gP Fw)] [] (gP HO)) (BU f)
   standAt (gP IT)
   bindName (BU f) Hz v
   pure .next):=rfl
theorem cW(f:Nat):execs FN (BU f)=(do
   let a←exec OZ (BU f)
   match a with
   | .next=>do
    standAt (sP HN)
    let v←eval (.Call (.Name HB (gP IU)) [.GeneratorExp Fx [⟨.Name Gh (gP JO),G3,[],0⟩] Ec (gP Fw)] [] (gP HO)) (BU f)
    MC f v
   |g=>pure g):=by
 rw[cC];show(exec OZ (BU f)>>=λa=>_)=_;congr 1;funext a;cases a with
 |next=>
  show(exec (.Assign [.Name Hz (gP IT)] _ (sP HN)) (BU f)>>=λa=>_)=_;rw[cV,cU];simp only[bind_assoc,pure_bind,CZ,if_false,MC]
 |_=>rfl
theorem cX:Ec.isCoroutine=false:=by kernel_rfl
theorem cY(f:Nat):closureFor Ec (BU f)=pure []:=by kernel_rfl
theorem cZ: ∀y∈Ec.names,y.2≠NameKind.cell:=by
 have h:(Ec.names.all λy=>decide (y.2≠NameKind.cell))=true:=by kernel_rfl
 intro y a;exact of_decide_eq_true (List.all_eq_true.mp h y a)
theorem dC:Ec.names.lookup (".0":Str)=some NameKind.local:=by kernel_rfl
theorem dD:Ec.names.lookup Gh=some NameKind.local:=by kernel_rfl
theorem VJ:Ec.kind= .function:=by kernel_rfl
theorem dE(f:Nat)(x:Value):genFold G3 (BU f) x=pure x:=by kernel_rfl
theorem dF{a:List MI}{x:MI}(h:x∈a):(x.x,Gp x)∈ER a:=B6 h
theorem An.ne_head{kt:KT}{s:Ab}{I:Nat}{o:Obj}{L:Ae}(S:An kt s ((I,o)::L)){p:Addr×Obj}(h:p∈L):p.1≠I:=λe=>(List.nodup_cons.mp S.nd).1 (e▸B6 (f:=(·.1)) h)
theorem dG{w:Aa}{f c I:Nat}{o:Obj}{L:Ae}{s:Ab}{l:List MI}(S:An (kt w) s ((I,o)::L))(K: ∀x∈l,(x.x,Gp x)∈L){m:Heap}(M: ∀b o,s.heap.get? b=some o→m.get? b=some o):
  QuietGen pw w (genEnv Ec [] s.heap.objs.size (.ref c) 0 (BU f)) Gh [] Fx (List.range s.heap.objs.size) [I] (λi v=>(⟨CI l⟩:Array Value)[i]? =some v) (λ_=>true) (λi y=>B5 λ (x:MI) (t:Nat)=>l[i]? =some x∧y=Value.int x.z t) m:=by
 refine⟨λD Q i v d E B F G j n=>Aq ⟨rfl,d.heap,d.toks,rfl,λ_ _ e=>e⟩,λD Q i v d E B F _ G j n=> ?_⟩;have r: ∀a o,(∃p∈L,p=(a,o))∨(kt w).get a=some o→d.heap.get? a=some o:=λa o h=>by
  have k:s.heap.get? a=some o∧a≠I:=by
   rcases h with⟨p,g,rfl⟩|h
   ·exact⟨S.mem _ (.tail _ g),S.ne_head g⟩
   ·exact⟨S.old a o h,S.apart _ (.head _) a o h⟩
  exact n a (List.mem_range.mpr (Heap.lt_size k.1)) (λe=>k.2 (List.mem_singleton.mp e)) o (M a o k.1)
 have z: ∃x:MI,l[i]? =some x∧v= .ref x.x:=by
  have:(l.map λi=>Value.ref i.x)[i]? =some v:=by simpa using F
  rw[Jj,Option.map_eq_some_iff]at this;obtain⟨x,h,e⟩:=this;exact⟨x,h,e.symm⟩
 obtain⟨x,z,e⟩:=z;have u:=K x (List.mem_of_getElem? z);have N:An (kt w) d [(x.x,Gp x)]:=⟨λp g=>r _ _ (.inl ⟨_,u,List.mem_singleton.mp g▸rfl⟩),(List.nodup_cons.mpr ⟨Jm,List.nodup_nil⟩),λa o h=>r a o (.inr h),λp g a o h=>List.mem_singleton.mp g▸S.apart _ (.tail _ u) a o h⟩
 clear r u K M n S F;rw[e]at j;rw[cD,arm_eval_Subscript];refine Af (wpAny_Name (wpAny_loadName_local VJ (by kernel_rfl) G j ?_));clear G j;refine xM (cQ w s.heap.objs.size (.ref c) 0 f x.x D.depth D.units x.dx (v3 x.v0 x.v1 (.int x.z x.tz))) Flow.ret (Ai (Ai (Ai (Ai (Ai te11817400135307499448 s.heap.objs.size) (.ref c)) 0) f) x.x) [] B (A7 _) (A7 _) AR Ar N λT U V H y O A _ R=> ?_;refine⟨⟨x,x.tz,z,CU R⟩,H.heap,H.toks,?_,λb o J=> ?_⟩
 ·have k:=A.os
  have P:=A.drawn;cases H;cases d;simp only at k P O;rw[k,P,O]
 ·by_cases C:x.x=b
  ·rw[←C]at J⊢
   exact(A.sat.mem _ (.head _)).trans ((N.mem _ (.head _)).symm.trans J)
  ·exact A.keep b o J λp g=>List.mem_singleton.mp g▸C
theorem dH{kt:KT}{s d u:Ab}{B L:Ae}{I v g:Nat}{o:Obj}{w:Heap}{y:GenState}{tk:Nat}(i:Ag kt s d B ((I,o)::L))(E:s.heap.objs.size≤I)(j:y.bare=true)(l:d.heap.objs.size<v)(r: ∀b o,d.heap.get? b=some o→w.get? b=some o)
  (F:w.IsGen v g) (C:s.toks≤tk) (c:Moved [d.heap.objs.size,I] (GenOnlyQ d.gens.size) {d with gens:=d.gens.push y,toks:=tk,heap:=w} u):Ag kt s u B L:=by
 have S:=i.sat;have z: ∀b o,d.heap.get? b=some o→b≠I→u.heap.get? b=some o:=λb o m D=>by
  refine c.heap b o (λn=> ?_) (r b o m);rcases List.mem_cons.mp n with h|h
  ·exact absurd (Heap.lt_size m) (h▸It _)
  ·exact D (List.mem_singleton.mp h)
 refine⟨⟨λp k=>z p.1 p.2 (S.mem p (.tail _ k)) (S.ne_head k),(List.nodup_cons.mp S.nd).2,λa o t=>z a o (S.old a o t) (S.apart _ (.head _) a o t),λp k=>S.apart p (.tail _ k)⟩,
  λb o m G=>z b o (i.keep b o m G) λe=>absurd (Heap.lt_size m) (e▸Nat.not_lt.mpr E),λp k=>i.new p (.tail _ k),?_,(i.gens.trans (Dv.push d.gens j)).off i.gens.size (cT c.gens λx H=> ?_),c.os.trans i.os,c.drawn.trans i.drawn,Ay C c.toks⟩
 ·obtain⟨o,J,K,t,_⟩:=F
  have A:=Heap.lt_size (c.heap v o (λn=>by
   rcases List.mem_cons.mp n with h|h
   ·exact absurd l (h▸It _)
   ·exact absurd (Heap.lt_size (S.mem _ (.head _))) (List.mem_singleton.mp h▸Nat.not_lt.mpr (Bw l))) t)
  exact Ay i.size (Bw (Dz l A))
 ·have:y=x:=by simpa using H
  exact this▸j
theorem VK{w:Aa}{A:Al}{f e m K:Nat}{r:List Value}{N:Ae}{G:Nat→Ae}{Φ:Nat→Nat→List MI→Ae→Prop}(hh:A.handled=none)(hd:A.depth≤520)(hu:A.units≤3000)(ar:r=[]∨ ∃c:Nat,r=[.int 411 0,.int 22 0,.ref c])
  {s:Ab} (S:An (kt w) s ((248,AP r)::(f,DF w.2 e m)::N)) {R:Result→Ab→Prop}
  (HI: ∀(B:Al) (s1:Ab) (Q:Value→Ab→Prop) (E:Value→Ab→Prop),B.handled=none→B.depth≤540→B.units≤3100→An (kt w) s1 ((f,DF w.2 e m)::N)→
   (∀s2 l n d M,HP d=K→Φ l n d M→Ag (kt w) s1 s2 ((f,DF w.2 e m)::N) ((l,li (CI d) n)::(f,DF w.2 e m)::(G l++(ER d++M)))→Q (.ref l) s2)→
   wpAny (model pw w) B (eval G3 (BU f)) Q E s1)
  (HT: ∀(B:Al) (s1:Ab) (l t:Nat) (Q:Flow→Ab→Prop) (E:Value→Ab→Prop),B.handled=none→B.depth≤540→B.units≤3100→An (kt w) s1 ((f,DF w.2 e m)::G l)→
   (∀s2 u,Ag (kt w) s1 s2 ((f,DF w.2 e m)::G l) (G l)→AY s1.toks s2.toks [u]→Q (.ret (.float (Bl K) u)) s2)→wpAny (model pw w) B (MC f (.int K t)) Q E s1)
  (HR: ∀s' l n d M (c u:Nat),(∀k:Nat,r=[.int 411 0,.int 22 0,.ref k]→c=k)→HP d=K→Φ l n d M→Ag (kt w) s s' ((248,AP r)::(f,DF w.2 e m)::N) (G l++((248,AP [.int 411 0,.int 22 0,.ref c])::(l,li (CI d) n)::(ER d++M)))→
   AY s.toks s'.toks [u]→R (.ok (.ret (.float (Bl K) u))) s'):
  codeAny (model pw w) A (.func FN (BU f)) R s:=by
 refine Ho ?_;have C:(A.under (.func FN (BU f))).handled=none:=hh;have D:(A.under (.func FN (BU f))).depth≤540:=Ay (Cz hd _) (Ef rfl);have uB:(A.under (.func FN (BU f))).units≤3100:=Ay (Cz hu _) (Ef rfl);clear hh hd hu;generalize A.under (.func FN (BU f))=B at C D uB;refine (?_:wpAny _ B (point>>=λ_=>((execs FN (BU f)).onRaise (leaving (BU f))>>=λfl=>match fl with| .ret v=>ret v|_=>ret .none)) _ _ s);refine Af (wpAny_point (Af (Fp ?_)));rw[cW];refine Af (Bq (cG w f) id (Ai te4522679141434849561 f) [] C D uB AR Ar (S.part _ (La:=[]) (.refl _)) λz τ ω s1 fl g _ au=> ?_);replace g:=Ag.part _ S (La:=[]) (.refl _) g;obtain rfl:fl= .next:=au;refine Af (Ds (Af (PySem.Call_name1 rfl ?_)));have pf: ∀{a b:Addr×Obj} {L:Ae},([b]++(a::L)).Perm (a::b::L):=.swap _ _ _;refine Bq (cH w f e m) Flow.ret (Ai te934501407238740123 f) [] C D uB AR Ar (g.sat.part _ pf) λz τ ω s2 fv ad _ aw=> ?_;replace g:Ag (kt w) s s2 ((248,AP r)::(f,DF w.2 e m)::N) ((248,AP r)::(f,DF w.2 e m)::N):=(g.trans (Ag.part _ g.sat pf ad)).permR pf;clear ad;obtain rfl:fv= .builtin LZ:=CU aw;rw[qC];refine PySem.callWith_builtin1 (wpAny_with_toks (A7 s2.toks) (wpAny_GeneratorExp_walksQ C cX (cY f) cZ dC dD VJ (CM D (by decide)) ?_ (dE f)));have pg: ∀{a:Addr×Obj} {L:Ae},(L++[a]).Perm (a::L):=ED;have ax:=g.toks;refine HI B s2 _ _ C D uB (g.sat.part _ pg) λs3 l n d M hz ay ae=> ?_;replace g:=g.trans (Ag.part _ g.sat pg ae);clear HI ae;refine Bq (cL w l n (CI d)) Flow.ret (Ai te1895007636148923766 (.ref l)) [] C D uB AR Ar (g.sat.part _ (La:=[(l,li (CI d) n)]) (.refl _)) λz τ ω s4 az P _ ai=> ?_;have nI:s.heap.objs.size≤z 0:=Ay g.size (by
  rcases P.new (z 0,liO l 0) (.tail _ (.head _))with⟨q,hq,e⟩|h
  ·refine absurd ?_ ((List.nodup_cons.mp P.sat.nd).1)
   rw[List.mem_singleton.mp hq]at e;exact(List.mem_singleton.mpr e:l∈[z 0])
  ·exact h)
 replace g:Ag (kt w) s s4 ((248,AP r)::(f,DF w.2 e m)::N) (((l,li (CI d) n)::(z 0,liO l 0)::(f,DF w.2 e m)::(G l++(ER d++M)))++[(248,AP r)]):=(g.trans (Ag.part _ g.sat (La:=[(l,li (CI d) n)]) (.refl _) P):)
 obtain rfl:az= .ref (z 0):=CU ai;clear P ai;generalize z 0=I at g nI;refine⟨LO g.sat,?_⟩;have hc: ∀(Q:Value→Ab→Prop) (E:Value→Ab→Prop),(∀(c:Nat) (s5:Ab),(∀k:Nat,r=[.int 411 0,.int 22 0,.ref k]→c=k)→Ag (kt w) s4 s5 [(248,AP r)] [(248,AP [.int 411 0,.int 22 0,.ref c])]→Q (.ref c) s5)→
   wpAny (model pw w) B (genexprCode (BU f) (gP Fw) ((BU f).qual++"<genexpr>") Ec) Q E s4:=λQ E hq=>by
  have S4:=g.sat.part (La:=[(248,AP r)]) _ pg.symm;clear g nI HT HR;rcases ar with rfl|⟨c,rfl⟩
  ·refine Bq (cM w f) Flow.ret (Ai te11439811130977472393 f) [] C D uB AR Ar S4 λz τ ω s5 cv F _ aa=> ?_
   exact CU aa▸hq _ _ (λk h=>nomatch h) F
  ·refine Bq (cN w f c) Flow.ret (Ai te11439811130977472393 f) [] C D uB AR Ar S4 λz τ ω s5 cv F _ aa=> ?_
   exact CU aa▸hq _ _ (λk h=>by injection h with _ h;injection h with _ h;injection h with h;injection h) F
 refine hc _ _ λc s5 a9 F=> ?_;replace g:=g.trans (Ag.part _ g.sat pg.symm F);clear hc F;refine Bq (cO w f) (λb:Addr=>Flow.ret (.ref b)) (Ai te6614478055894812977 f) [] C D uB AR Ar (g.sat.part _ (La:=[]) (.refl _)) λz τ ω s6 bi aj _ ak=> ?_;replace g:=(g.trans (Ag.part _ g.sat (La:=[]) (.refl _) aj)).permR (EF (l₁:=[(248,AP [.int 411 0,.int 22 0,.ref c]),(l,li (CI d) n)]));obtain rfl:bi=0:=Value.ref.inj (CU ak);clear aj ak;have O:=g.sat;have hl:=O.mem (l,li (CI d) n) (.tail _ (.tail _ (.head _)));have hI:=O.mem (I,liO l 0) (.head _);have T:s6.heap.IsList l (⟨CI d⟩:Array Value):=⟨_,hl,Qg,n,rfl⟩
 refine⟨I,[I,l],[I],(⟨CI d⟩:Array Value).size,_,_,λ_=>true,λi y=>B5 λ (x:MI) (t:Nat)=>d[i]? =some x∧y=Value.int x.z t,rfl,λA' ba=>Walks.list ba I l (O.ne_head (.tail _ (.head _))) ⟨CI d⟩,⟨⟨_,hI,QQ,rfl⟩,T⟩,λb J=> ?_,LO O,λbb=> ?_,
  λbk hk=>dG O (λx hx=>.tail _ (.tail _ (.tail _ (BG _ (Dh _ (dF hx)))))) hk,λga aq tk gs ac H al U W G'=> ?_⟩
 ·rcases List.mem_cons.mp J with rfl|J
  ·exact Heap.lt_size hI
  ·exact List.mem_singleton.mp J▸Heap.lt_size hl
 ·obtain⟨o,ho,_⟩:=Ts w
  exact O.apart (I,liO l 0) (.head _) 2 o ho (List.mem_singleton.mp bb)
 ·intro bc
  clear hI hl T;refine call_sum_walkAnyS (WalksS.self (WalksS.in4_1 W) 0 _ _ _ G' ?_);have z0:(passing (λ_=>true) (⟨CI d⟩:Array Value).size 0)=List.range d.length:=by
   rw[cS];(first|((repeat(first|exact .head _|apply List.mem_cons_of_mem));done)|simp)
  refine⟨ga,_,_,_,_,_,_,λj=>((d[j]?.map MI.z).getD 0:Nat),rfl,WalksS.in4_1 W,G',λb J=> ?_,λi v hv=> ?_,λs' t' am=> ?_⟩
  ·refine (?_:b<aq.objs.size)
   rw[al];rcases List.mem_cons.mp J with h|J
   ·rw[h];exact Hm ga
   ·rcases List.mem_cons.mp J with h|J
    ·rw[h];exact NI H
    ·exact NI (Dz (List.mem_range.mp J) H)
  ·obtain⟨i',V,x,an,hx,hv⟩:=hv
   rw[z0]at V;have e:i'=i:=by
    have H:i<(List.range d.length).length:=(List.getElem?_eq_some_iff.mp V).1;rw[Ll (by simpa using H)]at V;exact(GG V).symm
   rw[e]at hx;refine⟨an,hv.trans ?_⟩;refine (?_:_=Value.int (((d[i]?.map MI.z).getD 0:Nat):Int) an);rw[hx];rfl
  ·have ao:preSum (λj=>(((d[j]?.map MI.z).getD 0:Nat):Int)) (passing (λ_=>true) (⟨CI d⟩:Array Value).size 0).length=(K:Int):=by
    rw[z0,F9];have:=cR (λj=>(((d[j]?.map MI.z).getD 0:Nat):Int)) d 0 λi h=>by simp[h]
    rw[Ga]at this;rw[this,hz];exact Int.zero_add _
   rw[ao];have Y:=dH g nI ac H U G'.1 (Ay ax bc) am;clear ao z0 W G' am U H al O nI;have pr: ∀{a b c:Addr×Obj} {X Z:Ae},((c::X)++(a::b::Z)).Perm (a::b::c::(X++Z)):=λ {a b c X Z}=>List.perm_append_comm_assoc (c::X) [a,b] Z;refine HT B s' l t' _ _ C D uB (Y.sat.part _ pr) λs8 u be ri=>Aq (HR s8 l n d M c u a9 hz ay (Y.trans (Ag.part _ Y.sat pr be)) (AY.app (xs:=[]) Y.toks ri))
theorem VL{w:Aa}{f e m d K:Nat}{q a b:Nat→Nat}{t u:Nat}{c g:Value}{i j k:Nat}(z:K<9){B:Al}{s:Ab}{n:Nat}{Q:Flow→Ab→Prop}{E:Value→Ab→Prop}(A:B.handled=none)(C:B.depth≤540)(uB:B.units≤3100)
  (S:An (kt w) s [(f,DF w.2 e m),(m,mO d),(d,AT w.2 q (AG a t) (AG b u) c g i j k)])
  (h: ∀s2 l,Ag (kt w) s s2 [(f,DF w.2 e m),(m,mO d),(d,AT w.2 q (AG a t) (AG b u) c g i j k)] [(m,mO d),(d,AT w.2 q (AG a t) (AG b u) c g i j k)]→AY s.toks s2.toks [l]→Q (.ret (.float (Bl K) l)) s2):wpAny (model pw w) B (MC f (.int K n)) Q E s:=
 Bq (cP w f e m d K n q a b t u c g i j k) id (Ai (Ai te14053590656718986233 f) (.int K n)) [8] A C uB (AD _ _ (Ah (λ_ _ _=>Qu z) AC)) Ar S λG o H D F r v y=>(show F= .ret (.float (Bl K) (o 8))from y)▸h D (o 8) r v
noncomputable abbrev Fy(c:Nat):List Value:=[.int 411 0,.int 22 0,.ref c]
noncomputable def Rd(P:Aj)(m d i j k:Nat)(n a b g l s:Nat→Nat)(v:Value)(t u:Nat)(w:List Value)(e:List (Nat×Nat)):Ak:=
 {d:=520,u:=3000,h:=none,c:=.call (.ref 253) ⟨[.ref m],[]⟩,idx:=[],pre:=[(m,mO d),(d,AT P n (.str (sf a) t) (AG b u) .none v i j k),(j,CD P),(i,B2 P b g l)]++AZ l s++[(248,AP w)],
  na:=e.length+2,nt:=1,no:=4*(e.length+1)+1,r:=λ_ t=>.ok (.ret (.float (Bl (G2 e)) (t.getD 0 0))),
  outs:=λx _ o=>[mO d,AT P n (.str (sf a) t) (AG b u) (.ref (x.getD 0 0)) v i j k,CD P,B2 P b g l]++(AZ l s).map (·.2)++[AP (Fy (Ao o 0))],
  news:=λx _ o=>li (x.tail.map .ref) (e.length+3)::KG (e++[(8,0)]) o.tail}
noncomputable def VM(P:Aj)(m d g i j l n c:Nat)(q a b:Nat→Nat)(k:Value)(t u:Nat)(e:List MI):Ak:=
 {d:=520,u:=3000,h:=none,c:=.call (.ref 253) ⟨[.ref m],[]⟩,idx:=[],pre:=[(m,mO d),(d,AT P q (.str (sf a) t) (AG b u) (.ref l) k g i j),(l,li (CI e) n),(248,AP (Fy c))]++ER e,
  na:=0,nt:=1,no:=0,r:=λ_ t=>.ok (.ret (.float (Bl (HP e)) (t.getD 0 0))),outs:=λ_ _ _=>[mO d,AT P q (.str (sf a) t) (AG b u) (.ref l) k g i j,li (CI e) n,AP (Fy c)]++e.map Gp,news:=λ_ _ _=>[]}
theorem dI{w:Aa}{m d l:Nat}{q a b:Nat→Nat}{t u:Nat}{c:Value}{e g h:Nat}:Av w (VE w.2 m d l q a b t u c e g h):=by
 refine Ba.ext λA i j k=> ?_;exact Bf (cF w m d l q a b t u c e g h) [] k i j AR Ar λn o r=>⟨[],[],rfl,rfl,rfl,rfl,rfl⟩
theorem VN{a b:Nat→Nat}:G2 (B3 a b)<9:=by
 rw[(OX a b).2.2];exact F8 (Mh a b 8)
theorem dJ(a:List MI):(ER a).map (·.2)=a.map Gp:=by unfold ER;rw[BZ];rfl
theorem dK{w:Aa}{m d g h i l n c:Nat}{q a b:Nat→Nat}{j:Value}{t u:Nat}{e:List MI}(P:HP e<9):Av w (VM w.2 m d g h i l n c q a b j t u e):=by
 refine Ba.ext λA z C D=> ?_;refine EO (VF w m) ([(m,mO d),(d,AT w.2 q (AG a t) (AG b u) (.ref l) j g h i),(l,li (CI e) n),(248,AP (Fy c))]++ER e) (.refl _) [] D z C AR Ar λF R ω=>⟨_,.refl _,λs S=> ?_⟩
 have H: ∀{x m d l k:Addr×Obj} {Z:Ae},(x::m::d::l::k::Z).Perm (k::x::m::d::l::Z):=λ {x m d l k Z}=>EF (l₁:=[x,m,d,l]);refine VK (G:=λl=>[(m,mO d),(d,AT w.2 q (AG a t) (AG b u) (.ref l) j g h i)]) (Φ:=λI J o K=>l=I∧n=J∧e=o∧K=[]) D z C (.inr ⟨c,rfl⟩) (S.permS H) (λB s1 Q E r v uB L T=> ?_) (λB s1 l t' Q E r v uB=>VL P r v uB) λs' I J o K U M N hz O y V=> ?_
 ·refine Bq (cK w (F 0) (R 0) m d l q a b t u j g h i) Flow.ret (Ai te10031696195161836380 (F 0)) [] r v uB (AD _ _ (Ah (λ_ _ _=>dI) AC)) Ar (L.part ((l,li (CI e) n)::ER e) (.refl _)) λX Y aa s2 x y _ W=> ?_
  obtain rfl:x= .ref l:=CU W;refine T s2 l n e [] rfl ⟨rfl,rfl,rfl,rfl⟩ ((Ag.part _ L (.refl _) y).permR ?_);rw[BV];exact EF (l₁:=[_,_,_])
 ·obtain⟨rfl,rfl,rfl,rfl⟩:=O
  obtain rfl:c=U:=(N c rfl).symm;refine⟨_,[M],⟨[],[],rfl,rfl,rfl,rfl,rfl⟩,?_,V⟩;have rl:=Kz ([(m,mO d),(d,AT w.2 q (AG a t) (AG b u) (.ref l) j g h i),(l,li (CI e) n),(248,AP (Fy c))]++ER e) ([(m,mO d),(d,AT w.2 q (AG a t) (AG b u) (.ref l) j g h i),(l,li (CI e) n),(248,AP (Fy c))]++ER e) rfl;rw[BC,dJ]at rl;have rl:=(BV _).trans rl;refine((y.permL H.symm).permR ?_).permR (.of_eq rl.symm);rw[BV];exact(List.Perm.swap _ _ _).append_left [_,_]
noncomputable def dL(P:Aj)(e h:Nat)(b g c:Nat→Nat)(i:Nat→Nat)(a:List (Nat×Nat))(l n:Nat)(d:List MI)(j:Ae):Prop:=
 n=a.length+3∧d.length=a.length+1∧(∃o:List Obj,o.length=4*(a.length+1)∧d.map Gp=KG (a++[(8,0)]) o)∧j=[(e,CD P),(h,B2 P b g c)]++AZ c i
theorem dM(l n:Nat)(a:List MI):BH (l::a.map MI.x) (li (CI a) n::a.map Gp)=(l,li (CI a) n)::ER a:=by
 show(l,li (CI a) n)::BH (a.map MI.x) (a.map Gp)=_;congr 1
 induction a with
 |nil=>rfl
 |cons i a b=>exact Am (_:: ·) b
theorem dN{w:Aa}{m d e h j:Nat}{r a b g l v:Nat→Nat}{y:Value}{t u:Nat}{F:List Value}(N:Lt a)(O:Lt b)(P:F=[]∨ ∃c:Nat,F=Fy c):Av w (Rd w.2 m d e h j r a b g l v y t u F (B3 a b)):=by
 have R:Av w (MA w.2 m d e h j r a b g l v y t u (B3 a b)):=cB N O;have T:G2 (B3 a b)<9:=VN;have I:=(OX a b).2.1;clear N O;generalize B3 a b=z at R T I;refine Ba.ext λA U V W=> ?_;refine EO (VF w m) (KH m d e h j t u r a b g l v y w.2++[(248,AP F)]) (.refl _) [] W U V AR Ar λX τ ω=>⟨_,.refl _,λs S=> ?_⟩
 have Y: ∀{x k:Addr×Obj} {Z:Ae},(x::(Z++[k])).Perm (k::x::Z):=λ {x k Z}=>ED (l₁:=x::Z) (l₂:=[k]);refine VK (G:=λl=>[(m,mO d),(d,AT w.2 r (AG a t) (AG b u) (.ref l) y e h j)]) (Φ:=dL w.2 h e b g l v z) W U V P (S.permS Y) (λB s1 Q E J K uB S1 hq=> ?_) (λB s1 l t' Q E J K uB=>VL T J K uB) λs' D L i Lr H aa ae hz ac M ri=> ?_
 ·refine Bq (cJ w (X 0) (τ 0) m d e h j t u r a b g l v y z I) Flow.ret (Ai te10031696195161836380 (X 0)) [] J K uB (AD _ _ (Ah (λ_ _ _=>R) AC)) Ar S1 (λC ai ad s2 x M _ hx=> ?_) ((by decide: ∀n,n<5→BR ([13,0,1,2]++List.range' 14 (n+1)++[3,4,5,6,7,8,9,10,11,12])=true) _ (F8 I))
  obtain rfl:x= .ref (C 0):=CU hx;have ln:(z++[(8,0)]).length=z.length+1:=EX;exact hq s2 (C 0) _ _ _ (Rb C _ z 1 0) ⟨rfl,(VG C _ _ 1 0).trans ln,⟨_,by rw[BY,List.length_range',ln],VH C ad _ 1 0⟩,rfl⟩ M
 ·obtain⟨e1,hl,⟨o,ho,hm⟩,e2⟩:=ac
  refine⟨_,[aa],⟨D::i.map MI.x,Ac H::o,Am (· +1) ((BY _).trans hl),rfl,Am (· +1) ho,rfl,rfl⟩,?_,ri⟩;have rl:=Kz (KH m d e h j t u r a b g l v y w.2++[(248,AP F)]) ([(m,mO d),(d,AT w.2 r (AG a t) (AG b u) (.ref D) y e h j),(h,CD w.2),(e,B2 w.2 b g l)]++AZ l v++[(248,AP (Fy H))]) (by (first|((repeat(first|exact .head _|apply List.mem_cons_of_mem));done)|simp));rw[BC,BC]at rl;have e3: ∀ts,BH (D::i.map MI.x) ((Rd w.2 m d e h j r a b g l v y t u F z).news (D::i.map MI.x) ts (Ac H::o))=(D,li (CI i) L)::ER i:=λts=>by
   refine (?_:BH _ (li ((i.map MI.x).map .ref) (z.length+3)::KG (z++[(8,0)]) o)=_);rw[←hm,←e1,BZ];exact dM D L i
  rw[e3];refine Ag.permR ?_ (FF _ (.of_eq rl.symm));refine(M.permL Y.symm).permR ?_;rw[e2];exact((ED (l₁:=(248,AP (Fy H))::(D,li (CI i) L)::ER i)).trans (.of_eq (Dr _ [_] _).symm)).append_left [_,_]
set_option maxHeartbeats 4000000
theorem dO(x y:Str)(t u:Nat)(c:t≠0)(d:u≠0)(a:t≠u)(b:x≠y):operate [.str x t,.str y u] (compareOp .Is (.str x t) (.str y u))=pure DE:=by
 have h:=isSame_str_other x y t u (by simp[c,d]) (by simp[a]) (by simpa using b);show(holding [.str x t,.str y u] (do return .bool (←isSame (.str x t) (.str y u)))>>=λr=>release [.str x t,.str y u] [r]>>=λ_=>pure r)=_;rw[h];rfl
noncomputable abbrev Eo:List Stmt:=AN (EK 6 3)
noncomputable abbrev Dc:List Stmt:=AN (EK 6 4)
noncomputable abbrev MD(f:Nat):Env:={scope:=EH (EK 6 3),locals:=f,globals:=3,cells:=[],qual:=⟨⟨[83,101,113,117,101,110,99,101,77,97,116,99,104,101,114,46,115,101,116,95,115,101,113,49,46,60,108,111,99,97,108,115,62,46]⟩⟩,func:=some 202,code:=.ref 201,frame:=some f,builtins:=0}
noncomputable abbrev ME(f:Nat):Env:={scope:=EH (EK 6 4),locals:=f,globals:=3,cells:=[],qual:=⟨⟨[83,101,113,117,101,110,99,101,77,97,116,99,104,101,114,46,115,101,116,95,115,101,113,50,46,60,108,111,99,97,108,115,62,46]⟩⟩,func:=some 209,code:=.ref 208,frame:=some f,builtins:=0}
noncomputable abbrev KJ(b:List Stmt):Expr:=A9 (Br (sT (AB b 1))) 0
noncomputable abbrev Gq(b:List Stmt):Expr:=A9 (Br (sT (AB b 1))) 1
theorem dP:Eo=[AB Eo 0,.If (.Compare (KJ Eo) [.Is] [Gq Eo] (gP (sT (AB Eo 1)))) (AN (AB Eo 1)) [] (sP (AB Eo 1)),AB Eo 2,AB Eo 3]:=by kernel_rfl
theorem dQ:Dc=[AB Dc 0,.If (.Compare (KJ Dc) [.Is] [Gq Dc] (gP (sT (AB Dc 1)))) (AN (AB Dc 1)) [] (sP (AB Dc 1)),AB Dc 2,AB Dc 3,AB Dc 4,AB Dc 5]:=by kernel_rfl
noncomputable def tr1A(f:Nat):Sem AA:=eval (KJ Eo) (MD f)>>=λv=>pure (.done (.ret v))
noncomputable def tr1B(f:Nat):Sem AA:=eval (Gq Eo) (MD f)>>=λv=>pure (.done (.ret v))
noncomputable def tr1D(f:Nat):Sem AA:=exec (AB Eo 0) (MD f)>>=λv=>pure (.done v)
noncomputable def tr1T(f:Nat):Sem AA:=execs [AB Eo 2,AB Eo 3] (MD f)>>=λv=>pure (.done v)
noncomputable def tr2A(f:Nat):Sem AA:=eval (KJ Dc) (ME f)>>=λv=>pure (.done (.ret v))
noncomputable def tr2B(f:Nat):Sem AA:=eval (Gq Dc) (ME f)>>=λv=>pure (.done (.ret v))
noncomputable def tr2D(f:Nat):Sem AA:=exec (AB Dc 0) (ME f)>>=λv=>pure (.done v)
noncomputable def tr2T(f:Nat):Sem AA:=execs [AB Dc 2,AB Dc 3,AB Dc 4,AB Dc 5] (ME f)>>=λv=>pure (.done v)
lay_quick tr1A tr1B tr1D tr1T tr2A tr2B tr2D tr2T
theorem VO{w:Aa}{B:Al}{s:Ab}{b:List Stmt}{a:Env}{rest:List Stmt}{x y:Str}{t u:Nat}(g:t≠0)(h:u≠0)(d:t≠u)(e:x≠y)
  (i:b=[AB b 0,.If (.Compare (KJ b) [.Is] [Gq b] (gP (sT (AB b 1)))) (AN (AB b 1)) [] (sP (AB b 1))]++rest) (j:markedBehindIn .Is (Gq b) (eval (Gq b) a)=eval (Gq b) a)
  {I:Ab→Prop} (k: ∀s Q E,I s→(∀c,I c→Q .next c)→wpAny (model pw w) B (exec (AB b 0) a) Q E s)
  (l: ∀s Q E,I s→(∀c,I c→Q (.str x t) c)→wpAny (model pw w) B (eval (KJ b) a) Q E s)
  (m: ∀s Q E,I s→(∀c,I c→Q (.str y u) c)→wpAny (model pw w) B (eval (Gq b) a) Q E s)
  {Q:Flow→Ab→Prop} {E:Value→Ab→Prop} (n: ∀s,I s→wpAny (model pw w) B (execs rest a) Q E s) (o:I s):wpAny (model pw w) B (execs b a) Q E s:=by
 rw[i];refine (?_:wpAny _ _ (exec (AB b 0) a>>=_) Q E s);refine Af (k s _ _ o λs1 r=> ?_);refine (?_:wpAny _ _ (exec (.If _ _ _ _) a>>=_) Q E s1);refine Af ?_;rw[exec_If];refine Af (Ds ?_);rw[isTrue_Compare1];refine Af (Af (l s1 _ _ r λs2 v=> ?_));refine Af ?_;refine (?_:wpAny _ _ (markedBehindIn .Is (Gq b) (eval (Gq b) a)) _ _ _);rw[j];refine m s2 _ _ v λs3 z=> ?_;refine Af (Ds ?_);rw[dO x y t u g h d e];refine Af (Aq ?_);refine (?_:wpAny _ _ (truthy DE) _ _ _);refine wpAny_truthy_bool ?_;simp only[CZ,if_false];refine (?_:wpAny _ _ (pure Flow.next) _ _ _);exact Aq (n s3 z)
noncomputable abbrev KK:Stmt:=AB (AN (EK 6 5)) 2
noncomputable abbrev KL(f:Nat):Env:={scope:=EH (EK 6 5),locals:=f,globals:=3,cells:=[],qual:=⟨⟨[83,101,113,117,101,110,99,101,77,97,116,99,104,101,114,46,95,95,99,104,97,105,110,95,98,46,60,108,111,99,97,108,115,62,46]⟩⟩,func:=some 216,code:=.ref 215,frame:=some f,builtins:=0}
noncomputable abbrev IV:Expr:=A9 (Kh KK) 0
noncomputable def Re:Option Value→Flow
 |some v=>.ret v
 |none=>.next
noncomputable def trN(a:Nat):Sem AA:=pyNext (.ref a)>>=λv=>pure (.done (Re v))
noncomputable def trAs(f x:Nat):Sem AA:=assign IV (KL f) (.ref x)>>=λ_=>pure (.done .next)
noncomputable def trCb(f:Nat):Sem AA:=execs (AN KK) (KL f)>>=λv=>pure (.done v)
lay_quick trN trAs trCb
set_option maxHeartbeats 400000
noncomputable abbrev Fz(a i:Nat)(v:Value):Obj:=fi Gf [.none,.bool false,.ref a,.int i 0,.none,v]
noncomputable abbrev en1O(x a i:Nat)(v:Value):Obj:=fi Gf [.int x 0,.bool false,.ref a,.int i 0,.none,v]
noncomputable abbrev FO(P:Aj)(e:Nat→Nat)(m a:Nat)(b:Nat→Nat)(t:Nat)(x:List DictEntry)(n:Nat):Obj:=fr ([Ap P HA (e 0) (.ref m),Ap P LU (e 1) (AG b t),Ap P Oe (e 2) (.ref a)]++x) n
noncomputable abbrev HQ(P:Aj)(a b i:Nat)(x:Str)(c d:Nat):List DictEntry:=[Ap P By a (.int i c),Ap P Og b (.str x d)]
noncomputable abbrev IW(a b:Nat)(c:Nat→Nat)(d:Nat):=tu [.int a b,.str (c1 (c a)) d] 0
theorem dR(w:Aa)(e a i t:Nat)(b:Nat→Nat)(v:Value):
  AF w 32 (tw11904769587893773449 e) ([(e,Fz a i v),(a,Dx b t i)]) (rl 48 155982) (AE [(1,[1])] ([λh j k=>Oy a b t i])) [] 570 3400 [0,1,2]
   (λc d g=>.done (.ret (.ref (c 0)))) (λc d g=>[(e,en1O (c 0) a (i+1) (Ft b i (d 0))),(a,Dx b t (i+1:Nat)),(c 0,IW i (d 1) b (d 0))]) 2:=by
 kernel_rfl
theorem dS(w:Aa)(c a t:Nat)(b:Nat→Nat)(v:Value):
  AF w 27 (tw11904769587893773449 c) ([(c,Fz a 8 v),(a,Dx b t 8)]) [1,1,1,2,2,2,2,2,2,4] [] [] 570 3400 [0,1]
   (λd e g=>.done .next) (λd e g=>[(c,fi Gf [.none,DE,.ref a,.int 8 0,.none,v]),(a,fi Ey [.none,.int 8 0])]) 0:=by
 kernel_rfl
theorem dT(w:Aa)(f x m d i t g h:Nat)(e b:Nat→Nat)(c:Str):
  AF w 66 (tw15462538729567000676 f x) ([(f,FO w.2 e m d b t [] 3),(x,tu [.int i g,.str c h] 0)]) (dg 6 0x14b9e791d4747893c3fd8af) [] [] 570 3400 [0]
   (λj a k=>.done .next) (λj a k=>[(f,FO w.2 e m d b t (HQ w.2 (a 0) (a 1) i c g h) 5)]) 2:=by
 kernel_rfl
theorem dU(w:Aa)(f x m a i t d g r h j k l n o:Nat)(e b:Nat→Nat)(c c0:Str):
  AF w 66 (tw15462538729567000676 f x) ([(f,FO w.2 e m a b t (HQ w.2 l n r c0 h j++[Ad w JA o (.ref k)]) 6),(x,tu [.int i d,.str c g] 0)]) (dg 6 0x14b9e791d4747893c3fd8af) [] [] 570 3400 [0]
   (λs u v=>.done .next) (λs u v=>[(f,FO w.2 e m a b t (HQ w.2 l n i c d g++[Ad w JA o (.ref k)]) 6)]) 2:=by
 kernel_rfl
theorem dW(w:Aa)(f m a i t h d k l:Nat)(e b:Nat→Nat)(c:Str)(j:List DictEntry):
  AF w 49 (tw11440542975469638254 f) ([(f,FO w.2 e m a b t (HQ w.2 k l i c h d) 5),(a,di j i)]) (dg 4 389304286719) (AE [(0,[1])] ([λo s u=>Ou a j i (PyData.keyHash w.2 c) (.str c d) (.ref (tk o 0))])) [] 570 3400 [0,1,2]
   (λg n r=>.done .next) (λg n r=>[(f,FO w.2 e m a b t (HQ w.2 k l i c h d++[Ad w JA (n 0) (.ref (g 0))]) 6),(a,di (j++[⟨PyData.keyHash w.2 c,.str c d,.ref (g 0)⟩]) (i+1)),(g 0,li [.int i h] 1)]) 1:=by
 kernel_rfl
theorem dX(w:Aa)(f m a i t h d o k l n:Nat)(e b:Nat→Nat)(c:Str)(j:List DictEntry):
  AF w 49 (tw11440542975469638254 f) ([(f,FO w.2 e m a b t (HQ w.2 k l i c h d++[Ad w JA n (.ref o)]) 6),(a,di j i)]) (dg 4 389304286719) (AE [(0,[1])] ([λr v y=>Ou a j i (PyData.keyHash w.2 c) (.str c d) (.ref (tk r 0))])) [] 570 3400 [0,1,2]
   (λg s u=>.done .next) (λg s u=>[(f,FO w.2 e m a b t (HQ w.2 k l i c h d++[Ad w JA n (.ref (g 0))]) 6),(a,di (j++[⟨PyData.keyHash w.2 c,.str c d,.ref (g 0)⟩]) (i+1)),(g 0,li [.int i h] 1)]) 1:=by
 kernel_rfl
theorem dY(w:Aa)(f:Nat):
  AI w 6 (.block [] (KL f)) ([]) [] [] [] 0 570 3400 []
   (λa b c=>.done .next) (λa b c=>[]) 0:=by
 kernel_rfl
theorem eB:IV= .Tuple (Br IV) (tK IV) (gP IV):=by kernel_rfl
inductive KM (P:Aj) (e:Nat→Nat) (m j2:Nat) (b:Nat→Nat) (t:Nat):Bool→Obj→Prop
 |no:KM P e m j2 b t false (FO P e m j2 b t [] 3)
 |yes (y3 y4 y5 i ti tx l0 z:Nat):KM P e m j2 b t true (FO P e m j2 b t (HQ P y3 y4 i (c1 z) ti tx++[Ap P JA y5 (.ref l0)]) 6)
noncomputable def FP(l a:Nat→Nat)(i:Nat):Ae:=(List.range i).map λk=>(l k,li [.int k (a k)] 1)
theorem eC(l a:Nat→Nat)(i x t:Nat):FP l a i++[(x,li [.int i t] 1)]=FP (DL l i x) (DL a i t) (i+1):=by
 unfold FP;rw[Kb,BC,List.map_singleton];congr 1
 ·apply DU
  intro k b;have:k<i:=List.mem_range.mp b;simp[DL,CN this]
 ·simp[DL]
theorem eG{w:Aa}{A:Al}{E:Value→Ab→Prop}{s:Ab}{b X a i:Nat}{v:Value}{F:Ae}(S:An (kt w) s ((b,en1O X a i v)::F)){Q:Unit→Ab→Prop}
  (h: ∀g,Ag (kt w) s g ((b,en1O X a i v)::F) ((b,Fz a i v)::F)→Q () g):wpAny (model pw w) A (letOwnedTupleGo IV (.ref b) (.ref X)) Q E s:=by
 rw[eB];have c:=S.mem _ Bj;have d:=S.set (i:=0) rfl (f:=Obj.mapFields (·.setIfInBounds 0 .none)) (p:=(b,en1O X a i v)) rfl;have e:Obj.mapFields (·.setIfInBounds 0 .none) (en1O X a i v)=Fz a i v:=by simp[Obj.mapFields]
 dsimp only at c d;rw[e]at d;have j:(en1O X a i v:Obj)={cls:=.type "enumerate",data:=.fields #[.int X 0,.bool false,.ref a,.int i 0,.none,v]}:=by
  refine (?_:Obj.mk Gf none _ _=_);rw[Qk]
 rw[j]at c;unfold letOwnedTupleGo;refine Af (Jr c ?_);refine (?_:wpAny _ _ (if(["enumerate","zip","dict_itemiterator","dict_reverseitemiterator","odict_iterator","itertools.zip_longest","itertools.pairwise"].contains "enumerate"&&
   (#[.int X 0,.bool false,.ref a,.int i 0,.none,v]:Array Value)[0]? ==some (rawInt X))=true then _ else _) Q E s)
 rw[AS (by simp[rawInt])];refine Af (FH ?_);refine (?_:wpAny _ _ (setField (.ref b) 0 .none) Q E s);exact wpAny_setField c rfl (by (first|((repeat(first|exact .head _|apply List.mem_cons_of_mem));done)|simp)) (h _ d)
theorem eH{w:Aa}{B:Al}(u:B.handled=none)(y:B.depth≤570)(uB:B.units≤3400){E:Value→Ab→Prop}{f m c i t j d X:Nat}{e b g l:Nat→Nat}(z:Lt b)(F:i<8){V:Bool}{o:Obj}(W:KM w.2 e m c b t V o)
  {s:Ab} (S:An (kt w) s [(f,o),(X,IW i j b d),(c,di (Bg w.2 (BI b g (λk=>.ref (l k)) i)) i)]) {Q:Flow→Ab→Prop}
  (h: ∀G H x,KM w.2 e m c b t true H→Ag (kt w) s G [(f,o),(X,IW i j b d),(c,di (Bg w.2 (BI b g (λk=>.ref (l k)) i)) i)] [(f,H),(c,di (Bg w.2 (BI b (DL g i d) (λk=>.ref ((DL l i x) k)) (i+1))) (i+1)),(x,li [.int i j] 1)]→Q .next G):
  wpAny (model pw w) B (assign IV (KL f) (.ref X)>>=λ_=>execs (AN KK) (KL f)) Q E s:=by
 have Y:findBy (strKind pw w).is ⟨Bg w.2 (BI b g (λk=>.ref (l k)) i)⟩ (c1 (b i))=none:=by
  rw[GU];exact Ks z z (by (first|lia|omega)) F λk hk q=>by
   have:=z.inj z (by (first|lia|omega)) F q;(first|lia|omega)
 have I: ∀{v:Value},Av w (Ou c (Bg w.2 (BI b g (λk=>.ref (l k)) i)) i (PyData.keyHash w.2 (c1 (b i))) (Ft b i d) v):=qW (strKind pw w) (GV w _ _) rfl (GT w _) Y (by simp[Bg,BI];(first|lia|omega));have J: ∀x:Nat,Bg w.2 (BI b g (λk=>.ref (l k)) i)++[⟨PyData.keyHash w.2 (c1 (b i)),.str (c1 (b i)) d,.ref x⟩]=Bg w.2 (BI b (DL g i d) (λk=>.ref ((DL l i x) k)) (i+1)):=λx=>by
  rw[Qo,Qp];congr 2;funext k;unfold DL
  split <;> rfl
 have A:([(f,o),(X,IW i j b d)]++[(c,di (Bg w.2 (BI b g (λk=>.ref (l k)) i)) i)]).Perm [(f,o),(X,IW i j b d),(c,di (Bg w.2 (BI b g (λk=>.ref (l k)) i)) i)]:=AW _;cases W with
 |no=>
  refine Af (Bq (dT w f X m c i t j d e b (c1 (b i))) (λ_:Unit=>Flow.next) (Ai (Ai te15462538729567000676 f) X) [] u y uB AR Ar (S.part _ A) λZ C ω s1 _ a _ _=> ?_);have a:=Ag.part _ S A a;refine Bq (dW w f m c i t j d (C 0) (C 1) e b (c1 (b i)) (Bg w.2 (BI b g (λk=>.ref (l k)) i))) id (Ai te11440542975469638254 f) [] u y uB (AD _ _ (Ah (λ_ _ _=>I) AC)) Ar a.sat λK L M s2 D n _ r=> ?_;obtain rfl:D= .next:=r;rw[J]at n;exact h s2 _ _ (.yes ..) (a.trans n)
 |yes N O P i0 R T U z0=>
  refine Af (Bq (dU w f X m c i t j d i0 R T U N O P e b (c1 (b i)) (c1 z0)) (λ_:Unit=>Flow.next) (Ai (Ai te15462538729567000676 f) X) [] u y uB AR Ar (S.part _ A) λZ C ω s1 _ a _ _=> ?_);have a:=Ag.part _ S A a;refine Bq (dX w f m c i t j d U N O P e b (c1 (b i)) (Bg w.2 (BI b g (λk=>.ref (l k)) i))) id (Ai te11440542975469638254 f) [] u y uB (AD _ _ (Ah (λ_ _ _=>I) AC)) Ar a.sat λK L M s2 D n _ r=> ?_;obtain rfl:D= .next:=r;rw[J]at n;exact h s2 _ _ (.yes ..) (a.trans n)
theorem eJ:Dt KK=[]:=by kernel_rfl
noncomputable abbrev VQ(f a:Nat):Code:=.forLoop IV (.ref a) (AN KK) (Dt KK) (KL f)
noncomputable def HS(w:Aa)(f c a d t i:Nat)(b g l e:Nat→Nat)(o:Obj)(v:Value):Ae:=[(f,o),(c,Fz a i v),(a,Dx b t i),(d,di (Bg w.2 (BI b g (λk=>.ref (l k)) i)) i)]++FP l e i
inductive eK (w:Aa) (f it sit j2 m t:Nat) (e b:Nat→Nat) (r:Result) (L':Ae) (ts:List Nat):Prop
 |mk (ht:ts=[]) (hr:r= .ok .next) (g l g':Nat→Nat) (o oi os:Obj) (ho:KM w.2 e m j2 b t true o) (hL:L'=[(f,o),(it,oi),(sit,os),(j2,di (Bg w.2 (BI b g (λk=>.ref (l k)) 8)) 8)]++FP l g' 8)
theorem eM{w:Aa}{A:Al}(F:A.handled=none)(O:A.depth≤560)(P:A.units≤3300){f d a j m t:Nat}{e b:Nat→Nat}(hb:Lt b): ∀(n i:Nat),i+n=8→ ∀(v:Value) (g l h:Nat→Nat) (B:Bool) (o:Obj),(i≠0→B=true)→KM w.2 e m j b t B o→
  RunsW w A (VQ f d) (HS w f d a j t i b g l h o v)
   (eK w f d a j m t e b):=by
 intro n
 induction n with
 |zero=>
  intro i hi v g l h B o N Q s S;obtain rfl:i=8:=by (first|lia|omega)
  obtain rfl:B=true:=N (by (first|lia|omega));have G:A.depth≤570:=Ay O (by decide);have uB:A.units≤3400:=Ay P (by decide);have C:([(d,Fz a 8 v),(a,Dx b t (8:Nat))]++([(f,o),(j,di (Bg w.2 (GX b g l)) 8)]++FP l h 8)).Perm (HS w f d a j t 8 b g l h o v):=by
   exact AO [] [_,_,_,_,_,_,_,_,_,_,_,_] [0,2,1,3,0,2,5,7,9,11,13,15,17,19,21,23] [5,1,3,7,9,11,13,15,17,19,21,23]
  refine Uc (Bq (dS w d a t b v) Re (Ai te11904769587893773449 d) [] F G uB AR Ar (S.part _ C) λH I T s1 x c _ J=> ?_);have c:Ag (kt w) s s1 (HS w f d a j t 8 b g l h o v) ([(d,Fz a 8 v),(a,(fi Ey [.none,.int 8 0]))]++([(f,o),(j,di (Bg w.2 (GX b g l)) 8)]++FP l h 8)):=Ag.part _ S C c;obtain rfl:x=none:=by
   cases x with
   |none=>rfl
   |some v=>cases J
  refine⟨rfl,?_⟩;rw[eJ];refine B4 ((Bf (dY w f) [] F (Ay O (by (first|lia|omega))) (Ay P (by (first|lia|omega))) AR Ar (Φ:=λr K U=>r= .ok .next∧K=[]) λH I T=>⟨rfl,rfl⟩) s1 (c.sat.part _ (La:=[]) (AW _))) λr s2 hz=> ?_;obtain⟨K,U,⟨V,R⟩,L,ri⟩:=hz;subst R;have u:Ag (kt w) s s2 (HS w f d a j t 8 b g l h o v) ([(d,Fz a 8 v),(a,(fi Ey [.none,.int 8 0]))]++([(f,o),(j,di (Bg w.2 (GX b g l)) 8)]++FP l h 8)):=by
   have z:=c.trans (Ag.part _ c.sat (La:=[]) (AW _) L);exact z
  refine⟨_,[],⟨rfl,V,g,l,h,o,Fz a 8 v,(fi Ey [.none,.int 8 0]),Q,rfl⟩,u.permR ?_,u.toks⟩;exact AO [] [_,_,_,_,_,_,_,_,_,_,_,_] [0,2,1,3,0,2,5,7,9,11,13,15,17,19,21,23] [0,4,5,1,3,7,9,11,13,15,17,19,21,23]
 |succ n ih=>
  intro i hi v g l h B o N Q s S;have G:A.depth≤570:=Ay O (by decide);have uB:A.units≤3400:=Ay P (by decide);have C:([(d,Fz a i v),(a,Dx b t i)]++([(f,o),(j,di (Bg w.2 (BI b g (λk=>.ref (l k)) i)) i)]++FP l h i)).Perm (HS w f d a j t i b g l h o v):=by
   exact AO [_] [_,_,_,_] [0,2,1,3,0,2,5,7,2] [5,1,3,7,2]
  refine Ud (Bq (dR w d a i t b v) Re (Ai te11904769587893773449 d) [] F G uB (AD _ _ (Ah (λ_ _ _=>Qs (by (first|lia|omega))) AC)) Ar (S.part _ C) λH I T s1 x c _ J=> ?_);have c:=Ag.part _ S C c;obtain rfl:x=some (.ref (H 0)):=by
   cases x with
   |none=>cases J
   |some v=>cases J;rfl
  refine⟨_,rfl,?_⟩;generalize H 0=X at c;generalize I 0=y at c;generalize I 1=M at c;have c:Ag (kt w) s s1 (HS w f d a j t i b g l h o v) ((d,en1O X a (i+1) (Ft b i y))::([(a,Dx b t (i+1:Nat)),(X,IW i M b y)]++([(f,o),(j,di (Bg w.2 (BI b g (λk=>.ref (l k)) i)) i)]++FP l h i))):=c;refine eG c.sat λs2 u=> ?_;have u:=c.trans u;have W:([(f,o),(X,IW i M b y),(j,di (Bg w.2 (BI b g (λk=>.ref (l k)) i)) i)]++([(d,Fz a (i+1) (Ft b i y)),(a,Dx b t (i+1:Nat))]++FP l h i)).Perm ((d,Fz a (i+1) (Ft b i y))::([(a,Dx b t (i+1:Nat)),(X,IW i M b y)]++([(f,o),(j,di (Bg w.2 (BI b g (λk=>.ref (l k)) i)) i)]++FP l h i))):=by
   exact AO [_] [_,_,_,_,_] [0,3,1,3,5,0,2,7,9,2] [7,0,2,9,3,0,2,1,5,2]
  refine eH F G uB hb (by (first|lia|omega)) Q (u.sat.part _ W) λs3 Y x Z D=>⟨rfl,?_⟩
  have D:=u.trans (Ag.part _ u.sat W D);have E:Ag (kt w) s s3 (HS w f d a j t i b g l h o v) (HS w f d a j t (i+1) b (DL g i y) (DL l i x) (DL h i M) Y (Ft b i y)):=by
   refine D.permR ?_;unfold HS;rw[←eC];exact AO [_] [_,_,_,_,_] [0,3,1,3,5,0,2,7,9,2] [0,4,1,7,9,3,0,1,2,5]
  refine B4 (ih (i+1) (by (first|lia|omega)) _ _ _ _ true Y (λ_=>rfl) Z s3 E.sat) λr s' hz=> ?_;obtain⟨K,U,⟨V,R,g2,l2,g3,o2,oi,os,h3,h4⟩,L,ri⟩:=hz;exact⟨K,[],⟨rfl,R,g2,l2,g3,o2,oi,os,h3,h4⟩,E.trans L,(E.trans L).toks⟩
noncomputable def VR(P:Aj)(f j a g m t:Nat)(e b:Nat→Nat):Ak:=
 {d:=560,u:=3300,h:=none,c:=VQ f j,idx:=[],pre:=[(f,FO P e m g b t [] 3),(j,Fz a 0 .none),(a,Dx b t 0),(g,di [] 0)],na:=8,nt:=0,no:=26,r:=λ_ _=>.ok .next,
  outs:=λx _ o=>[FO P e m g b t (HQ P (Ao o 2) (Ao o 3) (Ao o 4) (c1 (Ao o 5)) (Ao o 6) (Ao o 7)++[Ap P JA (Ao o 8) (.ref (Ao o 9))]) 6,o.getD 0 default,o.getD 1 default,B2 P b (λi=>Ao o (10+i)) (λi=>x.getD i 0)],
  news:=λx _ o=>(AZ (λi=>x.getD i 0) (λi=>Ao o (18+i))).map (·.2)}
theorem eO{w:Aa}{f d c j m t:Nat}{e b:Nat→Nat}(k:Lt b):Av w (VR w.2 f d c j m t e b):=by
 refine Ba.ext λA n s u=> ?_;refine(eM u n s k 8 0 rfl .none (λ_=>0) (λ_=>0) (λ_=>0) false _ (λh=>absurd rfl h) .no).mono λr K L hz=> ?_;obtain⟨v,y,g,l,a,o,B,os,C,D⟩:=hz;cases C with
 |yes E F G i H I J z=>
  refine⟨[l 0,l 1,l 2,l 3,l 4,l 5,l 6,l 7],[B,os,Ac E,Ac F,Ac i,Ac z,Ac H,Ac I,Ac G,Ac J,Ac (g 0),Ac (g 1),Ac (g 2),Ac (g 3),Ac (g 4),Ac (g 5),Ac (g 6),Ac (g 7),Ac (a 0),Ac (a 1),Ac (a 2),Ac (a 3),Ac (a 4),Ac (a 5),Ac (a 6),Ac (a 7)],rfl,by rw[v];rfl,rfl,y,?_⟩;rw[D];rfl
noncomputable abbrev HU(P:Aj)(a b m:Nat)(v:Value):Obj:=fr [Ap P HA a (.ref m),Ap P Co b v] 2
noncomputable abbrev HV(P:Aj)(a b m:Nat)(v:Value):Obj:=fr [Ap P HA a (.ref m),Ap P LU b v] 2
theorem eQ(w:Aa)(m t:Nat)(x:Str):
  AI w 18 (.call (.ref 202) ⟨[.ref m,.str x t],[]⟩) ([]) [0,0,0,1,1,0,1,1,0,1] [] [] 0 520 3000 [0]
   (λa b c=>.again (.func Eo (MD (a 0)))) (λa b c=>[(a 0,HU w.2 (b 0) (b 1) m (.str x t))]) 2:=by
 kernel_rfl
theorem eS(w:Aa)(f:Nat):
  AF w 8 (tw1463747605302588676 f) ([]) [] [] [] 540 3100 []
   (λa b c=>.done .next) (λa b c=>[]) 1:=by
 kernel_rfl
theorem eW(w:Aa)(f a b m t:Nat)(x:Str):
  AF w 8 (tw2557322063297904708 f) ([(f,HU w.2 a b m (.str x t))]) [1] [] [] 540 3100 [0]
   (λc d e=>.done (.ret (.str x t))) (λc d e=>[(f,HU w.2 a b m (.str x t))]) 0:=by
 kernel_rfl
theorem fA(w:Aa)(f a b m d t u c e g:Nat)(q:Nat→Nat)(x y:Str)(h i j:Value):
  AF w 25 (tw6719146321637281479 f) ([(f,HU w.2 a b m (.str x t)),(m,mO d),(d,AT w.2 q (.str y u) h i j c e g)]) [1,2,0,0,0,2,0,0,0,2,2,0,3] [] [] 540 3100 [0,1,2]
   (λk l n=>.done (.ret (.str y u))) (λk l n=>[(f,HU w.2 a b m (.str x t)),(m,mO d),(d,AT w.2 q (.str y u) h i j c e g)]) 1:=by
 kernel_rfl
theorem fB(w:Aa)(f h i m d t u a b c:Nat)(q:Nat→Nat)(x y:Str)(e j g:Value):
  AF w 88 (tw15770384393619450315 f) ([(f,HU w.2 h i m (.str x t)),(m,mO d),(d,AT w.2 q (.str y u) e j g a b c)]) (dg 4 0x1580888083f60222020fd80888083f) [] [] 540 3100 [1,2]
   (λk l n=>.done .next) (λk l n=>[(m,mO d),(d,AT w.2 q (.str x t) e .none g a b c)]) 6:=by
 kernel_rfl
theorem fC(w:Aa)(m t:Nat)(x:Str):
  AI w 18 (.call (.ref 209) ⟨[.ref m,.str x t],[]⟩) ([]) [0,0,0,1,1,0,1,1,0,1] [] [] 0 520 3000 [0]
   (λa b c=>.again (.func Dc (ME (a 0)))) (λa b c=>[(a 0,HV w.2 (b 0) (b 1) m (.str x t))]) 2:=by
 kernel_rfl
theorem fD(w:Aa)(f:Nat):
  AF w 8 (tw10499012718131974035 f) ([]) [] [] [] 540 3100 []
   (λa b c=>.done .next) (λa b c=>[]) 1:=by
 kernel_rfl
theorem fE(w:Aa)(f a b m t:Nat)(x:Str):
  AF w 8 (tw1535098053403080026 f) ([(f,HV w.2 a b m (.str x t))]) [1] [] [] 540 3100 [0]
   (λc d e=>.done (.ret (.str x t))) (λc d e=>[(f,HV w.2 a b m (.str x t))]) 0:=by
 kernel_rfl
theorem fF(w:Aa)(f a b m d t u c e g:Nat)(q:Nat→Nat)(x y:Str)(h i j:Value):
  AF w 25 (tw4129151622873483410 f) ([(f,HV w.2 a b m (.str x t)),(m,mO d),(d,AT w.2 q h (.str y u) i j c e g)]) [1,2,0,0,0,2,0,0,0,2,2,0,3] [] [] 540 3100 [0,1,2]
   (λk l n=>.done (.ret (.str y u))) (λk l n=>[(f,HV w.2 a b m (.str x t)),(m,mO d),(d,AT w.2 q h (.str y u) i j c e g)]) 1:=by
 kernel_rfl
theorem fG(w:Aa)(f j k m d t u l n o:Nat)(q b:Nat→Nat)(y:Str)(h r s:Value):
  AF w 441 (tw15224701032280052195 f) ([(f,HV w.2 j k m (AG b t)),(m,mO d),(d,AT w.2 q h (.str y u) r s l n o)]) (dg 18 0x6a6fe646c3090b5986c845e9ea8aea2fc415f5627bcce9aaea8eb75d562b3d0e08619e50a35149da797d580fd076143e4f0018a8ce0ed3007d88aa7ee98df4c4fa8965045a7faeed552f3ea676ec015988f8a4d2a10eeb9102aa2c92b72fc2fa065999928ba6261b50dcd78483c9eab5c2b4d4865df4fe65170f179c4ff603e0b34675) (AE [(8,[]),(2,[3,6,5,4])] ([λc e v=>Qm (sf b) t,λc e v=>VR w.2 (tk c 0) (tk c 3) (tk c 2) (tk c 1) m t (λi=>[tk e 8,tk e 10,tk e 13].getD i 0) b])) [] 540 3100 [1,2,15,4,7,8,9,10,11,12,13,14]
   (λa z g=>.done .next) (λa z g=>[(m,mO d),(d,AT w.2 q h (AG b t) .none .none (a 1) (a 12) (a 13)),(a 12,CD w.2),(a 1,B2 w.2 b (λi=>BP (g (10+i))) (λi=>a (4+i)))]++AZ (λi=>a (4+i)) (λi=>BP (g (18+i)))) 27:=by
 kernel_rfl
theorem Rf{w:Aa}{A:Al}{a:List Stmt}{b:Env}{s:Ab}{R:Result→Ab→Prop}
  (h: ∀B:Al,B.handled=A.handled→B.depth≤A.depth+1→B.units≤A.units+3→ ∀g,wpAny (model pw w) B (execs a b) (λc d=>match c with| .ret v=>R (.ok (.ret v)) d|_=>R (.ok (.ret .none)) d) g s):codeAny (model pw w) A (.func a b) R s:=by
 refine Ho ?_;refine (?_:wpAny _ (A.under (.func a b)) (point>>=λ_=>((execs a b).onRaise (leaving b)>>=λc=>match c with| .ret v=>ret v|_=>ret .none)) _ _ s);refine Af (wpAny_point ?_);refine Af (Fp ?_);refine CA (h (A.under (.func a b)) rfl (A7 _) (A7 _) _) (λc d i=> ?_) λ_ _ e=>e;cases c <;> exact Aq i
noncomputable def VS(P:Aj)(m d a b e t u:Nat)(q:Nat→Nat)(x y:Str)(g j i:Value):Ak:=
 {d:=520,u:=3000,h:=none,c:=.call (.ref 202) ⟨[.ref m,.str x t],[]⟩,idx:=[],pre:=[(m,mO d),(d,AT P q (.str y u) g j i a b e)],na:=0,nt:=0,r:=λ_ _=>.ok (.ret .none),outs:=λ_ _ _=>[mO d,AT P q (.str x t) g .none i a b e],news:=λ_ _ _=>[]}
theorem fH{w:Aa}{m d c e g t u:Nat}{q:Nat→Nat}{x y:Str}{h i j:Value}(P:t≠0)(R:u≠0)(K:t≠u)(L:x≠y):Av w (VS w.2 m d c e g t u q x y h i j):=by
 refine Ba.ext λA M G N=> ?_;refine EO (eQ w m t x) [(m,mO d),(d,AT w.2 q (.str y u) h i j c e g)] (by exact AW _) [] N M G AR Ar λT O V=>⟨_,AW _,λs S=> ?_⟩
 generalize T 0=f at S⊢;generalize O 0=k at S;generalize O 1=l at S;have S:An (kt w) s [(f,HU w.2 k l m (.str x t)),(m,mO d),(d,AT w.2 q (.str y u) h i j c e g)]:=S;refine Rf λB n o uB W=> ?_;have n:B.handled=none:=n.trans N;have o:B.depth≤540:=Ay o (Ay (Cz M 1) (by refine (?_:520+1≤540);(first|lia|omega)));have uB:B.units≤3100:=Ay uB (Ay (Cz G 3) (by refine (?_:3000+3≤3100);(first|lia|omega)));refine VO (rest:=[AB Eo 2,AB Eo 3]) P R K L dP (by rfl) (I:=λU=>Ag (kt w) s U [(f,HU w.2 k l m (.str x t)),(m,mO d),(d,AT w.2 q (.str y u) h i j c e g)] [(f,HU w.2 k l m (.str x t)),(m,mO d),(d,AT w.2 q (.str y u) h i j c e g)])
  (λs1 Q E a r=> ?_) (λs1 Q E a r=> ?_) (λs1 Q E a r=> ?_) (λs1 a=> ?_) (.refl S)
 ·refine Bq (eS w f) id (Ai te1463747605302588676 f) [] n o uB AR Ar (a.sat.part _ (La:=[]) (AW _)) λz C D s2 H b _ F=> ?_
  obtain rfl:H= .next:=F;exact r s2 (a.trans (Ag.part _ a.sat (La:=[]) (AW _) b))
 ·refine Bq (eW w f k l m t x) Flow.ret (Ai te2557322063297904708 f) [] n o uB AR Ar (a.sat.part [(m,mO d),(d,AT w.2 q (.str y u) h i j c e g)] (AW _)) λz C D s2 v b _ J=> ?_
  obtain rfl:v= .str x t:=CU J;exact r s2 (a.trans (Ag.part [(m,mO d),(d,AT w.2 q (.str y u) h i j c e g)] a.sat (AW _) b))
 ·refine Bq (fA w f k l m d t u c e g q x y h i j) Flow.ret (Ai te6719146321637281479 f) [] n o uB AR Ar a.sat λz C D s2 v b _ J=> ?_
  obtain rfl:v= .str y u:=CU J;exact r s2 (a.trans b)
 ·refine Bq (fB w f k l m d t u c e g q x y h i j) id (Ai te15770384393619450315 f) [] n o uB AR Ar a.sat λz C D s2 H b _ F=> ?_
  obtain rfl:H= .next:=F;exact⟨_,[],⟨[],[],rfl,rfl,rfl,rfl,rfl⟩,a.trans b,(a.trans b).toks⟩
noncomputable def VT(P:Aj)(m d e g j t u:Nat)(q b:Nat→Nat)(y:Str)(a k l:Value):Ak:=
 {d:=520,u:=3000,h:=none,c:=.call (.ref 209) ⟨[.ref m,.str (sf b) t],[]⟩,idx:=[],pre:=[(m,mO d),(d,AT P q a (.str y u) k l e g j)],na:=10,nt:=0,no:=17,r:=λ_ _=>.ok (.ret .none),
  outs:=λx _ o=>[mO d,AT P q a (AG b t) .none .none (x.getD 1 0) (x.getD 0 0) (Ao o 0)],
  news:=λx _ o=>[CD P,B2 P b (λi=>Ao o (1+i)) (λi=>x.getD (2+i) 0)]++(AZ (λi=>x.getD (2+i) 0) (λi=>Ao o (9+i))).map (·.2)}
theorem fI{w:Aa}{m d h i j t u:Nat}{q b:Nat→Nat}{y:Str}{k l n:Value}(L:Lt b)(T:t≠0)(U:u≠0)(M:t≠u)(N:sf b≠y):Av w (VT w.2 m d h i j t u q b y k l n):=by
 refine Ba.ext λA O H P=> ?_;refine EO (fC w m t (sf b)) [(m,mO d),(d,AT w.2 q k (.str y u) l n h i j)] (by exact AW _) [] P O H AR Ar λV R X=>⟨_,AW _,λs S=> ?_⟩
 generalize V 0=f at S⊢;generalize R 0=o at S;generalize R 1=r at S;have S:An (kt w) s [(f,HV w.2 o r m (AG b t)),(m,mO d),(d,AT w.2 q k (.str y u) l n h i j)]:=S;refine Rf λB z C uB Y=> ?_;have z:B.handled=none:=z.trans P;have C:B.depth≤540:=Ay C (Ay (Cz O 1) (by refine (?_:520+1≤540);(first|lia|omega)));have uB:B.units≤3100:=Ay uB (Ay (Cz H 3) (by refine (?_:3000+3≤3100);(first|lia|omega)));refine VO (rest:=[AB Dc 2,AB Dc 3,AB Dc 4,AB Dc 5]) T U M N dQ (by rfl) (I:=λW=>Ag (kt w) s W [(f,HV w.2 o r m (AG b t)),(m,mO d),(d,AT w.2 q k (.str y u) l n h i j)] [(f,HV w.2 o r m (AG b t)),(m,mO d),(d,AT w.2 q k (.str y u) l n h i j)])
  (λs1 Q E e D=> ?_) (λs1 Q E e D=> ?_) (λs1 Q E e D=> ?_) (λs1 e=> ?_) (.refl S)
 ·refine Bq (fD w f) id (Ai te10499012718131974035 f) [] z C uB AR Ar (e.sat.part _ (La:=[]) (AW _)) λc F a s2 J g _ G=> ?_
  obtain rfl:J= .next:=G;exact D s2 (e.trans (Ag.part _ e.sat (La:=[]) (AW _) g))
 ·refine Bq (fE w f o r m t (sf b)) Flow.ret (Ai te1535098053403080026 f) [] z C uB AR Ar (e.sat.part [(m,mO d),(d,AT w.2 q k (.str y u) l n h i j)] (AW _)) λc F a s2 v g _ K=> ?_
  obtain rfl:v= .str (sf b) t:=CU K;exact D s2 (e.trans (Ag.part [(m,mO d),(d,AT w.2 q k (.str y u) l n h i j)] e.sat (AW _) g))
 ·refine Bq (fF w f o r m d t u h i j q (sf b) y k l n) Flow.ret (Ai te4129151622873483410 f) [] z C uB AR Ar e.sat λc F a s2 v g _ K=> ?_
  obtain rfl:v= .str y u:=CU K;exact D s2 (e.trans g)
 ·refine Bq (fG w f o r m d t u h i j q b y k l n) id (Ai te15224701032280052195 f) [] z C uB (AD _ _ (Ah (λ_ _ _=>Ui L.ascii) (Ah (λ_ _ _=>eO L) AC))) Ar e.sat λc F a s2 J g _ G=> ?_
  obtain rfl:J= .next:=G;exact⟨_,[],⟨[c 12,c 1,c 4,c 5,c 6,c 7,c 8,c 9,c 10,c 11],[Ac (c 13),a 10,a 11,a 12,a 13,a 14,a 15,a 16,a 17,a 18,a 19,a 20,a 21,a 22,a 23,a 24,a 25],rfl,rfl,rfl,rfl,rfl⟩,e.trans g,(e.trans g).toks⟩
noncomputable def VU(P:Aj):Ak:=
 {d:=520,u:=3000,h:=none,c:=.call (.ref 270) ⟨[],[]⟩,idx:=[],pre:=[],na:=5,nt:=10,r:=λa _=>.ok (.ret (.ref (a.getD 0 0))),outs:=λ_ _ _=>[],
  news:=λa t _=>[mO (a.getD 1 0),AT P (λi=>t.getD i 0) (.str ⟨⟨[]⟩⟩ 539) (.str ⟨⟨[]⟩⟩ 540) .none .none (a.getD 2 0) (a.getD 3 0) (a.getD 4 0),di [] 0,CD P,CD P]}
theorem fJ{w:Aa}:Av w (VU w.2):=by
 refine Ba.ext λA b c d=> ?_;exact Bf (qZ w) [7,9,11,13,25,27,39,44,47,52] d b c (AD _ _ (Ah (λ_ _ _=>Ui (by (first|((repeat(first|exact .head _|apply List.mem_cons_of_mem));done)|simp))) AC)) Ar λa e g=>⟨[a 1,a 0,a 7,a 12,a 13],[],rfl,rfl,rfl,rfl,rfl⟩
section
noncomputable abbrev FQ(f:Nat):Env:={scope:=EH (DX 10),locals:=f,globals:=3,cells:=[],qual:=⟨⟨[103,101,116,95,99,108,111,115,101,95,109,97,116,99,104,101,115,46,60,108,111,99,97,108,115,62,46]⟩⟩,func:=some 286,code:=.ref 285,frame:=some f,builtins:=0}
noncomputable abbrev FR:Stmt:=AB (AN (DX 10)) 6
noncomputable abbrev Rg:UInt64:=4603579539098121011
noncomputable abbrev VW(P:Aj)(e:Nat→Nat)(b:Nat→Nat)(t d k c g m:Nat)(x:List DictEntry)(n:Nat):Obj:=
 fr ([Ap P yU (e 0) (AG b t),Ap P yN (e 1) (.ref d),Ap P LX (e 2) (.int k c),Ap P xZ (e 3) (.float Rg 731),Ap P DZ (e 4) (.ref g),Ap P yP (e 5) (.ref m)]++x) n
noncomputable def IX(x:UInt64):Bool:=Float64.cmp x Rg==some Ordering.gt||Float64.cmp x Rg==some Ordering.eq
structure GK where
 f:Nat
 it:Nat
 cl:Nat
 n:Nat
 m:Nat
 d:Nat
 j2:Nat
 bj:Nat
 bp:Nat
 t:Nat
 k:Nat
 tk0:Nat
 rs:Nat
 e:Nat→Nat
 q:Nat→Nat
 b:Nat→Nat
 g:Nat→Nat
 l:Nat→Nat
 g':Nat→Nat
 xs:List Value
structure GS where
 fd:Nat
 yk:Nat
 nr:Nat
 g2:Nat→Nat
 h2:Nat→Nat
 mbv:Value
section
variable (w:Aa)(K:GK)(S:GS)(v:Bool)(i:Nat)(tb:List Value)(y:Str)(u1:Nat)(vs:List Value)
noncomputable def Rh:Obj:=VW w.2 K.e K.b K.t K.cl K.k K.tk0 K.rs K.m (cond v [Ad w Gi S.yk (.str y u1)] []) (cond v 7 6)
noncomputable def Ri:Ae:=[(K.m,mO K.d),(K.d,AT w.2 K.q (.str y u1) (.str (sf K.b) K.t) S.mbv (cond v (.ref S.fd) .none) K.j2 K.bj K.bp),(K.bj,CD w.2),(K.j2,B2 w.2 K.b K.g K.l)]++AZ K.l K.g'++[(248,AP tb),(K.rs,li vs S.nr)]++cond v [(S.fd,JG w.2 K.b S.g2 S.h2)] []
noncomputable abbrev HW(o:Obj):Ae:=[(K.f,Rh w K S v y u1),(K.it,o),(K.cl,li K.xs K.n)]++Ri w K S v tb y u1 vs
noncomputable def O1(d e:Nat→Nat)(b:Nat→Obj)(g:Nat)(c:Value):GS:=⟨cond v S.fd (d 0),cond v S.yk (e 0),g,cond v S.g2 λi=>BP (b i),cond v S.h2 λi=>BP (b (8+i)),c⟩
variable (a:Nat→Nat)(ta:Nat)
noncomputable def Rj:List (List Nat→List Nat→List Obj→Ak):=[λb c d=>Ez K.it K.cl i K.xs K.n (AG a ta),λb c d=>VS w.2 K.m K.d K.j2 K.bj K.bp ta u1 K.q (sf a) y (.str (sf K.b) K.t) S.mbv (cond v (.ref S.fd) .none),λb c d=>Us w.2 K.m K.d K.j2 K.bj K.bp K.q (cond v (.ref S.fd) .none) a K.b ta K.t,λb c d=>cond v (Uu w.2 K.m K.d K.j2 K.bj K.bp S.fd K.q a K.b S.g2 S.h2 ta K.t) (Ut w.2 K.m K.d K.j2 K.bj K.bp K.q a K.b ta K.t)]
noncomputable abbrev VX:List (Nat×List Nat):=[(0,[1,2]),(0,[3,4]),(0,[3,4]),(1,cond v [3,4,17] [3,4])]
noncomputable abbrev fK:Prop:=AI w 103 (BS FR K.it (FQ K.f)) (HW w K S v tb y u1 vs (liO K.cl i)) [2,0,1,1,1,4,0,0,0,4,0,0,0,4,0,0,0,0,4,5,1,0,1,4,0,0,0,4,0,0,0,4,0,0,0,0,4,5,0,1,1,1,4,0,0,0,4,0,0,0,4,0,0,0,0,4,5,0,1,1] (AE (VX v) (Rj w K S v i y u1 a ta)) (Bh [1] [λe g h=>(.bool (IX (Bl (cnt a K.b 8))),.bool false)]) 0 470 2500 [0,1,2,3,4,5,6,7,8,9,10,11,12,13,14,15,16,17]
   (λb c d=>.again (BS FR K.it (FQ K.f))) (λb c d=>HW w K (O1 S v b c d S.nr .none) true tb (sf a) ta vs (liO K.cl (i+1))) 3
theorem fL:fK w K S v i tb y u1 vs a ta:=by
 cases v <;> kernel_rfl
variable (bs:List (Nat×Nat))
noncomputable abbrev VY(b:List Nat):Value:=.ref (cond v S.fd (tk b 0))
noncomputable def VZ:List (List Nat→List Nat→List Obj→Ak):=[λb d c=>Rd w.2 K.m K.d K.j2 K.bj K.bp K.q a K.b K.g K.l K.g' (VY S v b) ta K.t tb bs,λb d c=>VM w.2 K.m K.d K.j2 K.bj K.bp (tk b (cond v 0 1)) (bs.length+3) (Ao c (cond v 0 16)) K.q a K.b (VY S v b) ta K.t (KI (tk b) (Ao c) (cond v 1 2) (cond v 1 17) (bs++[(8,0)])),λb d c=>CQ K.rs vs S.nr (.ref (tk b (bs.length+cond v 2 3)))]
noncomputable abbrev fM:Prop:=AI w 172 (BS FR K.it (FQ K.f)) (HW w K S v tb y u1 vs (liO K.cl i)) [2,0,1,1,1,4,0,0,0,4,0,0,0,4,0,0,0,0,4,5,1,0,1,4,0,0,0,4,0,0,0,4,0,0,0,0,4,5,0,1,1,1,4,0,0,0,4,0,0,0,4,0,0,0,0,4,5,0,1,1,1,4,0,0,0,4,0,0,0,4,0,0,0,0,4,5,0,1,1,1,17,17,17,17,1,4,0,0,0,4,0,0,0,4,0,0,0,0,4,5,0,1] (AE (VX v++[(1,[3,4,5,6,7,8,9,10,11,12,13,14,15]),(1,[3,4,18,15]++List.range' 19 (bs.length+1)),(0,[16])]) (Rj w K S v i y u1 a ta++VZ w K S v tb vs a ta bs)) (Bh [1,0] [λe g h=>(.bool (IX (Bl (cnt a K.b 8))),.bool true),λe g h=>(.bool (IX (Bl (G2 bs))),.bool true)]) 0 470 2500 ([0,1,2,3,4,5,6,7,8,9,10,11,12,13,14,15,16,17]++[bs.length+20])
   (λb c d=>.again (BS FR K.it (FQ K.f))) (λb c d=>HW w K (O1 S v b c d (S.nr+1) (.ref (b (cond v 0 1)))) true (Fy (BP (d (cond v 0 16)))) (sf a) ta (vs++[.ref (b (bs.length+cond v 2 3))]) (liO K.cl (i+1))++[(b (bs.length+cond v 2 3),tu [.float (Bl (G2 bs)) (c 4),.str (sf a) ta] 0)]) 5
end
theorem fN{w:Aa}{K:GK}{S:GS}{v:Bool}{i:Nat}{tb:List Value}{y:Str}{u1:Nat}{vs:List Value}{a:Nat→Nat}{ta:Nat}: ∀{bs:List (Nat×Nat)},(tb=[]∨ ∃c:Nat,tb=Fy c)→bs≠[]→bs.length≤4→fM w K S v i tb y u1 vs a ta bs
 |[],_,h,_=>absurd rfl h
 |[c0],h,_,_=>by rcases h with rfl|⟨c,rfl⟩ <;> cases v <;> kernel_rfl
 |[c0,c1],h,_,_=>by rcases h with rfl|⟨c,rfl⟩ <;> cases v <;> kernel_rfl
 |[c0,c1,b],h,_,_=>by rcases h with rfl|⟨c,rfl⟩ <;> cases v <;> kernel_rfl
 |[c0,c1,b,d],h,_,_=>by rcases h with rfl|⟨c,rfl⟩ <;> cases v <;> kernel_rfl
 |_::_::_::_::_::_,_,_,h=>absurd h (by (first|((repeat(first|exact .head _|apply List.mem_cons_of_mem));done)|simp))
end
section
structure RE where
 T:Nat
 j:Nat
 ft:Nat
noncomputable def MF(A:Nat→Nat→Nat)(ct:Nat→Nat)(b:Nat→Nat)(e:RE):Obj:=tu [.float (Bl (cnt (A e.j) b 8)) e.ft,.str (sf (A e.j)) (ct e.j)] 0
noncomputable def RL(A:Nat→Nat→Nat)(ct:Nat→Nat)(b:Nat→Nat)(R:List RE):Ae:=R.map λe=>(e.T,MF A ct b e)
noncomputable abbrev Gr(R:List RE):List Value:=R.map λe=>Value.ref e.T
noncomputable def MG(A:Nat→Nat→Nat)(b:Nat→Nat)(i:Nat):Bool:=IX (Bl (cnt (A i) b 8))
noncomputable def hits(A:Nat→Nat→Nat)(b:Nat→Nat)(i:Nat):List Nat:=(List.range i).filter (MG A b)
theorem V0(A:Nat→Nat→Nat)(b:Nat→Nat)(i:Nat):hits A b (i+1)=hits A b i++if MG A b i=true then[i]else[]:=by
 unfold hits;rw[Kb,List.filter_append];congr 1;cases h:MG A b i <;> simp[h]
structure IY(A:Nat→Nat→Nat)(ct:Nat→Nat)(N:Nat):Prop where
 le:N≤256
 lt: ∀i,i<N→Lt (A i)
 ne: ∀i j,i<N→j<N→i≠j→sf (A i)≠sf (A j)
 t0: ∀i,i<N→810≤ct i
 tn: ∀i j,i<N→j<N→i≠j→ct i≠ct j
noncomputable def B9(A:Nat→Nat→Nat)(ct:Nat→Nat)(N:Nat):List Value:=(List.range N).map λi=>.str (sf (A i)) (ct i)
theorem fO{A:Nat→Nat→Nat}{ct:Nat→Nat}{N i:Nat}(h:i<N):(B9 A ct N)[i]? =some (.str (sf (A i)) (ct i)):=by
 unfold B9;rw[Jj,Ll h];rfl
section
variable (w:Aa)(K:GK)(A:Nat→Nat→Nat)(ct:Nat→Nat)
noncomputable abbrev Rk:Ae:=HW w K ⟨0,0,0,λ_=>0,λ_=>0,.none⟩ false [] ⟨⟨[]⟩⟩ 539 [] (liO K.cl 0)
noncomputable abbrev KN(i:Nat)(S:GS)(a:List Value)(R:List RE):Ae:=HW w K S true a (sf (A i)) (ct i) (Gr R) (liO K.cl (i+1))++RL A ct K.b R
end
theorem fP(a b c:Ae):(a++b++c).Perm (a++c++b):=by
 rw[Dr,Dr];exact List.perm_append_comm.append_left a
theorem fQ(A:Nat→Nat→Nat)(ct:Nat→Nat)(b:Nat→Nat)(R:List RE)(x:RE):RL A ct b (R++[x])=RL A ct b R++[(x.T,MF A ct b x)]:=by simp[RL]
theorem fR(R:List RE)(x:RE):Gr (R++[x])=Gr R++[.ref x.T]:=by simp[Gr]
noncomputable def MH(a:List Value):Prop:=a=[]∨ ∃c:Nat,a=Fy c
theorem V1(b:Nat→Nat):sf b≠⟨⟨[]⟩⟩:=by
 intro h;have:=Am (λs:Str=>s.cps.toList.length) h;simp[sf]at this
theorem fS:IX (Bl 0)=false:=by decide+kernel
theorem V2{w:Aa}{B:Al}(u:B.handled=none)(z:B.depth≤470)(C:B.units≤2500){A:Nat→Nat→Nat}{ct:Nat→Nat}{N:Nat}(W:IY A ct N){K:GK}(F:K.xs=B9 A ct N)(n:Lt K.b){S:GS}{v:Bool}{i:Nat}(o:i<N){b:List Value}{y:Str}{c:Nat}{R:List RE}(d:MH b)(s:R.map RE.j=hits A K.b i)(G:c≠0)(H:ct i≠c)(I:sf (A i)≠y){D:Result→Ae→List Nat→Prop}
  (m: ∀(S:GS) (b:List Value) (V:List RE),MH b→(R++V).map RE.j=hits A K.b (i+1)→RunsW w B (BS FR K.it (FQ K.f)) (KN w K A ct i S b (R++V)) λr L J=>D r L (V.map RE.ft++J)):
  RunsW w B (BS FR K.it (FQ K.f)) (HW w K S v b y c (Gr R) (liO K.cl i)++RL A ct K.b R) D:=by
 have t:=W.lt _ o;have E:DD w (Rj w K S v i y c (A i) (ct i)):=Ah (λ_ _ _=>HJ (by rw[F];exact fO o)) (Ah (λ_ _ _=>fH (λe=>absurd (W.t0 _ o) (by rw[e];decide)) G H I) (Ah (λ_ _ _=>wP) (Ah (λ_ _ _=>by cases v;exact wQ t n;exact wT t n) AC)));obtain⟨_,M,O⟩:=OX (A i) K.b;have j:Bl (G2 (B3 (A i) K.b))=Bl (cnt (A i) K.b 8):=by rw[O]
 by_cases a:MG A K.b i=true
 ·have P:B3 (A i) K.b≠[]:=λh=>by
   rw[h]at j;exact Fm ((fS.symm.trans (Am IX j)).trans a)
  have Q:DD w (VZ w K S v b (Gr R) (A i) (ct i) (B3 (A i) K.b)):=Ah (λ_ _ _=>dN t n d) (Ah (λ_ _ _=>dK (by rw[Rb];exact VN)) (Ah (λ_ _ _=>EN (by
   have:=Am Iu s;rw[BY]at this⊢;rw[this];exact Ay (List.length_filter_le _ _) (by rw[F9];have:=W.le;(first|lia|omega)))) AC))
  refine EO (fN d P M) (RL A ct K.b R) (AW _) [4] u z C (AD _ _ (HD E Q)) (Bi _ _ (Az (λ_ _ _=>Am Value.bool a) (Az (λ_ _ _=>Am Value.bool ((Am IX j).trans a)) Bp))) λg k l=>⟨_,?_,m (O1 S v g k l (S.nr+1) (.ref (g (cond v 0 1)))) (Fy (BP (l (cond v 0 16)))) [⟨g ((B3 (A i) K.b).length+cond v 2 3),i,k 4⟩] (.inr ⟨_,rfl⟩) (by rw[BC,s,V0,AS a];rfl)⟩
  unfold KN;rw[fR,fQ,←Dr,j];exact fP _ _ _
 ·refine EO (fL w K S v i b y c (Gr R) (A i) (ct i)) (RL A ct K.b R) (AW _) [] u z C (AD _ _ E) (Bi _ _ (Az (λ_ _ _=>Am Value.bool (eq_false_of_ne_true a)) Bp)) λg k l=>⟨_,?_,m (O1 S v g k l S.nr .none) b [] d (by rw[BV,s,V0,AH a,BV])⟩
  unfold KN;rw[BV]
theorem fT{w:Aa}{B:Al}(j:B.handled=none)(k:B.depth≤470)(l:B.units≤2500){A:Nat→Nat→Nat}{ct:Nat→Nat}{N:Nat}(W:IY A ct N){K:GK}(m:K.xs=B9 A ct N)(n:Lt K.b){i:Nat}(b:i+1<N){S:GS}{a:List Value}{R:List RE}(d:MH a)(o:R.map RE.j=hits A K.b (i+1)){g:Result→Ae→List Nat→Prop}
  (h: ∀(S:GS) (a:List Value) (V:List RE),MH a→(R++V).map RE.j=hits A K.b (i+2)→RunsW w B (BS FR K.it (FQ K.f)) (KN w K A ct (i+1) S a (R++V)) λr L s=>g r L (V.map RE.ft++s)):
  RunsW w B (BS FR K.it (FQ K.f)) (KN w K A ct i S a R) g:=
 have c:=Nat.lt_of_succ_lt b
 V2 j k l W m n b d o (λe=>absurd (W.t0 _ c) (by rw[e];decide)) (W.tn _ _ b c (NK i)) (W.ne _ _ b c (NK i)) h
end
theorem fU(w:Aa)(f a b n i:Nat)(o:Obj)(c:List Value):
  AI w 11 (BS FR a (FQ f)) ([(f,o),(a,liO b i),(b,li c n)]) [2,5] (AE [(0,[1,2])] ([λh j k=>Mt a b i c n])) [] 1 470 2500 [0,1,2]
   (λd e g=>.done .next) (λd e g=>[(f,o),(a,fi Bo [.none,.int (↑i) 0]),(b,li c n)]) 0:=by
 kernel_rfl
section
section
variable (w:Aa)(K:GK)(A:Nat→Nat→Nat)(ct:Nat→Nat)
noncomputable abbrev fV(i:Nat)(S:GS)(a:List Value)(R:List RE):Ae:=HW w K S true a (sf (A i)) (ct i) (Gr R) (fi Bo [.none,.int ((i+1:Nat):Int) 0])++RL A ct K.b R
noncomputable def V3(a:List RE)(i:Nat)(r:Result)(L:Ae)(b:List Nat):Prop:=r= .ok .next∧Ei λ (S:GS) (c:List Value) (V:List RE)=>(a++V).map RE.j=hits A K.b (i+1)∧b=V.map RE.ft∧L=fV w K A ct i S c (a++V)
end
theorem fW{w:Aa}{B:Al}(g:B.handled=none)(h:B.depth≤470)(j:B.units≤2500){A:Nat→Nat→Nat}{ct:Nat→Nat}{N:Nat}(W:IY A ct N){K:GK}(k:K.xs=B9 A ct N)(s:Lt K.b){z:Nat}(hz:z+1=N):
  ∀(r i:Nat),i+r=z→ ∀(S:GS) (a:List Value) (R:List RE),MH a→R.map RE.j=hits A K.b (i+1)→RunsW w B (BS FR K.it (FQ K.f)) (KN w K A ct i S a R) (V3 w K A ct R z):=by
 intro r
 induction r with
 |zero=>
  intro i l S a R m b;obtain rfl:i=z:=l;refine Me (F:=Ri w K S true a (sf (A i)) (ct i) (Gr R)++RL A ct K.b R) (Φ:=λr L c=>c=[]∧r= .ok .next∧L=[(K.f,Rh w K S true (sf (A i)) (ct i)),(K.it,fi Bo [.none,.int ((i+1:Nat):Int) 0]),(K.cl,li K.xs K.n)])
   (Bf (fU w K.f K.it K.cl K.n (i+1) (Rh w K S true (sf (A i)) (ct i)) K.xs) [] g h j (AD _ _ (Ah (λ_ _ _=>IQ (by rw[k];unfold B9;rw[hz];(first|((repeat(first|exact .head _|apply List.mem_cons_of_mem));done)|simp))) AC)) Ar λC D E=>⟨rfl,rfl,rfl⟩) ?_
  rintro r L c ⟨d,e,rfl⟩;exact⟨e,S,a,[],by rw[BV];exact b,d,by rw[BV];rfl⟩
 |succ r t=>
  intro i l S a R m b;refine fT g h j W k s (by (first|lia|omega)) m b λS a V n o=>(t (i+1) (by (first|lia|omega)) S a (R++V) n o).mono ?_;rintro r L c ⟨d,S,a,u,e,v,y⟩;exact⟨d,S,a,V++u,by rw[←Dr];exact e,by rw[v,BC],by rw[←Dr];exact y⟩
theorem fX{w:Aa}{B:Al}(b:B.handled=none)(c:B.depth≤470)(d:B.units≤2500){A:Nat→Nat→Nat}{ct:Nat→Nat}{N:Nat}(W:IY A ct N){K:GK}(g:K.xs=B9 A ct N)(h:Lt K.b){z:Nat}(hz:z+1=N):
  RunsW w B (BS FR K.it (FQ K.f)) (Rk w K) (V3 w K A ct [] z):=by
 have i:0<N:=by (first|lia|omega)
 rw[←BV (Rk w K)];refine V2 (R:=[]) b c d W g h i (.inl rfl) rfl (by decide) (λe=>absurd (W.t0 _ i) (by rw[e];decide)) (V1 _) λS a V j k=>(fW b c d W g h hz z 0 (Ga z) S a V j k).mono ?_;rintro r L t ⟨l,S,a,m,n,o,s⟩;exact⟨l,S,a,V++m,n,by rw[o,BC],s⟩
end
theorem fY{b:Type}{l a:List b}(h:l=a):l.Sublist a:=h▸List.Sublist.refl _
theorem Rl{b:Type}(f:b→Nat)(g:b→Obj)(l:List b):BH (l.map f) (l.map g)=l.map λk=>(f k,g k):=by
 induction l with
 |nil=>rfl
 |cons a l c=>exact Am (_:: ·) c
theorem V4{a:Type}(f:Nat→a)(n k:Nat)(d:a)(h:k<n):((List.range n).map f).getD k d=f k:=by
 simp[List.getD,Jj,Ll h]
theorem O2{a:Type}(R:List a)(z:a):(List.range R.length).map (λj=>R.getD j z)=R:=by
 apply Hn
 ·(first|((repeat(first|exact .head _|apply List.mem_cons_of_mem));done)|simp)
 ·intro i c b
  simp[List.getD,b]
noncomputable def MJ(o:Obj):List Value:=match o.data with
 | .fields a=>a.toList
 |_=>[]
structure IZ(h:Nat)(pos ip:Nat→Nat):Prop where
 lt: ∀j,j<h→pos j<h
 ipp: ∀j,j<h→ip (pos j)=j
 pi: ∀k,k<h→pos (ip k)=k
 pe:((List.range h).map ip).Perm (List.range h)
structure Rm(A:Nat→Nat→Nat)(b:Nat→Nat)(N h:Nat)(hh pos ip:Nat→Nat):Prop where
 o:IZ h pos ip
 hit:hits A b N=(List.range h).map λj=>hh (pos j)
noncomputable def O3(A:Nat→Nat→Nat)(c:Nat→Nat)(b a:Nat→Nat)(k d:Nat):Obj:=tu [.float (Bl (cnt (A (a k)) b 8)) d,.str (sf (A (a k))) (c (a k))] 0
noncomputable def Rn(w:Aa)(K:GK)(A:Nat→Nat→Nat)(a:Nat→Nat)(N:Nat)(e b g:Nat→Nat)(h:Nat):Ak:=
 {d:=470,u:=2500,h:=none,c:=BS FR K.it (FQ K.f),idx:=[],pre:=Rk w K,na:=h,nt:=h,no:=5,r:=λ_ _=>.ok .next,
  outs:=λx _ o=>[VW w.2 K.e K.b K.t K.cl K.k K.tk0 K.rs K.m [Ad w Gi (Ao o 0) (.str (sf (A (N-1))) (a (N-1)))] 7,o.getD 1 default,li K.xs K.n,mO K.d,o.getD 2 default,CD w.2,B2 w.2 K.b K.g K.l]++(AZ K.l K.g').map (·.2)++[AP (MJ (o.getD 3 default)),li ((List.range h).map λj=>.ref (x.getD (b j) 0)) (Ao o 4)],
  news:=λ_ t o=>(List.range h).map λk=>O3 A a K.b e k (tk t (g k))}
theorem fZ{w:Aa}{K:GK}{A:Nat→Nat→Nat}{b:Nat→Nat}{N:Nat}{i g a:Nat→Nat}{h:Nat}(W:IY A b N)(H:K.xs=B9 A b N)(I:Lt K.b)(u:0<N)(D:Rm A K.b N h i g a):Av w (Rn w K A b N i g a h):=by
 refine Ba.ext λB J M O=>λs S=>B4 (fX O J M W H I (Nat.sub_add_cancel u) s S) λr X hz=> ?_;obtain⟨Y,v,⟨P,T,Q,R,l,y,C⟩,E,U⟩:=hz;rw[List.nil_append]at l C;rw[Nat.sub_add_cancel u,D.hit]at l;have m:R.length=h:=by
  have:=Am Iu l;rwa[BY,BY,F9]at this
 generalize hz:(⟨0,0,0⟩:RE)=z;have d: ∀j,j<h→(R.getD j z).j=i (g j):=λj d=>by
  have:=Am (λL:List Nat=>L.getD j 0) l;simp only[V4 _ _ _ _ d]at this;rw[←this];have t:j<R.length:=m▸d;simp[List.getD,t]
 have F:(List.range h).map (λj=>R.getD j z)=R:=by rw[←m];exact O2 R z
 have V:((List.range h).map λk=>R.getD (a k) z).Perm R:=by
  have:=D.o.pe.map λj=>R.getD j z;rwa[F,BZ]at this
 have n: ∀k,k<h→a k<h:=λk c=>List.mem_range.mp (D.o.pe.mem_iff.mp (B6 (List.mem_range.mpr c)));have G:RL A b K.b ((List.range h).map λk=>R.getD (a k) z)=(List.range h).map λk=>((R.getD (a k) z).T,O3 A b K.b i k (R.getD (a k) z).ft):=by
  unfold RL;rw[BZ];refine DU λk c=> ?_;have c:=List.mem_range.mp c;show(_,MF A b K.b _)=_;unfold MF O3;rw[d _ (n k c),D.o.pi k c]
 have err:Gr R=(List.range h).map λj=>.ref (((List.range h).map λk=>(R.getD (a k) z).T).getD (g j) 0):=by
  conv=>lhs;rw[←F]
  unfold Gr;rw[BZ];refine DU λj d=> ?_;have d:=List.mem_range.mp d;refine (?_:Value.ref _=Value.ref _);rw[V4 _ _ _ _ (D.o.lt j d),D.o.ipp j d]
 have en: ∀o,(Rn w K A b N i g a h).news ((List.range h).map λk=>(R.getD (a k) z).T) v o=(List.range h).map λk=>O3 A b K.b i k (R.getD (a k) z).ft:=λo=>by
  refine DU λk c=> ?_;have c:=List.mem_range.mp c;have t:a k<R.length:=m▸n k c;congr 1;rw[y];show(R.map RE.ft).getD (a k) 0=_;simp[List.getD,t]
 refine⟨_,v,⟨(List.range h).map λk=>(R.getD (a k) z).T,[Ac T.yk,fi Bo [.none,.int ((N-1+1:Nat):Int) 0],AT w.2 K.q (.str (sf (A (N-1))) (b (N-1))) (.str (sf K.b) K.t) T.mbv (.ref T.fd) K.j2 K.bj K.bp,AP Q,Ac T.nr],by rw[BY,F9];rfl,by rw[y,BY];exact m,rfl,P,rfl⟩,?_,U⟩;rw[en,Rl,←G];rw[C]at E;refine((E.permR ((V.map λe=>(e.T,MF A b K.b e)).symm.append_left _)).subs ?_);refine List.Sublist.append_right ?_ _;unfold HW Ri;refine(fY ?_).trans ((EW _ _).append_left _);rw[err];rfl
structure El where
 T:Nat
 c:Nat
 ft:Nat
 s:Str
 st:Nat
noncomputable def BN(e:El):Obj:=tu [.float (Bl e.c) e.ft,.str e.s e.st] 0
theorem JP: ∀i j,i<9→j<9→Float64.cmp (Bl i) (Bl j)=some (compare i j):=by
 have h: ∀i:Fin 9,∀j:Fin 9,Float64.cmp (Bl i.val) (Bl j.val)=some (compare i.val j.val):=by decide+kernel
 exact λi j a b=>h ⟨i,a⟩ ⟨j,b⟩
theorem gA{i j:Nat}(a:i<9)(b:j<9)(h:Bl i=Bl j):i=j:=by
 have:=JP i i a a;rw[show Float64.cmp (Bl i) (Bl i)=Float64.cmp (Bl i) (Bl j)from by rw[h],JP i j a b]at this;have e:compare i j=compare i i:=GG this;rw[Nat.compare_eq_eq.mpr rfl]at e;exact Nat.compare_eq_eq.mp e
noncomputable def Cp(x y:El):Bool:=decide (y.c<x.c)||(x.c==y.c&&decide (y.s.cps.toList<x.s.cps.toList))
structure CX(x y:El):Prop where
 xc:x.c<9
 yc:y.c<9
 x0:x.ft≠0
 y0:y.ft≠0
 ft:x.ft≠y.ft
 s:x.s≠y.s
theorem CX.symm{x y:El}(h:CX x y):CX y x:=⟨h.yc,h.xc,h.y0,h.x0,h.ft.symm,h.s.symm⟩
theorem O4{A:Al}{s:Ab}(c:NoneBooked s.heap){x y:El}(h:CX x y):EqAt A s (.float (Bl x.c) x.ft) (.float (Bl y.c) y.ft) (x.c==y.c):=by
 have:=EqAt.float (A:=A) c (a:=Bl x.c) (b:=Bl y.c) h.x0 h.y0 h.ft λe=>by
  rw[gA h.xc h.yc e,JP _ _ h.yc h.yc,Nat.compare_eq_eq.mpr rfl];rfl
 rw[JP _ _ h.xc h.yc]at this;have e:(some (compare x.c y.c)==some Ordering.eq)=(x.c==y.c):=by
  by_cases q:x.c=y.c
  ·rw[q,Nat.compare_eq_eq.mpr rfl];(first|((repeat(first|exact .head _|apply List.mem_cons_of_mem));done)|simp)
  ·rw[beq_eq_false_iff_ne.mpr q]
   refine beq_eq_false_iff_ne.mpr λz=>q ?_;exact Nat.compare_eq_eq.mp (GG z)
 rwa[e]at this
theorem O5{A:Al}{s:Ab}{x y:El}(h:CX x y):EqAt A s (.str x.s x.st) (.str y.s y.st) false:=by
 have:=EqAt.str_str (A:=A) (s:=s) x.s x.st y.s y.st;rwa[beq_eq_false_iff_ne.mpr h.s]at this
theorem gB{A:Al}{s:Ab}(a:NoneBooked s.heap){x y:El}(h:CX x y):G1 .Gt A s [.float (Bl x.c) x.ft,.str x.s x.st] [.float (Bl y.c) y.ft,.str y.s y.st] (Cp x y):=by
 have f:=O4 (A:=A) a h;unfold Cp;cases q:x.c==y.c with
 |false=>
  rw[q]at f;have c:=CE.float_gt A s (Bl x.c) (Bl y.c) x.ft y.ft;rw[JP _ _ h.xc h.yc]at c;have e:(some (compare x.c y.c)==some Ordering.gt)=(decide (y.c<x.c)||(false&&decide (y.s.cps.toList<x.s.cps.toList))):=by
   rw[Bool.false_and,Lw]
   by_cases z:y.c<x.c
   ·rw[Nat.compare_eq_gt.mpr z];simp[z]
   ·simp only[z,decide_false]
    refine beq_eq_false_iff_ne.mpr λv=>z ?_;exact Nat.compare_eq_gt.mp (GG v)
  rw[e]at c;exact .diff f c
 |true=>
  rw[q]at f;have z: ¬y.c<x.c:=by have:=eq_of_beq q;(first|lia|omega)
  rw[show decide (y.c<x.c)=false from by simp[z],Bool.false_or,Bool.true_and];exact .same f (.diff (O5 h) (CE.str_gt A s _ _ _ _))
theorem Ro{A:Al}{s:Ab}(b:NoneBooked s.heap){x y:El}(h:CX x y):G1 .Lt A s [.float (Bl x.c) x.ft,.str x.s x.st] [.float (Bl y.c) y.ft,.str y.s y.st] (Cp y x):=by
 have f:=O4 (A:=A) b h;unfold Cp;cases q:x.c==y.c with
 |false=>
  rw[q]at f;have c:=CE.float_lt A s (Bl x.c) (Bl y.c) x.ft y.ft;rw[JP _ _ h.xc h.yc]at c;have a:(y.c==x.c)=false:=by rw[BEq.comm];exact q
  have e:(some (compare x.c y.c)==some Ordering.lt)=(decide (x.c<y.c)||((y.c==x.c)&&decide (x.s.cps.toList<y.s.cps.toList))):=by
   rw[a,Bool.false_and,Lw]
   by_cases z:x.c<y.c
   ·rw[Nat.compare_eq_lt.mpr z];simp[z]
   ·simp only[z,decide_false]
    refine beq_eq_false_iff_ne.mpr λv=>z ?_;exact Nat.compare_eq_lt.mp (GG v)
  rw[e]at c;exact .diff f c
 |true=>
  rw[q]at f;have z: ¬x.c<y.c:=by have:=eq_of_beq q;(first|lia|omega)
  have a:(y.c==x.c)=true:=by rw[BEq.comm];exact q
  rw[show decide (x.c<y.c)=false from by simp[z],Bool.false_or,a,Bool.true_and];exact .same f (.diff (O5 h) (CE.str_lt A s _ _ _ _))
set_option maxHeartbeats 4000000
noncomputable def I0:Option Value→Flow
 |some v=>.ret v
 |none=>.next
noncomputable def trNext(v:Value):Sem AA:=pyNext v>>=λo=>pure (.done (I0 o))
lay_quick trNext
set_option maxHeartbeats 400000
noncomputable abbrev O6(a:Nat):=(tw14694477216599127761 (.ref a))
theorem gC(w:Aa)(a b n i:Nat)(v:Value)(c:List Value):
  AF w 8 (O6 a) (Gn a b i c n) [1] (AE [(0,[0,1])] ([λh j k=>Ez a b i c n v])) [] 520 3000 [0,1]
   (λd e g=>.done (.ret v)) (λd e g=>[(a,fi Bo [.ref b,.int (↑(i+1)) 0]),(b,li c n)]) 0:=by
 kernel_rfl
noncomputable abbrev JQ(a b c:Nat)(d:List Value)(e:Nat):=(AE [(0,[0,1])] ([λg h i=>Mt a b c d e]))
noncomputable abbrev JR(a b c:Nat)(d:List Value)(e:Nat):=[(a,fi Bo [.none,.int (↑ b) 0]),(c,li d e)]
theorem gE(w:Aa)(a b n i:Nat)(c:List Value):
  AF w 9 (O6 a) (Gn a b i c n) [1,4] (JQ a b i c n) [] 520 3000 [0,1]
   (λd e g=>.done .next) (λd e g=>(JR a i b c n)) 0:=by
 kernel_rfl
theorem O7{a b:Option Value}(h:I0 a=I0 b):a=b:=by
 cases a <;> cases b <;> simp[I0]at h⊢
 exact h
theorem MK{w:Aa}{A:Al}(d:A.handled=none)(e:A.depth≤520)(g:A.units≤3000){a rs n i:Nat}{v:Value}{vs:List Value}(j:vs[i]? =some v){s:Ab}{Q:Option Value→Ab→Prop}{k:Value→Ab→Prop}{F L:Ae}
  (c:((Gn a rs i vs n)++F).Perm L) (S:An (kt w) s L) (h: ∀b,Ag (kt w) s b L ([(a,liO rs (i+1)),(rs,li vs n)]++F)→Q (some v) b):wpAny (model pw w) A (pyNext (.ref a)) Q k s:=
 Bq (gC w a rs n i v vs) I0 (Ai te14694477216599127761 (.ref a)) [] d e g (AD _ _ (Ah (λ_ _ _=>HJ j) AC)) Ar ((S.perm c.symm).left) λo r t b x l _ m=>by
  obtain rfl:x=some v:=O7 m;exact h b ((l.frame (S.perm c.symm)).permL c)
theorem O8{w:Aa}{A:Al}(d:A.handled=none)(e:A.depth≤520)(g:A.units≤3000){a rs n i:Nat}{vs:List Value}(j:vs[i]? =none){s:Ab}{Q:Option Value→Ab→Prop}{k:Value→Ab→Prop}{F L:Ae}
  (c:([(a,liO rs i),(rs,li vs n)]++F).Perm L) (S:An (kt w) s L) (h: ∀b,Ag (kt w) s b L ([(a,fi Bo [.none,.int (i:Int) 0]),(rs,li vs n)]++F)→Q none b):wpAny (model pw w) A (pyNext (.ref a)) Q k s:=
 Bq (gE w a rs n i vs) I0 (Ai te14694477216599127761 (.ref a)) [] d e g (AD _ _ (Ah (λ_ _ _=>IQ j) AC)) Ar ((S.perm c.symm).left) λo r t b x l _ m=>by
  obtain rfl:x=none:=O7 m;exact h b ((l.frame (S.perm c.symm)).permL c)
noncomputable abbrev HX:Str:=⟨⟨[100,101,102,97,117,108,116]⟩⟩
noncomputable def EL(X:List El):Ae:=X.map λe=>(e.T,BN e)
noncomputable abbrev Ax(X:List El):List Value:=X.map λe=>Value.ref e.T
noncomputable abbrev V5(b c a:Nat):Code:=.builtin "max.loop" ⟨[.ref b,.none,.ref c],[(HX,.ref a)]⟩
theorem HY{X:List El}{e:El}(h:e∈X):(e.T,BN e)∈EL X:=B6 h
theorem gF{w:Aa}{A:Al}{R:Result→Ab→Prop}(Q:A.in1.handled=none)(T:A.in1.depth≤520)(P:A.in1.units≤3000){C d l U n:Nat}{X:List El}{m:El}(V:X.Pairwise CX)(hm:m∈X)(W: ∀y∈X,y≠m→Cp m y=true∧Cp y m=false):
  ∀(k j:Nat) (s:Ab) (b:El) (c:Nat),X.length=j+1+k→j+1≤X.length→b∈X.take (j+1)→(m∈X.take (j+1)→b=m)→
  An (kt w) s ([(C,liO l (j+1)),(l,li (Ax X) n),(d,li [.ref b.T,.ref b.T] c)]++EL X)→
  (∀D H,Ag (kt w) s D ([(C,liO l (j+1)),(l,li (Ax X) n),(d,li [.ref b.T,.ref b.T] c)]++EL X) ([(C,fi Bo [.none,.int (X.length:Int) 0]),(l,li (Ax X) n),(d,li [] H)]++EL X)→R (.ok (.ret (.ref m.T))) D)→
  codeAny (model pw w) A (V5 C d U) R s:=by
 have u:(toString "max"++toString ".loop":String)="max.loop":=by decide
 have Y:A.in1.units<cLine:=CM P (by decide);intro k
 induction k with
 |zero=>
  intro j s b c E hj J z S G;have L:j+1=X.length:=E.symm;have hS:=S.mem (d,li [.ref b.T,.ref b.T] c) (by (first|((repeat(first|exact .head _|apply List.mem_cons_of_mem));done)|simp));have Z:b=m:=z (by rw[NE (Jp E)];exact hm);refine EG F.entry_max_loop ?_;rw[EE F.plain_max_loop _];refine (?_:wpAny _ A.in1 (seqItems? (.ref d)>>=_) _ _ s);refine Af (C1 hS rfl ?_);refine (?_:wpAny _ A.in1 (tryCatch (pyNext (.ref C)) _>>=_) _ _ s);refine Af (wpAny_tryCatch (O8 Q T P (i:=j+1) (n:=n) (vs:=Ax X) (rs:=l) (by simp[L]) (F:=[(d,li [.ref b.T,.ref b.T] c)]++EL X) (by exact AW _) S λs1 a=> ?_));have I:=a.sat.mem (d,li [.ref b.T,.ref b.T] c) (by (first|((repeat(first|exact .head _|apply List.mem_cons_of_mem));done)|simp));refine (?_:wpAny _ A.in1 (updateSeq d (λ_=> #[])>>=_) _ _ _);refine Af ?_;refine wpAny_updateSeq I rfl (Af (wpAny_letGo (Aq ?_)));rw[←Z]at G;have B:=a.sat.set (i:=2) rfl (f:=Obj.mapSeq λ_=> #[]) (p:=(d,li [.ref b.T,.ref b.T] c)) rfl;have g:=a.trans B;rw[L]at g G;exact G _ _ g
 |succ k ih=>
  intro j s b c E hj J z S G;have o:j+1<X.length:=E.symm▸Lh (Gb k);have hS:=S.mem (d,li [.ref b.T,.ref b.T] c) (by (first|((repeat(first|exact .head _|apply List.mem_cons_of_mem));done)|simp));let v:=X[j+1];have hv:X[j+1]? =some v:=Et o;have K:X.take (j+2)=X.take (j+1)++[v]:=by rw[Ji,hv];rfl
  have M:v∈X:=C0 o;have N:b∈X:=Hl J;have ap: ∀y∈X.take (j+1),CX y v:=λy hy=>by
   have h:=V;rw[←NF (j+1) X,List.pairwise_append]at h;exact h.2.2 y hy v (by rw[NA o];exact Bj)
  have O:=(ap b J).symm;refine EG F.entry_max_loop ?_;rw[EE F.plain_max_loop _];refine (?_:wpAny _ A.in1 (seqItems? (.ref d)>>=_) _ _ s);refine Af (C1 hS rfl ?_);refine (?_:wpAny _ A.in1 (tryCatch (pyNext (.ref C)) _>>=_) _ _ s);refine Af (wpAny_tryCatch (MK Q T P (i:=j+1) (n:=n) (v:=.ref v.T) (vs:=Ax X) (rs:=l) (by simp[hv]) (F:=[(d,li [.ref b.T,.ref b.T] c)]++EL X) (by exact AW _) S λs1 a=> ?_));have I:=a.sat.mem (d,li [.ref b.T,.ref b.T] c) (by (first|((repeat(first|exact .head _|apply List.mem_cons_of_mem));done)|simp));have aa:=a.sat.mem (v.T,BN v) (BG _ (BG _ (HY M)));have ac:=a.sat.mem (b.T,BN b) (BG _ (BG _ (HY N)));refine (?_:wpAny _ A.in1 (tryCatch (holding [.ref v.T,.ref v.T] (richCompare .Gt (.ref v.T) (.ref b.T)>>=_)) _>>=_) _ _ _);refine Af (wpAny_tryCatch (Di (Af (CE.tuple_gt Y aa ac (gB (Mv a.sat) O) pw w _ _ ?_))));refine Af (Di (wpAny_truthy_bool ?_));refine Af (wpAny_letGo (Aq ?_));cases r:Cp v b with
  |true=>
   simp only[if_true];refine Af ?_;refine wpAny_updateSeq I rfl (Af (wpAny_letGo ?_));rw[u];have B:=a.sat.set (i:=2) rfl (f:=Obj.mapSeq λ_=> #[.ref v.T,.ref v.T]) (p:=(d,li [.ref b.T,.ref b.T] c)) rfl;refine Aq ⟨plainId_quiet F.plain_max_loop _,ih (j+1) _ v _ (E.trans (Lo (j+1) k 1)) o (by rw[K];(first|((repeat(first|exact .head _|apply List.mem_cons_of_mem));done)|simp)) (λt=> ?_) B.sat λD H g=>G D H ((a.trans B).trans g)⟩;rw[K]at t;rcases List.mem_append.mp t with h|h
   ·have e:=z h
    rw[e]at r;have vm:v≠m:=λq=>(ap m h).ft (by rw[q]);rw[(W v M vm).2]at r;cases r
   ·exact(List.mem_singleton.mp h).symm
  |false=>
   simp only[CZ,if_false];refine Af (wpAny_letGo ?_);rw[u];refine Aq ⟨plainId_quiet F.plain_max_loop _,ih (j+1) _ b c (E.trans (Lo (j+1) k 1)) o (by rw[K];exact Dh _ J) (λt=> ?_) a.sat λD H g=>G D H (a.trans g)⟩;rw[K]at t;rcases List.mem_append.mp t with h|h
   ·exact z h
   ·have e:m=v:=List.mem_singleton.mp h
    have bm:b≠m:=λq=>O.ft (by rw[←e,←q]);rw[←e,(W b N bm).1]at r;cases r
noncomputable abbrev AJ(a:Nat)(b:List El)(c:Nat):=(a,li (Ax b) c)
theorem gG{w:Aa}{A:Al}{R:Result→Ab→Prop}(o:A.in1.handled=none)(r:A.in1.depth≤520)(t:A.in1.units≤3000){b bs a sen n:Nat}{X:List El}{m:El}(u:X.Pairwise CX)(z:m∈X)(G: ∀y∈X,y≠m→Cp m y=true∧Cp y m=false)
  {s:Ab} {c:Nat} (S:An (kt w) s ([(b,liO a 0),AJ a X n,(bs,li [] c)]++EL X))
  (H: ∀e k,Ag (kt w) s e ([(b,liO a 0),AJ a X n,(bs,li [] c)]++EL X) ([(b,fi Bo [.none,.int (X.length:Int) 0]),AJ a X n,(bs,li [] k)]++EL X)→R (.ok (.ret (.ref m.T))) e):
  codeAny (model pw w) A (V5 b bs sen) R s:=by
 have g:(toString "max"++toString ".loop":String)="max.loop":=by decide
 have hS:=S.mem (bs,li [] c) (by (first|((repeat(first|exact .head _|apply List.mem_cons_of_mem));done)|simp));have l:0<X.length:=List.length_pos_of_mem z;let v:=X[0];have B:X[0]? =some v:=Et l;refine EG F.entry_max_loop ?_;rw[EE F.plain_max_loop _];refine (?_:wpAny _ A.in1 (seqItems? (.ref bs)>>=_) _ _ s);refine Af (C1 hS rfl ?_);refine (?_:wpAny _ A.in1 (tryCatch (pyNext (.ref b)) _>>=_) _ _ s);refine Af (wpAny_tryCatch (MK o r t (i:=0) (n:=n) (v:=.ref v.T) (vs:=Ax X) (rs:=a) (by simp[B]) (F:=[(bs,li [] c)]++EL X) (by exact AW _) S λs1 d=> ?_));have C:=d.sat.mem (bs,li [] c) (by (first|((repeat(first|exact .head _|apply List.mem_cons_of_mem));done)|simp));refine (?_:wpAny _ A.in1 (updateSeq bs (λ_=> #[.ref v.T,.ref v.T])>>=_) _ _ _);refine Af ?_;refine wpAny_updateSeq C rfl ?_;rw[g];have j:=d.sat.set (i:=2) rfl (f:=Obj.mapSeq λ_=> #[.ref v.T,.ref v.T]) (p:=(bs,li [] c)) rfl;have D:X.take 1=[v]:=by rw[Ji,B];rfl
 exact Aq ⟨plainId_quiet F.plain_max_loop _,gF o r t u z G _ 0 _ v _ (NG l).symm l (by rw[D];(first|((repeat(first|exact .head _|apply List.mem_cons_of_mem));done)|simp)) (λh=>by rw[D]at h;exact(List.mem_singleton.mp h).symm) j.sat λe k E=>H e k ((d.trans j).trans E)⟩
theorem gJ(w:Aa)(a b i:Nat):
  AF w 14 (tw1895007636148923766 (.ref a)) ([(a,liO b i)]) [1,1,1,1,1] [] [] 520 3000 [0]
   (λc d e=>.done (.ret (.ref a))) (λc d e=>[(a,fi Bo [.ref b,.int (↑i) 0])]) 0:=by
 kernel_rfl
noncomputable abbrev FS:Str:=⟨⟨[107,101,121]⟩⟩
theorem gK(a b:Value):argsOk "max" ⟨[a],[(HX,b),(FS,.none)]⟩:=by unfold argsOk;kernel_rfl
noncomputable def I1(a b e n:Nat)(X:List El)(m:El):Ak:=
 {d:=500,u:=2800,h:=none,c:=.call (.builtin On) ⟨[.ref a],[(HX,.ref e),(FS,.none)]⟩,idx:=[],pre:=[(a,liO b 0),AJ b X n]++EL X,na:=0,nt:=0,r:=λ_ _=>.ok (.ret (.ref m.T)),outs:=λ_ _ _=>[fi Bo [.none,.int (X.length:Int) 0],li (Ax X) n]++X.map BN,news:=λ_ _ _=>[]}
theorem Rp: ∀X:List El,Bk (EL X) (X.map BN)=EL X
 |[]=>rfl
 |e::X=>Am (_:: ·) (Rp X)
theorem gL{w:Aa}{it rs sen n:Nat}{X:List El}{m:El}(B:X.Pairwise CX)(I:m∈X)(J: ∀y∈X,y≠m→Cp m y=true∧Cp y m=false):Av w (I1 it rs sen n X m):=by
 intro A K L M s S _;have C:A.in1.handled=none:=M;have h:A.in1.depth≤520:=Ay (show A.in1.depth≤500 from K) (by decide);have i:A.in1.units≤3000:=Ay (show A.in1.units≤2801 from Cz L 1) (by decide);have S:An (kt w) s ([(it,liO rs 0),AJ rs X n]++EL X):=S;refine (?_:codeAny _ A (.call (.builtin On) _) _ s);rw[qI];refine DT F.plain_max F.entry_max ?_;simp only[checkBuiltinCall,F.kind_max];have D:=gK (.ref it) (.ref sen);have fin: ∀R:Result→Ab→Prop,(∀b,Ag (kt w) s b ([(it,liO rs 0),AJ rs X n]++EL X) ([(it,fi Bo [.none,.int (X.length:Int) 0]),AJ rs X n]++EL X)→R (.ok (.ret (.ref m.T))) b)→
   wpAny (model pw w) A.in1 (Builtin.«max» ⟨[.ref it],[(HX,.ref sen),(FS,.none)]⟩) (λfin b=>match fin with| .done f=>R (.ok f) b| .again u=>u.quiet=true∧codeAny (model pw w) A u R b) (λe b=>R (.error e) b) s:=λR N=>by
  have d:(toString "max"++toString ".loop":String)="max.loop":=by decide
  refine (?_:wpAny _ A.in1 (Builtin.Builtins.bindParams "max" ["key","default"] 0 ⟨[],[(HX,.ref sen),(FS,.none)]⟩>>=_) _ _ s);refine Af (GH (show Builtin.Builtins.bindParams "max" ["key","default"] 0 ⟨[],[(HX,.ref sen),(FS,.none)]⟩=pure [some .none,some (.ref sen)]from rfl) ?_);refine Af (Aq ?_);refine Af (Bq (gJ w it rs 0) Flow.ret (Ai te1895007636148923766 (.ref it)) [] C h i AR Ar (S.part ([AJ rs X n]++EL X) (La:=[(it,liO rs 0)]) (AW _)) λT U V s1 v g _ O=> ?_);obtain rfl:v= .ref it:=CU O;have j:=Ag.part ([AJ rs X n]++EL X) S (La:=[(it,liO rs 0)]) (AW _) g;refine Af (wpAny_newObj_type ?_);have k:=j.sat.push (o:=li [] 0) rfl;have E:([(it,liO rs 0)]++([AJ rs X n]++EL X)++[(s1.heap.objs.size,li [] 0)]).Perm ([(it,liO rs 0),AJ rs X n,(s1.heap.objs.size,li [] 0)]++EL X):=by
   exact AO [_] [_,_,_] [0,7,0,1,1,0,1,3,2,5] [0,3,1,3,5,2]
  rw[d];refine Aq ⟨plainId_quiet F.plain_max_loop _,gG C h i (bs:=s1.heap.objs.size) (sen:=sen) B I J (k.sat.perm E) λb u G=>N b ?_⟩;have H:=(j.trans (k.permR E)).trans G;refine H.subs ?_;exact((Pz _ (EL X)).cons_cons _).cons_cons _
 have c:=fin (λP b=>Ei λa t o=>a.length=0∧t.length=0∧o.length=0∧P=(I1 it rs sen n X m).rx o ((I1 it rs sen n X m).r a t)∧Jv (kt w) none s b (I1 it rs sen n X m).pre (Bk (I1 it rs sen n X m).pre ((I1 it rs sen n X m).outs a t o)++BH a ((I1 it rs sen n X m).news a t o))∧AY s.toks b.toks t) λb g=>⟨[],[],[],rfl,rfl,rfl,rfl,by
  refine (?_:Ag (kt w) s b ([(it,liO rs 0),AJ rs X n]++EL X) ((it,_)::(rs,_)::Bk (EL X) (X.map BN)++[]));rw[Rp,BV];exact g,g.toks⟩
 cases z:Manifest.signature? "max" with
 |none=>exact Aq c
 |some l=>
  simp only[argsOk,z]at D;have Q:Bind.checkArgs "max" l ⟨[.ref it],[(HX,.ref sen),(FS,.none)]⟩=pure ():=D;refine (?_:wpAny _ _ (Bind.checkArgs "max" l ⟨[.ref it],[(HX,.ref sen),(FS,.none)]⟩) _ _ s);rw[Q];exact Aq c
theorem gM{w:Aa}{A:Al}{E:Value→Ab→Prop}{s:Ab}{a b:UInt64}{t u:Tok}{Q:Value→Ab→Prop}(h:Q (.bool (Float64.cmp a b==some Ordering.lt)) s):
  wpAny (model pw w) A (call (.builtin "float.__lt__") [.float a t,.float b u]) Q E s:=by
 refine wpAny_call_entry F.slot_float_lt (AutoFloatOps.typeIs_float s a t) F.entry_float_lt ?_ (F.args_float_lt_2 _ _);refine (?_:wpAny _ _ (ret (.bool (Float64.cmp a b==some Ordering.lt))) _ _ s);exact Aq ⟨_,rfl,h⟩
theorem gN{w:Aa}{A:Al}{E:Value→Ab→Prop}{s:Ab}{a b:UInt64}{t u:Tok}{Q:Bool→Ab→Prop}(h:Q (Float64.cmp a b==some Ordering.lt) s):wpAny (model pw w) A (oneLt' true (.float a t) (.float b u)) Q E s:=by
 rw[oneLt'_eq];simp only[if_true];refine Af (wpAny_cRoomFor_byValue rfl ?_);refine Af (wpAny_callSpecialIfBound?_slot (AutoFloatOps.typeIs_float s a t) F.slot_float_lt (gM ?_));exact wpAny_truthy_bool h
theorem gO{w:Aa}{A:Al}{E:Value→Ab→Prop}{s:Ab}(c:NoneBooked s.heap){x y:El}(h:CX x y)(d:s.heap.get? x.T=some (BN x))(g:s.heap.get? y.T=some (BN y)){Q:Bool→Ab→Prop}(a:Q (Cp y x) s):
  wpAny (model pw w) A (keyLt' (tuples' true) (.ref x.T) (.ref y.T)) Q E s:=by
 refine kat_lt d rfl g rfl ?_;have f:=O4 (A:=A) c h;refine kat_cons (f pw w _ _ (kat_go (λe=>kat_yes ?_) λe=>kat_no ?_))
 ·refine kat_cons (O5 h pw w _ _ (kat_no (kat_one _ _ (P.lt_str ?_))))
  have b:x.c=y.c:=eq_of_beq e;refine (?_:Q _ s);unfold Cp at a;rw[b]at a;simpa using a
 ·refine gN ?_
  rw[JP _ _ h.xc h.yc];have b:(y.c==x.c)=false:=by rw[BEq.comm];exact e
  have i:(some (compare x.c y.c)==some Ordering.lt)=Cp y x:=by
   unfold Cp;rw[b,Bool.false_and,Lw]
   by_cases z:x.c<y.c
   ·rw[Nat.compare_eq_lt.mpr z];simp[z]
   ·simp only[z,decide_false]
    refine beq_eq_false_iff_ne.mpr λv=>z ?_;exact Nat.compare_eq_lt.mp (GG v)
  rw[i];exact a
theorem V6{h:Heap}: ∀{X:List El},(∀e∈X,h.get? e.T=some (BN e))→KatTups h (Ax X) (X.map λe=>.float (Bl e.c) e.ft)
 |[],_=>trivial
 |e::X,a=>⟨⟨e.T,BN e,_,0,rfl,a e Bj,rfl,rfl,rfl⟩,V6 λx b=>a x (BB _ b)⟩
theorem gQ{w:Aa}{A:Al}{E:Value→Ab→Prop}{s:Ab}{X:List El}(a:0<X.length)(b: ∀e∈X,s.heap.get? e.T=some (BN e)){Q:SortKind→Ab→Prop}(c:Q (tuples' true) s):wpAny (model pw w) A (keyKind' (Ax X).toArray) Q E s:=by
 refine kat_kind (T:=.type "float") (V6 b) (by simpa using a) (λv d=> ?_) (by rfl) c;obtain⟨e,_,rfl⟩:=List.mem_map.mp d;exact .now
structure Ed(Y:List El)(f:El→Nat):Prop where
 ap:Y.Pairwise CX
 down:Y.Pairwise λa b=>f b<f a
 gt: ∀x∈Y,∀y∈Y,f x≠f y→Cp y x=decide (f x<f y)
theorem O9{g:Type}{R:g→g→Prop}(k: ∀{a b},R a b→R b a): ∀{l:List g},l.Pairwise R→ ∀{x y},x∈l→y∈l→x≠y→R x y:=by
 intro l
 induction l with
 |nil=>intro _ x y i;cases i
 |cons a l m=>
  intro h x y i j d;rw[List.pairwise_cons]at h;rcases List.mem_cons.mp i with rfl|e
  ·rcases List.mem_cons.mp j with rfl|c
   ·exact absurd rfl d
   ·exact h.1 _ c
  ·rcases List.mem_cons.mp j with rfl|c
   ·exact k (h.1 _ e)
   ·exact m h.2 e c d
theorem Ed.apart{Y:List El}{f:El→Nat}(h:Ed Y f){x y:El}(b:x∈Y)(c:y∈Y)(a:x≠y):CX x y:=O9 CX.symm h.ap b c a
theorem Rq{X:List El}(d:El){i:Nat}(a:i<X.length):(Ax X).getD i .none= .ref (X.getD i d).T:=by
 simp[Ax,a]
theorem gS{w:Aa}{A:Al}{E:Value→Ab→Prop}(hu:A.units<cLine){a n:Nat}{X Y:List El}{f:El→Nat}(v:X.Perm Y)(K:Ed Y f)(U:2≤X.length)(M:X.length<64){s:Ab}(S:An (kt w) s ((a,li (Ax X) n)::EL Y)){P:AA→Ab→Prop}
  (h: ∀l,Ag (kt w) s l ((a,li (Ax X) n)::EL Y) ((a,li (Ax Y) (n+2))::EL Y)→P (.done (.ret .none)) l):wpAny (model pw w) A (EQ a true) P E s:=by
 let d:El:=⟨0,0,0,⟨⟨[]⟩⟩,0⟩
 have o:(Ax X).length=X.length:=by simp[Ax]
 have N:katRev true (Ax X)=Ax X.reverse:=by simp[katRev,Ax]
 have t: ∀{i},i<X.length→X.reverse.getD i d∈Y:=λ {i} c=>by
  have m:i<X.reverse.length:=by simpa using c
  rw[show X.reverse.getD i d=X.reverse[i] by simp[List.getD,c]];exact v.mem_iff.mp (List.mem_reverse.mp (C0 m))
 have V:X.reverse.Perm Y.reverse:=(GD X).trans (v.trans (GD Y).symm);have H:X.reverse.Pairwise (λa b=>f a≠f b):=by
  have:Y.Pairwise (λa b=>f a≠f b):=K.down.imp λh=>Ne.symm (CN h);exact(((GD X).trans v).pairwise_iff λ {a b} h=>Ne.symm h).mpr this
 have y: ∀i j,i<X.length→j<X.length→f (X.reverse.getD i d)=f (X.reverse.getD j d)→i=j:=λi j c g I=>by
  rw[F6]at H;have m:i<X.reverse.length:=by simpa using c
  have z:j<X.reverse.length:=by simpa using g
  rw[show X.reverse.getD i d=X.reverse[i] by simp[List.getD,c],show X.reverse.getD j d=X.reverse[j] by simp[List.getD,g]]at I;rcases Jh i j with h|h|h
  ·exact absurd I (H i j m z h)
  ·exact h
  ·exact absurd I.symm (H j i z m h)
 have J: ∀{s:Ab} {n:Nat} {O:List Value},An (kt w) s ((a,li O n)::EL Y)→ ∀e∈Y,s.heap.get? e.T=some (BN e):=λ {s n O} k e L=>k.mem (e.T,BN e) (BB _ (HY L));refine OS (κ:=tuples' true) (F:=EL Y) (r:=λi=>f (X.reverse.getD i d)) (by rw[o];exact U) (by rw[o];exact M) (λi j c g e=>y i j (o▸c) (o▸g) e) (λl Q k W=> ?_) (λi j l C c g R k Z=> ?_) S λl p u D G=> ?_
 ·exact gQ (by (first|lia|omega)) (λe L=>J k e (v.mem_iff.mp L)) W
 ·rw[o]at c g
  rw[N,Rq d (by simpa using c),Rq d (by simpa using g)];have T:f (X.reverse.getD i d)≠f (X.reverse.getD j d):=λe=>R (y i j c g e);refine gO (Mv k) (K.apart (t c) (t g) λe=>T (by rw[e])) (J k _ (t c)) (J k _ (t g)) ?_;rw[K.gt _ (t c) _ (t g) T];exact Z l (.refl k)
 ·rw[o]at u D
  have key:=OU (d:=d) (f:=f) (B:=X.reverse) (B':=Y.reverse) (by (first|((repeat(first|exact .head _|apply List.mem_cons_of_mem));done)|simp)) u D V.symm (by rw[List.pairwise_reverse];exact K.down);have em:katRev true (p.toList.map λi=>(katRev true (Ax X)).getD i .none)=Ax Y:=by
   have:Ax Y.reverse=(p.toList.map λi=>X.reverse.getD i d).map λe=>Value.ref e.T:=by rw[key]
   rw[N];have e2:(p.toList.map λi=>(Ax X.reverse).getD i .none)=Ax Y.reverse:=by
    rw[this,BZ];apply DU;intro i c;exact Rq d (by simpa using List.mem_range.mp (u.mem_iff.mp c))
   rw[e2];simp[katRev,Ax]
  rw[em]at G;exact h l G
noncomputable abbrev G4:Str:=⟨⟨[114,101,118,101,114,115,101]⟩⟩
theorem V7(a:Value):argsOk "sorted" ⟨[a],[(FS,.none),(G4,.bool true)]⟩:=by unfold argsOk;kernel_rfl
theorem V8(a:Value):argsOk "list.sort" ⟨[a],[(FS,.none),(G4,.bool true)]⟩:=by unfold argsOk;kernel_rfl
theorem Rr{w:Aa}{A:Al}{s:Ab}{a n:Nat}{b ws:List Value}{G:Ae}{g:List (Str×Value)}(v:argsOk "sorted" ⟨[.ref a],g⟩)(K: ∀D:Addr,argsOk "list.sort" ⟨[.ref D],g⟩)(e: ∀D:Addr,Builtin.«list.sort» ⟨[.ref D],g⟩=EQ D true)(z:b.length≤64)(S:An (kt w) s ([(a,li b n)]++G))
  (srt: ∀{D:Nat} {c:Ab} {P:AA→Ab→Prop} {E:Value→Ab→Prop},An (kt w) c ((D,li b 0)::G)→(∀s2,Ag (kt w) c s2 ((D,li b 0)::G) ((D,li ws 2)::G)→P (.done (.ret .none)) s2)→wpAny (model pw w) A.in1.in1 (EQ D true) P E c)
  {R:Result→Ab→Prop} (L: ∀c D,Ag (kt w) s c ([(a,li b n)]++G) ([(a,li b n)]++G++[(D,li ws 2)])→R (.ok (.ret (.ref D))) c):codeAny (model pw w) A (.call (.builtin Kn) ⟨[.ref a],g⟩) R s:=by
 rw[qD];refine DT plain_sorted entry_sorted ?_;simp only[checkBuiltinCall,kind_sorted];have B:=S.mem (a,li b n) (by (first|((repeat(first|exact .head _|apply List.mem_cons_of_mem));done)|simp));rw[BW]at B;have h:wpAny (model pw w) A.in1 (Builtin.«sorted» ⟨[.ref a],g⟩) (λfin c=>match fin with| .done f=>R (.ok f) c| .again C=>C.quiet=true∧codeAny (model pw w) A C R c) (λe c=>R (.error e) c) s:=by
  unfold Builtin.«sorted»;refine Af (m:=checkCount "sorted" 1 1 _) (Aq ?_);refine Af (collect_list (vs:=b) ⟨_,B,rfl,n,rfl⟩ ?_ (Ay z (by rw[sizeLine_eq];decide)));refine Af (wpAny_newList ?_ (Ay z (by rw[sizeLine_eq];decide)));have k:=S.push (o:=li [] 0) rfl;have F:([(a,li b n)]++G++[(s.heap.objs.size,li [] 0)]).Perm ([(s.heap.objs.size,li [] 0)]++([(a,li b n)]++G)):=ED;have H:=(k.permR F).sat.set (i:=0) rfl (f:=Obj.mapSeq (· ++b.toArray)) (p:=(s.heap.objs.size,li [] 0)) rfl;have l:=((k.permR F).trans H).subs (L'':=[(a,li b n)]++G) (Nz [_] _);have I:=l.sat.push (o:=li b 0) rfl;have d:=(l.trans I).permR ED;have r:=d.sat.mem _ (Dh _ Bj);dsimp only at r d;have j:=r;rw[BW]at j;have pz: ∀{D x y},((D,x)::((a,y)::G)).Perm ((D,x)::G++[(a,y)]):=λ {D x y}=>List.Perm.cons _ (ED (l₁:=[(a,y)]) (l₂:=G));refine Af (Di (wpAny_call_entry_kw slot_list_sort ⟨_,j,rfl⟩ entry_list_sort ?body (K _)))
  case body=>
   rw[e];refine srt (d.sat.perm pz).left λc J=>⟨_,rfl,Aq (L c _ ((d.trans (Ag.part [(a,li b n)] d.sat pz.symm J)).permR ?_))⟩
   exact AO [_] [_,_] [0,2,1,2,3] [0,4,0,1,3,2,1]
 cases u:Manifest.signature? "sorted" with
 |none=>exact Aq h
 |some t=>
  simp only[argsOk,u]at v;have M:Bind.checkArgs "sorted" t ⟨[.ref a],g⟩=pure ():=v;refine (?_:wpAny _ _ (Bind.checkArgs "sorted" t ⟨[.ref a],g⟩) _ _ s);rw[M];exact Aq h
noncomputable def V9(b n:Nat)(X Y:List El):Ak:=
 {d:=500,u:=2800,h:=none,c:=.call (.builtin Kn) ⟨[.ref b],[(FS,.none),(G4,.bool true)]⟩,idx:=[],pre:=[(b,li (Ax X) n)]++EL Y,na:=1,nt:=0,r:=λa _=>.ok (.ret (.ref (a.getD 0 0))),outs:=λ_ _ _=>[li (Ax X) n]++Y.map BN,news:=λ_ _ _=>[li (Ax Y) 2]}
theorem gU{w:Aa}{rs n:Nat}{X Y:List El}{f:El→Nat}(e:X.Perm Y)(K:Ed Y f)(g:2≤X.length)(a:X.length<64):Av w (V9 rs n X Y):=by
 intro A k i l s S _;have b:A.in1.units≤3000:=Ay (show A.in1.units≤2801 from Cz i 1) (by decide);have c:A.in1.in1.units<cLine:=CM (show A.in1.in1.units≤3001 from Cz b 1) (by decide);refine Rr (V7 _) (λD=>V8 _) (λD=>U3 D true) (by simp[Ax];(first|lia|omega)) S (λS h=>gS c e K g a S h) λj D d=>⟨[D],[],[],rfl,rfl,rfl,rfl,?_,d.toks⟩
 refine (?_:Ag (kt w) s j ([(rs,li (Ax X) n)]++EL Y) ((rs,_)::Bk (EL Y) (Y.map BN)++[(D,_)]));rw[Rp];exact d
noncomputable def Ca(w:Aa)(F:Ae)(e:Ak):Prop:= ∀A:Al,A.depth≤e.d→A.units≤e.u→A.handled=e.h→ ∀s,An (kt w) s (e.pre++F)→NX e.gn s→
 codeAny (model pw w) A e.c (λc b=>Ei λa t o=>a.length=e.na∧t.length=e.nt∧o.length=e.no∧c=e.rx o (e.r a t)∧Jv (kt w) e.gn s b e.pre (Bk e.pre (e.outs a t o)++BH a (e.news a t o))∧AY s.toks b.toks t) s
theorem Ca.of{w:Aa}{F:Ae}{e:Ak}(h:Av w e):Ca w F e:=λA a b c s S G=>h A a b c s S.left G
theorem gV{kt:KT}{g s:Ab}{i L F P:Ae}(c:An kt g (i++F))(D:Ag kt g s i L)(j: ∀p∈P,p∈L)(S:An kt s P):An kt s (P++F):=by
 have k:=c.nd;rw[BC,Fn]at k;obtain⟨A,t,l⟩:=k;have u: ∀p∈L,∀q∈F,p.1≠q.1:=λp j q d e=>by
  rcases D.new p j with⟨r,v,w⟩|h
  ·exact l _ (B6 v) _ (B6 d) (w.trans e)
  ·have:=Heap.lt_size (c.mem q (BG _ d))
   rw[←e]at this;exact absurd this (Nat.not_lt.mpr h)
 refine⟨λp h=> ?_,?_,S.old,λp h a o m=> ?_⟩
 ·rcases List.mem_append.mp h with h|h
  ·exact S.mem p h
  ·exact D.keep _ _ (c.mem p (BG _ h)) λq d e=>l _ (B6 d) _ (B6 h) e
 ·rw[BC,Fn]
  refine⟨S.nd,t,λa y b z=> ?_⟩;obtain⟨p,n,rfl⟩:=List.mem_map.mp y;obtain⟨q,d,rfl⟩:=List.mem_map.mp z;exact u p (j p n) q d
 ·rcases List.mem_append.mp h with h|h
  ·exact S.apart p h a o m
  ·exact c.apart p (BG _ h) a o m
theorem Ca.frm{w:Aa}{F d:Ae}{g:Ab}{e:Ak}(i:An (kt w) g (d++F))(h:Ca w F e):DW pw w (kt w) g d e:=(by rintro A a b c s ⟨L,D,j⟩ S G;exact h A a b c s (gV i D j S) G)
noncomputable def KO(w:Aa)(F:Ae)(b:List (List Nat→List Nat→List Obj→Ak)):Prop:= ∀e∈b,∀c a d g h,AY g h a→Ca w F (e c a d)
theorem G5{w:Aa}{F:Ae}:KO w F []:=λ_ h=>(nomatch h)
theorem FT{w:Aa}{F:Ae}{e:List Nat→List Nat→List Obj→Ak}{b:List (List Nat→List Nat→List Obj→Ak)}(h: ∀d c g i j,AY i j c→Ca w F (e d c g))(t:KO w F b):KO w F (e::b):=λf a=>by
 rcases List.mem_cons.mp a with rfl|a
 ·exact h
 ·exact t f a
theorem FU{w:Aa}{F:Ae}{e:List Nat→List Nat→List Obj→Ak}{d:List (List Nat→List Nat→List Obj→Ak)}(h: ∀a b c,Av w (e a b c))(t:KO w F d):KO w F (e::d):=FT (λa b c _ _ _=>.of (h a b c)) t
theorem G6{w:Aa}{F:Ae}: ∀(g:List (Nat×List Nat)) (a:List (List Nat→List Nat→List Obj→Ak)),KO w F a→ ∀q∈AE g a,∀i d j k l,AY k l d→Ca w F (q.2 i d j):=by
 intro g
 induction g with
 |nil=>intro a _ q b;cases a <;> cases b
 |cons c g n=>
  intro a h q b i d j k l m;cases a with
  |nil=>cases b
  |cons e a=>
   rcases List.mem_cons.mp b with rfl|b
   ·exact h e Bj i d j k l m
   ·exact n a (λf o=>h f (BB _ o)) q b i d j k l m
theorem gW{w:Aa}{A:Al}{c:Code}{L:Ae}{B:Result→Ae→List Nat→Prop}{H:List Nat}{E:List (Nat×(List Nat→List Nat→List Obj→Ak))}{W:List Wd}{o d u n N:Nat}{J:List Nat}{en:Au→Au→AU→Du}{C:Au→Au→AU→Ae}
  (k:AI w n c L H E W o d u J en C N) (F:Ae) (tk:List Nat) (P:A.handled=none) (Q:A.depth≤d) (R:A.units≤u) (X: ∀q∈E,∀t l v T D,AY T D l→Ca w F (q.2 t l v)) (Y: ∀q∈W,∀t l v,(q.2 t l v).1=(q.2 t l v).2)
  (fi: ∀i g j,match en i g j with
   | .done f=>B (.ok f) (C i g j++F) (tk.map g)
   | .err e=>B (.error e) (C i g j++F) (tk.map g)
   | .again K=>RunsW w A K (C i g j++F) λr y l=>B r y (tk.map g++l)
   | .bad _=>False) (G:BR J=true:=by rfl) (M:Gd tk 0 N=true:=by rfl):RunsW w A c (L++F) B:=by
 intro s S;refine N0 GJ (GL pw w w) (FJ pw w) (hS w) (H:=H) (E:=E) (W:=W) (ag:=o) n P Q R (λq U t l v D I=>(X q U t l v _ D I).frm S) Y S.left λi g j=> ?_;have h:=Ge k i g j;have V:=Am Prod.fst h;have Z:=Am (λx=>x.2.1) h;have h3:=Am (λx=>x.2.2.1) h;have h4:(walk w n i g j c L H E W o d u).ts=Dj g N:=Am (λx=>x.2.2.2) h;refine⟨V,λO st I _=> ?_⟩;have m:=(st.pick h3 G).frame S;have z:AY s.toks O.toks (tk.map g):=I.sub (by
  show(tk.map g).Sublist (walk w n i g j c L H E W o d u).ts;rw[h4,Kj];have:=(Kk M).map g;rwa[Kd,←Hk]at this)
 have e1:(Ej den rooms GM ⟨pw,w.2⟩ ⟨pw,(wR true w).params⟩ ⟨pw,(wR false w).params⟩ (kt w) n i g j ⟨den c,c,[],L,[],[],[],H,E,W,o,d,u,.free⟩).e=en i g j:=Z;rw[e1];have f:=fi i g j;cases h:en i g j with
 |done f'=>rw[h]at f;exact⟨_,_,f,m,z⟩
 |err e=>rw[h]at f;exact⟨_,_,f,m,z⟩
 |again K=>
  rw[h]at f;refine B4 (f O m.sat) ?_;rintro r aa ⟨y,l,a,b,c⟩;exact⟨y,_,a,m.trans b,z.app c⟩
 |bad k=>rw[h]at f;exact f.elim
theorem HZ{w:Aa}{A:Al}{L:Ae}{H:List Nat}{E:List (Nat×(List Nat→List Nat→List Obj→Ak))}{W:List Wd}{d u n N:Nat}{C:List Nat}{f:Au→Au→AU→Flow}{D:Au→Au→AU→Ae}{o:Sem AA}{T:Type}{t:Sem T}
  (k:AF w n o L H E W d u C (λb a c=>.done (f b a c)) D N) (g:T→Flow) (K:(t>>=λx=>pure (.done (g x)))=o) (F:Ae) (tk:List Nat) (M:A.handled=none) (O:A.depth≤d) (P:A.units≤u) (X: ∀q∈E,∀l j m U v,AY U v j→Ca w F (q.2 l j m)) (Y: ∀q∈W,∀l j m,(q.2 l j m).1=(q.2 l j m).2)
  {s:Ab} (S:An (kt w) s (L++F)) {Q:T→Ab→Prop} {V:Value→Ab→Prop}
  (fi: ∀b a c i x,Ag (kt w) s i (L++F) (D b a c++F)→AY s.toks i.toks (tk.map a)→g x=f b a c→Q x i) (y:BR C=true:=by rfl) (G:Gd tk 0 N=true:=by rfl):wpAny (model pw w) A t Q V s:=by
 have z:=Oa (R:=λr i=>match r with| .ok Z=> ∀x,g x=Z→Q x i| .error _=>False) GJ (GL pw w w) (FJ pw w) (hS w) (H:=H) (E:=E) (W:=W) g K n M O P (λq hq l j m v B=>(X q hq l j m _ v B).frm S) Y S.left λb a c=> ?_
 ·exact CA z (λx i h=>h x rfl) λe i h=>False.elim h
 ·have h:=Ge k b a c
  have h1:=Am Prod.fst h;have h2:=Am (λx=>x.2.1) h;have h3:=Am (λx=>x.2.2.1) h;have h4:(Hv w n b a c o L H E W d u).ts=Dj a N:=Am (λx=>x.2.2.2) h;refine⟨h1,λi st B _=> ?_⟩;have I:=(st.pick h3 y).frame S;have J:AY s.toks i.toks (tk.map a):=B.sub (by
   show(tk.map a).Sublist (Hv w n b a c o L H E W d u).ts;rw[h4,Kj];have:=(Kk G).map a;rwa[Kd,←Hk]at this)
  have e1:(Hv w n b a c o L H E W d u).e= .done (f b a c):=h2;rw[e1];exact λx hx=>fi b a c i x I J hx
structure HE where
 A:Nat
 e:El
 o:Int
 t:Nat
noncomputable def Bm(h:HE):Obj:=tu [.ref h.e.T,.int h.o h.t] 0
noncomputable abbrev As(H:List HE):List Value:=H.map λh=>Value.ref h.A
noncomputable def HL(H:List HE):Ae:=H.map λh=>(h.A,Bm h)
noncomputable def hz:HE:=⟨0,⟨0,0,0,⟨⟨[]⟩⟩,0⟩,0,0⟩
noncomputable def CJ(H:List HE)(i j:Nat):List HE:=(H.set i (H.getD j hz)).set j (H.getD i hz)
theorem Ep(H:List HE)(i j:Nat):(CJ H i j).length=H.length:=by simp[CJ]
theorem KQ{H:List HE}{i j:Nat}(a:i<H.length)(b:j<H.length):(CJ H i j).Perm H:=by
 unfold CJ;rw[show H.getD j hz=H[j] by simp[List.getD,b],show H.getD i hz=H[i] by simp[List.getD,a]];exact List.set_set_perm a b
theorem gY{H:List HE}{i j:Nat}(g:i<H.length)(h:j<H.length)(k:Nat):(CJ H i j).getD k hz=if k=j then H.getD i hz else if k=i then H.getD j hz else H.getD k hz:=by
 unfold CJ;simp only[List.getD,List.getElem?_set,List.length_set]
 by_cases a:j=k
 ·subst a;simp[h]
 ·have b: ¬k=j:=λe=>a e.symm
  by_cases c:i=k
  ·subst c;simp[a,b,g]
  ·have d: ¬k=i:=λe=>c e.symm
   simp[a,b,c,d]
noncomputable def par(i:Nat):Nat:=(i-1)/2
theorem gZ(p:Nat):par (2*p+1)=p:=by unfold par;(first|lia|omega)
theorem hJ(p:Nat):par (2*p+2)=p:=by unfold par;(first|lia|omega)
theorem Wa{i p:Nat}(a:0<i)(h:par i=p):i=2*p+1∨i=2*p+2:=by unfold par at h;(first|lia|omega)
theorem Rs{i p:Nat}(a:0<i)(h:par i=p):2*p+1≤i:=(Wa a h).elim (λe=>Jp e.symm) λe=>e▸Jq _
theorem Gs{i:Nat}(a:0<i):par i<i:=DV (F8 (Nat.le_mul_of_pos_left (par i) Nat.two_pos)) (Rs a rfl)
theorem hO{n:Nat}(h:2≤n): ∃d,n/2-1=d∧d<n∧n≤2*d+3:=⟨_,rfl,by (first|lia|omega),by (first|lia|omega)⟩
inductive Sft (g:HE→Nat):List HE→Bool→Nat→Nat→Nat→List HE→Prop
 |two {H pos top m H'} (h:2*pos+2<H.length) (x:Sft g (CJ H (if g (H.getD (2*pos+1) hz)<g (H.getD (2*pos+2) hz)then 2*pos+1 else 2*pos+2) pos) true (if g (H.getD (2*pos+1) hz)<g (H.getD (2*pos+2) hz)then 2*pos+1 else 2*pos+2) top m H'):Sft g H true pos top m H'
 |one {H pos top m H'} (h:2*pos+2=H.length) (x:Sft g (CJ H (2*pos+1) pos) true (2*pos+1) top m H'):Sft g H true pos top m H'
 |leaf {H pos top m H'} (h:H.length≤2*pos+1) (x:Sft g H false pos top m H'):Sft g H true pos top m H'
 |up {H pos top m H'} (h:top<pos) (l:g (H.getD pos hz)<g (H.getD (par pos) hz)) (x:Sft g (CJ H (par pos) pos) false (par pos) top m H'):Sft g H false pos top m H'
 |stop {H pos top} (h:pos≤top∨ ¬g (H.getD pos hz)<g (H.getD (par pos) hz)):Sft g H false pos top 0 H
 |next {H pos top m H'} (h:pos≤top∨ ¬g (H.getD pos hz)<g (H.getD (par pos) hz)) (x:Sft g H true m m m H'):Sft g H false pos top (m+1) H'
inductive G7 (top:Nat):Nat→Prop
 |refl:G7 top top
 |step {i} (h:0<i) (x:G7 top (par i)):G7 top i
theorem G7.le{top i:Nat}(h:G7 top i):top≤i:=by
 induction h with
 |refl=>exact A7 _
 |step h x a=>exact Ay a (Bw (Gs h))
theorem G7.par{top i:Nat}(h:G7 top i)(a:i≠top):0<i∧G7 top (par i):=by
 cases h with
 |refl=>exact absurd rfl a
 |step h x=>exact⟨h,x⟩
noncomputable def DN(r:Nat→Nat)(n top:Nat):Prop:= ∀i,i<n→0<i→top≤par i→r (par i)≤r i
structure Wb(r:Nat→Nat)(n top pos:Nat):Prop where
 d:G7 top pos
 p:pos<n
 a: ∀i,i<n→0<i→top≤par i→i≠pos→r (par i)≤r i
 b:pos≠top→ ∀c,c<n→0<c→par c=pos→r (par pos)≤r c
structure Rt(r:Nat→Nat)(n top pos:Nat):Prop where
 d:G7 top pos
 p:pos<n
 a: ∀i,i<n→0<i→top≤par i→i≠pos→par i≠pos→r (par i)≤r i
 b:pos≠top→ ∀c,c<n→0<c→par c=pos→r (par pos)≤r c
noncomputable abbrev BA(g:HE→Nat)(H:List HE):Nat→Nat:=λi=>g (H.getD i hz)
theorem Wc(g:HE→Nat){H:List HE}{i j:Nat}(a:i<H.length)(b:j<H.length)(k:Nat):BA g (CJ H i j) k=if k=j then BA g H i else if k=i then BA g H j else BA g H k:=by
 refine (?_:g _=_);rw[gY a b]
 split
 ·rfl
 ·split <;> rfl
theorem hW(g:HE→Nat){top m:Nat}{P:List HE→Prop}: ∀(a:Nat) (H v:List HE),Wb (BA g H) H.length top a→H.Perm v→
  (∀j:List HE,j.Perm v→DN (BA g j) j.length top→ ∀q,q≤top∨ ¬g (j.getD q hz)<g (j.getD (par q) hz)→ ∃d,Sft g j false q top m d∧P d)→
  ∃d,Sft g H false a top m d∧P d:=by
 intro a
 induction a using Nat.strongRecOn with
 |ind a I=>
  intro H v U F K
  by_cases h:a≤top∨ ¬g (H.getD a hz)<g (H.getD (par a) hz)
  ·refine K H F (λi l b n=> ?_) a h
   by_cases e:i=a
   ·obtain rfl:=e.symm
    rcases h with h|h
    ·exact absurd (DV (Gs b) h) (Jl n)
    ·exact FG h
   ·exact U.a i l b n e
  ·have B:top<a:=Nat.lt_of_not_le λq=>h (.inl q)
   have o:g (H.getD a hz)<g (H.getD (par a) hz):=by
    by_cases q:g (H.getD a hz)<g (H.getD (par a) hz)
    ·exact q
    ·exact absurd (.inr q) h
   obtain⟨J,C⟩:=U.d.par (EY B);have w:=Gs J;have y:=Dz w U.p;have e: ∀k,BA g (CJ H (par a) a) k=if k=a then BA g H (par a)else if k=par a then BA g H a else BA g H k:=Wc g y U.p
   have o:BA g H a<BA g H (par a):=o;have L:Wb (BA g (CJ H (par a) a)) (CJ H (par a) a).length top (par a):=by
    rw[Ep];refine⟨C,y,λi l b n r=> ?_,λr c M b t=> ?_⟩
    ·have N:=Gs b
     rw[e i,e (par i)]
     by_cases q:i=a
     ·obtain rfl:=q.symm
      simp only[if_true];rw[AH (CN N)];exact Bw o
     ·rw[AH q,AH r]
      by_cases D:par i=a
      ·rw[AS D]
       exact U.b (EY B) i l b D
      ·rw[AH D]
       by_cases E:par i=par a
       ·rw[AS E]
        have:=U.a i l b n q;rw[E]at this;exact Ay (Bw o) this
       ·rw[AH E]
        exact U.a i l b n q
    ·obtain⟨z,G⟩:=C.par r
     have A:=Gs z;have O:top≤par (par a):=G.le;rw[e (par (par a)),e c];rw[AH (CN (Dz A w)),AH (CN A)];have u:=U.a (par a) y z O (CN w)
     by_cases q:c=a
     ·rw[AS q];exact u
     ·rw[AH q]
      rw[AH (EY (t▸Gs b))];have:=U.a c M b (by rw[t];exact C.le) q;rw[t]at this;exact Ay u this
   obtain⟨d,s,Q⟩:=I (par a) w (CJ H (par a) a) v L ((KQ y U.p).trans F) K;exact⟨d,.up B o s,Q⟩
theorem We(g:HE→Nat){top m:Nat}{P:List HE→Prop}: ∀(k a:Nat) (H t:List HE),H.length-a=k→Rt (BA g H) H.length top a→H.Perm t→
  (∀r:List HE,r.Perm t→DN (BA g r) r.length top→ ∀q,q≤top∨ ¬g (r.getD q hz)<g (r.getD (par q) hz)→ ∃b,Sft g r false q top m b∧P b)→
  ∃b,Sft g H true a top m b∧P b:=by
 intro k
 induction k using Nat.strongRecOn with
 |ind k R=>
  intro a H t S D L K;have y:=D.p
  by_cases h:H.length≤2*a+1
  ·obtain⟨b,s,u⟩:=hW g (m:=m) a H t ⟨D.d,y,λi j d A l=>D.a i j d A l λz=>absurd (DV j h) (Jl (Rs d z)),D.b⟩ L K
   exact⟨b,.leaf h s,u⟩
  ·
   have main: ∀c,(c=2*a+1∨c=2*a+2)→c<H.length→(∀i,i<H.length→(i=2*a+1∨i=2*a+2)→BA g H c≤BA g H i)→ ∃b,Sft g (CJ H c a) true c top m b∧P b:=by
    intro c M B G;have C:par c=a:=by rcases M with rfl|rfl <;> first|exact gZ a|exact hJ a
    have c0:0<c:=by rcases M with rfl|rfl <;> exact Gb _
    have v:a<c:=C▸Gs c0;have e: ∀k,BA g (CJ H c a) k=if k=a then BA g H c else if k=c then BA g H a else BA g H k:=Wc g B y
    have T:Rt (BA g (CJ H c a)) (CJ H c a).length top c:=by
     rw[Ep];refine⟨.step c0 (by rw[C];exact D.d),B,λi j d A l N=> ?_,λl I O d n=> ?_⟩
     ·have J:=Gs d
      rw[e i,e (par i)]
      by_cases q:i=a
      ·obtain rfl:=q.symm
       simp only[if_true];rw[AH (CN J),AH (CN (Dz J v))];exact D.b (EY (CM A J)) c B c0 C
      ·rw[AH q,AH l]
       by_cases E:par i=a
       ·rw[AS E]
        exact G i j (Wa d E)
       ·rw[AH E,AH N]
        exact D.a i j d A q E
     ·rw[C,e a,e I]
      have F:c<I:=n▸Gs d;have Q:=EY (Dz v F);simp only[if_true];rw[AH Q,AH (EY F)];have:=D.a I O d (by rw[n];exact Ay D.d.le (Bw v)) Q (by rw[n];exact EY v);rw[n]at this;exact this
    exact R (H.length-c) (S▸Jf y v) c (CJ H c a) t (by rw[Ep]) T ((KQ B y).trans L) K
   by_cases w:2*a+2<H.length
   ·obtain⟨b,s,u⟩:=main (if g (H.getD (2*a+1) hz)<g (H.getD (2*a+2) hz)then 2*a+1 else 2*a+2) (by split <;> (first|((repeat(first|exact .head _|apply List.mem_cons_of_mem));done)|simp)) (by split <;> first|exact w|exact Nat.lt_of_succ_lt w) (λi j o=>by
     refine (?_:BA g H _≤_)
     split
     ·rename_i q
      rcases o with rfl|rfl <;> first|exact A7 _|exact Bw q
     ·rename_i q
      rcases o with rfl|rfl <;> first|exact A7 _|exact FG q)
    exact⟨b,.two w s,u⟩
   ·obtain⟨b,s,u⟩:=main (2*a+1) (.inl rfl) (Nat.lt_of_not_le h) (λi j o=>by
     rcases o with rfl|rfl
     ·exact A7 _
     ·exact absurd j w)
    exact⟨b,.one (Jn (Nat.lt_of_not_le h) (FG w)) s,u⟩
theorem DN.dn{r:Nat→Nat}{n m:Nat}(h:DN r n (m+1))(c:m<n):Rt r n m m:=
 ⟨.refl,c,λi d e g a b=>h i d e (Io g (Ne.symm b)),λa=>absurd rfl a⟩
theorem Wf{r:Nat→Nat}{n:Nat}(h:DN r n 0): ∀i,i<n→r 0≤r i:=by
 intro i
 induction i using Nat.strongRecOn with
 |ind i d=>
  intro b
  by_cases c:i=0
  ·rw[c];exact A7 _
  ·have a:=Nat.pos_of_ne_zero c
   exact Ay (d (par i) (Gs a) (Dz (Gs a) b)) (h i b a (B7 _))
theorem Wg(g:HE→Nat){e:List HE}: ∀(m:Nat) (H:List HE),m<H.length→H.Perm e→DN (BA g H) H.length (m+1)→ ∃d,Sft g H true m m m d∧d.Perm e∧DN (BA g d) d.length 0:=by
 intro m
 induction m with
 |zero=>
  intro H i j h;exact We g _ 0 H e rfl (h.dn i) j λk c l q n=>⟨k,.stop n,c,l⟩
 |succ m o=>
  intro H i j h;refine We g _ (m+1) H e rfl (h.dn i) j λk c l q n=> ?_;have r:k.length=H.length:=c.length_eq.trans j.length_eq.symm;obtain⟨d,s,a,b⟩:=o k (r.symm▸Nat.lt_of_succ_lt i) c l;exact⟨d,.next n s,a,b⟩
theorem hZ(g:HE→Nat)(H:List HE)(b:2≤H.length): ∃a,Sft g H true (H.length/2-1) (H.length/2-1) (H.length/2-1) a∧a.Perm H∧DN (BA g a) a.length 0:=
 have⟨d,e,c,h⟩:=hO b
 e.symm▸Wg g d H c (AW _) λi j k l=>absurd (DV j h) (Jl (Ay (Eu (Nat.mul_le_mul_left 2 l)) (Rs k rfl)))
theorem iA(g:HE→Nat)(x y:HE)(T:List HE)(h:DN (BA g (x::T)) (x::T).length 0): ∃a,Sft g (y::T) true 0 0 0 a∧a.Perm (y::T)∧DN (BA g a) a.length 0:=
 Wg g 0 (y::T) (by (first|((repeat(first|exact .head _|apply List.mem_cons_of_mem));done)|simp)) (AW _) λi c b d=>by
  have:=h i (by simpa using c) b (B7 _);have e: ∀k,0<k→BA g (y::T) k=BA g (x::T) k:=λk j=>by
   cases k with
   |zero=>exact absurd j (It 0)
   |succ k=>rfl
  rw[e i b,e (par i) d];exact this
theorem ML:entryFor table "_heapq.heapify.sift"=some Builtin.«_heapq.heapify.sift»:=entryFor_of_tree (by kernel_rfl)
theorem G8:plainId "_heapq.heapify.sift"=true:=by decide+kernel
theorem JS{A:Al}{n:Nat}(h:A.units≤n):A.in1.units≤n+1:=Cz h 1
theorem Wh{A:Al}{s:Ab}(g:NoneBooked s.heap)(h:A.units<cLine){x y:El}(i:s.heap.get? x.T=some (BN x))(k:s.heap.get? y.T=some (BN y))(d:CX x y):RcAt A s (.ref x.T) (.ref y.T) false:=by
 have a:=i;have b:=k;unfold BN at a b;rw[JI]at a b;have:=RcAt.tuples (A:=A) (e:=λj=>if j=0 then x.c==y.c else false) ⟨_,a,rfl,0,rfl⟩ ⟨_,b,rfl,0,rfl⟩ h (λj c l=>by
  match j,c,l with
  |0,_,_=>exact O4 g d
  |1,_,_=>exact O5 d
  |j+2,c,_=>exact absurd c (by show¬j+2<2;(first|lia|omega)))
 have e:((List.range 2).all (λj=>if j=0 then x.c==y.c else false)&&true)=false:=by simp[Kb]
 exact e▸this
theorem iB{A:Al}{s:Ab}(a:NoneBooked s.heap)(b:A.in1.units<cLine)(c:A.units<cLine){x y:HE}(h:s.heap.get? x.A=some (Bm x))(i:s.heap.get? y.A=some (Bm y))(d:s.heap.get? x.e.T=some (BN x.e))(e:s.heap.get? y.e.T=some (BN y.e))(g:CX x.e y.e)(j:x.e.T≠y.e.T):CE .Lt A s (.ref x.A) (.ref y.A) (Cp y.e x.e):=
 CE.tuple_lt c h i (.diff (EqAt.of_refs j (Wh a b d e g)) (CE.tuple_lt b d e (Ro a g)))
structure ES(F:Ae)(H:List HE)(g:HE→Nat):Prop where
 mem: ∀x∈H,(x.A,Bm x)∈F
 emem: ∀x∈H,(x.e.T,BN x.e)∈F
 ap: ∀x∈H,∀y∈H,x≠y→CX x.e y.e∧x.e.T≠y.e.T∧Cp y.e x.e=decide (g x<g y)
 nd:H.Nodup
theorem ES.perm{F:Ae}{H b:List HE}{g:HE→Nat}(h:ES F H g)(p:b.Perm H):ES F b g:=
 ⟨λx a=>h.mem x (p.mem_iff.mp a),λx a=>h.emem x (p.mem_iff.mp a),λx a y c=>h.ap x (p.mem_iff.mp a) y (p.mem_iff.mp c),p.nodup_iff.mpr h.nd⟩
theorem Wi{H:List HE}{i:Nat}(a:i<H.length):H.getD i hz∈H:=by
 rw[show H.getD i hz=H[i] by simp[List.getD,a]];exact C0 a
theorem iC{H:List HE}(c:H.Nodup){i j:Nat}(a:i<H.length)(b:j<H.length)(h:i≠j):H.getD i hz≠H.getD j hz:=by
 rw[show H.getD i hz=H[i] by simp[List.getD,a],show H.getD j hz=H[j] by simp[List.getD,b]];exact λe=>h ((Ls (h₀:=a) (h₁:=b) c).mp e)
theorem iE{H:List HE}{i:Nat}(a:i<H.length):(⟨As H⟩:Array Value)[i]? =some (.ref (H.getD i hz).A):=by
 simp[As,List.getD,a]
theorem Wj{H:List HE}{i j:Nat}(a:i<H.length)(b:j<H.length):((⟨As H⟩:Array Value).setIfInBounds i (.ref (H.getD j hz).A)).setIfInBounds j (.ref (H.getD i hz).A)=⟨As (CJ H i j)⟩:=by
 apply Array.ext';simp[As,CJ,List.map_set]
noncomputable abbrev Pa(a:Addr)(d:Bool)(b top:Nat)(c:Value)(m:Nat):Code:=.builtin "_heapq.heapify.sift" ⟨[.ref a,.bool false,.bool d,rawInt (b:Int),rawInt (top:Int),c,rawInt ((m:Int)-1)],[]⟩
theorem Ru{w:Aa}{A:Al}(r:A.in1.units<cLine)(l:A.units<cLine){a k:Nat}{F:Ae}{H:List HE}{g:HE→Nat}(b:ES F H g){i j:Nat}(m:i<H.length)(n:j<H.length)(o:i≠j){s:Ab}(S:An (kt w) s ((a,li (As H) k)::F)){Q:Bool→Ab→Prop}{E:Value→Ab→Prop}
  (h:Q (decide (g (H.getD i hz)<g (H.getD j hz))) s):wpAny (model pw w) A (holding [.ref (H.getD i hz).A,.ref (H.getD j hz).A] (richCompare .Lt (.ref (H.getD i hz).A) (.ref (H.getD j hz).A)>>=λv=>truthOfDropped v)) Q E s:=by
 have d:=Wi m;have e:=Wi n;obtain⟨t,u,y⟩:=b.ap _ d _ e (iC b.nd m n o);have c:=iB (A:=A) (Mv S) r l (S.mem _ (BB _ (b.mem _ d))) (S.mem _ (BB _ (b.mem _ e))) (S.mem _ (BB _ (b.emem _ d))) (S.mem _ (BB _ (b.emem _ e))) t u;rw[y]at c;exact Di (Af (c pw w _ _ (wpAny_truthy_bool h)))
theorem Fa{w:Aa}{A:Al}{H:List HE}{i:Nat}{Q:Value→Ab→Prop}{E:Value→Ab→Prop}{s:Ab}(a:i<H.length)(h:Q (.ref (H.getD i hz).A) s):wpAny (model pw w) A (match(⟨As H⟩:Array Value)[i]? with|some v=>pure v|none=>unsupported "internal:_heapq.index") Q E s:=by
 rw[iE a];exact Aq h
theorem Wk(m:Nat):((m+1:Nat):Int)-1=(m:Int):=Int.add_sub_cancel m 1
theorem Wl(m:Nat): ¬(m:Int)<0:=Int.not_lt.mpr (Int.natCast_nonneg m)
theorem Wm{w:Aa}{A:Al}{R:Result→Ab→Prop}(o:A.in1.units+1<cLine){a:Nat}{F:Ae}{g:HE→Nat}{c:Value}{H:List HE}{b top m:Nat}{s:Ab}{k:Nat}(h:b≤top∨ ¬g (H.getD b hz)<g (H.getD (par b) hz))(j:b<H.length)(r:ES F H g)(S:An (kt w) s ((a,li (As H) k)::F))
  (n:m=0→R (.ok (.ret c)) s) (d: ∀i,m=i+1→codeAny (model pw w) A (Pa a true i i c i) R s):codeAny (model pw w) A (Pa a false b top c m) R s:=by
 have t:A.in1.in1.units<cLine:=o;have u:A.in1.units<cLine:=by (first|lia|omega)
 have e:s.heap.get? a=some (li (As H) k):=S.mem _ Bj;refine EG ML ?_;rw[EE G8 _];unfold Builtin.«_heapq.heapify.sift»;dsimp only[rawInt];refine Af (Af (C1 e rfl (Aq ?_)));have y:(⟨As H⟩:Array Value).size=H.length:=by simp[As]
 have d:par b<H.length:=by unfold par;(first|lia|omega)
 rw[AH Fm]
 by_cases q:top<b
 ·rw[AS (show(b:Int).toNat>(top:Int).toNat by (first|((repeat(first|exact .head _|apply List.mem_cons_of_mem));done)|simp);(first|lia|omega))]
  have l: ¬g (H.getD b hz)<g (H.getD (par b) hz):=h.resolve_left (by (first|lia|omega));simp only[J7];refine Af (Fa j ?_);refine Af (Fa d ?_);rw[AH Fm];refine Af ?_;refine (?_:wpAny _ _ (holding [.ref (H.getD b hz).A,.ref (H.getD (par b) hz).A] (richCompare .Lt (.ref (H.getD b hz).A) (.ref (H.getD (par b) hz).A)>>=λv=>truthOfDropped v)>>=_) _ _ _);refine Af (Ru t u r j d (by unfold par;(first|lia|omega)) S ?_);refine Af (Af (C1 e rfl (Aq ?_)));simp only[bne_self_eq_false,CZ,if_false];refine Aq ?_;simp only[l,decide_false,CZ,if_false];cases m with
  |zero=>exact Aq (n rfl)
  |succ m=>
   rw[Wk m,AH (Wl m)];exact Aq ⟨plainId_quiet G8 _,d m rfl⟩
 ·rw[AH (show¬(b:Int).toNat>(top:Int).toNat by (first|((repeat(first|exact .head _|apply List.mem_cons_of_mem));done)|simp);(first|lia|omega))]
  cases m with
  |zero=>exact Aq (n rfl)
  |succ m=>
   rw[Wk m,AH (Wl m)];exact Aq ⟨plainId_quiet G8 _,d m rfl⟩
theorem Wn{w:Aa}{A:Al}{R:Result→Ab→Prop}(N:A.in1.units+1<cLine){a:Nat}{F:Ae}{g:HE→Nat}{res:Value}{H I:List HE}{M:Bool}{b top m:Nat}(z:Sft g H M b top m I):
  ∀(s:Ab) (k:Nat),b<H.length→m≤H.length→H.length≤1000→ES F H g→An (kt w) s ((a,li (As H) k)::F)→
  (∀J,Ag (kt w) s J ((a,li (As H) k)::F) ((a,li (As I) k)::F)→R (.ok (.ret res)) J)→codeAny (model pw w) A (Pa a M b top res m) R s:=by
 have P:A.in1.in1.units<cLine:=N;have T:A.in1.units<cLine:=by (first|lia|omega)
 have c: ∀{H:List HE} {s:Ab} {k:Nat},An (kt w) s ((a,li (As H) k)::F)→s.heap.get? a=some (li (As H) k):=λS=>S.mem _ Bj;have swap: ∀{H:List HE} {s:Ab} {k:Nat} {i j:Nat} {Q:Unit→Ab→Prop} {E:Value→Ab→Prop} (_:i<H.length) (_:j<H.length) (_:H.length≤1000) (S:An (kt w) s ((a,li (As H) k)::F)),(∀J,Ag (kt w) s J ((a,li (As H) k)::F) ((a,li (As (CJ H i j)) k)::F)→Q () J)→
   wpAny (model pw w) A.in1 (updateSeq a λK=>(K.setIfInBounds i (.ref (H.getD j hz).A)).setIfInBounds j (.ref (H.getD i hz).A)) Q E s:=λ {H s k i j Q E} U V o S h=>by
  have O:=S.set (i:=0) rfl (f:=Obj.mapSeq λK=>(K.setIfInBounds i (.ref (H.getD j hz).A)).setIfInBounds j (.ref (H.getD i hz).A)) (p:=(a,li (As H) k)) rfl;have e:Obj.mapSeq (λK=>(K.setIfInBounds i (.ref (H.getD j hz).A)).setIfInBounds j (.ref (H.getD i hz).A)) (li (As H) k)=li (As (CJ H i j)) k:=by
   rw[BW,BW];unfold Obj.mapSeq;dsimp only;rw[Wj U V];simp[As,Ep]
  dsimp only at O;rw[e]at O;refine wpAny_updateSeq (c S) rfl (h _ O) (by simp[As];exact Ay o (by decide)) ?_;rw[Wj U V];simp[As,Ep];exact Ay o (by decide)
 have L: ∀(M:Bool) (b top m:Nat),(Pa a M b top res m).quiet=true:=λ_ _ _ _=>plainId_quiet G8 _;have X: ∀n:Nat,(rawInt (n:Int))= .int n 0:=λ_=>rfl
 induction z with
 |two h x y=>
  rename_i H b top m I;intro s k d B o u S C;refine EG ML ?_;rw[EE G8 _];unfold Builtin.«_heapq.heapify.sift»;dsimp only[rawInt];refine Af (Af (C1 (c S) rfl (Aq ?_)));have G:(⟨As H⟩:Array Value).size=H.length:=by simp[As]
  have t:2*b+1<H.length:=by (first|lia|omega)
  rw[AS rfl,G,AS (show(b:Int).toNat<H.length/2 by (first|((repeat(first|exact .head _|apply List.mem_cons_of_mem));done)|simp);(first|lia|omega)),AS (show 2*(b:Int).toNat+1+1<H.length by (first|((repeat(first|exact .head _|apply List.mem_cons_of_mem));done)|simp);(first|lia|omega))];simp only[J7];refine Af (Fa t (Af (Fa h ?_)));rw[AH Fm];refine Af ?_;refine (?_:wpAny _ _ (holding [.ref (H.getD (2*b+1) hz).A,.ref (H.getD (2*b+2) hz).A] (richCompare .Lt (.ref (H.getD (2*b+1) hz).A) (.ref (H.getD (2*b+2) hz).A)>>=λv=>truthOfDropped v)>>=_) _ _ _);refine Af (Ru P T u t h (by (first|lia|omega)) S ?_);refine Af (Af (C1 (c S) rfl (Aq ?_)));simp only[G,bne_self_eq_false,CZ,if_false];refine Aq ?_
  by_cases q:g (H.getD (2*b+1) hz)<g (H.getD (2*b+2) hz)
  ·simp only[q,if_true]at y
   simp only[q,decide_true,Lx,CZ,if_false];refine Af ?_;refine (?_:wpAny _ _ ((seqItems? (.ref a)>>=_)>>=_) _ _ _);refine Af (Af (C1 (c S) rfl (Aq ?_)));refine Af (Fa t ?_);refine Af (Fa d ?_);refine swap t d o S λs1 r=>Aq ⟨L _ _ _ _,?_⟩;exact y s1 k (by rw[Ep];(first|lia|omega)) (by rw[Ep];exact B) (by rw[Ep];exact o) (u.perm (KQ t d)) r.sat λs2 D=>C s2 (r.trans D)
  ·simp only[q,if_false]at y
   simp only[q,decide_false,Bool.not_false,if_true];refine Af ?_;refine (?_:wpAny _ _ ((seqItems? (.ref a)>>=_)>>=_) _ _ _);refine Af (Af (C1 (c S) rfl (Aq ?_)));refine Af (Fa h ?_);refine Af (Fa d ?_);refine swap h d o S λs1 r=>Aq ⟨L _ _ _ _,?_⟩;exact y s1 k (by rw[Ep];(first|lia|omega)) (by rw[Ep];exact B) (by rw[Ep];exact o) (u.perm (KQ h d)) r.sat λs2 D=>C s2 (r.trans D)
 |one h x y=>
  rename_i H b top m I;intro s k d B o u S C;refine EG ML ?_;rw[EE G8 _];unfold Builtin.«_heapq.heapify.sift»;dsimp only[rawInt];refine Af (Af (C1 (c S) rfl (Aq ?_)));have G:(⟨As H⟩:Array Value).size=H.length:=by simp[As]
  have t:2*b+1<H.length:=by (first|lia|omega)
  rw[AS rfl,G,AS (show(b:Int).toNat<H.length/2 by (first|((repeat(first|exact .head _|apply List.mem_cons_of_mem));done)|simp);(first|lia|omega)),AH (show¬2*(b:Int).toNat+1+1<H.length by (first|((repeat(first|exact .head _|apply List.mem_cons_of_mem));done)|simp);(first|lia|omega))];simp only[J7];refine Af ?_;refine (?_:wpAny _ _ ((seqItems? (.ref a)>>=_)>>=_) _ _ _);refine Af (Af (C1 (c S) rfl (Aq ?_)));refine Af (Fa t ?_);refine Af (Fa d ?_);refine swap t d o S λs1 r=>Aq ⟨L _ _ _ _,?_⟩;exact y s1 k (by rw[Ep];(first|lia|omega)) (by rw[Ep];exact B) (by rw[Ep];exact o) (u.perm (KQ t d)) r.sat λs2 D=>C s2 (r.trans D)
 |leaf h x y=>
  intro s k d B o u S C;refine EG ML ?_;rw[EE G8 _];unfold Builtin.«_heapq.heapify.sift»;dsimp only[rawInt];refine Af (Af (C1 (c S) rfl (Aq ?_)));rw[AS rfl,AH (by simp[As];(first|lia|omega))];refine Aq ⟨L _ _ _ _,?_⟩;exact y s k d B o u S C
 |up h l x y=>
  rename_i H b top m I;intro s k d B o u S C;refine EG ML ?_;rw[EE G8 _];unfold Builtin.«_heapq.heapify.sift»;dsimp only[rawInt];refine Af (Af (C1 (c S) rfl (Aq ?_)));have G:(⟨As H⟩:Array Value).size=H.length:=by simp[As]
  have t:par b<H.length:=by unfold par;(first|lia|omega)
  rw[AH Fm,AS (show(b:Int).toNat>(top:Int).toNat by (first|((repeat(first|exact .head _|apply List.mem_cons_of_mem));done)|simp);(first|lia|omega))];simp only[J7];refine Af (Fa d (Af (Fa t ?_)));rw[AH Fm];refine Af ?_;refine (?_:wpAny _ _ (holding [.ref (H.getD b hz).A,.ref (H.getD (par b) hz).A] (richCompare .Lt (.ref (H.getD b hz).A) (.ref (H.getD (par b) hz).A)>>=λv=>truthOfDropped v)>>=_) _ _ _);refine Af (Ru P T u d t (by unfold par;(first|lia|omega)) S ?_);refine Af (Af (C1 (c S) rfl (Aq ?_)));simp only[G,bne_self_eq_false,CZ,if_false];refine Aq ?_;simp only[l,decide_true,if_true];refine Af ?_;refine (?_:wpAny _ _ ((seqItems? (.ref a)>>=_)>>=_) _ _ _);refine Af (Af (C1 (c S) rfl (Aq ?_)));refine Af (Fa t ?_);refine Af (Fa d ?_);refine swap t d o S λs1 r=>Aq ⟨L _ _ _ _,?_⟩;exact y s1 k (by rw[Ep];exact t) (by rw[Ep];exact B) (by rw[Ep];exact o) (u.perm (KQ t d)) r.sat λs2 D=>C s2 (r.trans D)
 |stop h=>
  intro s k d B o u S C;exact Wm N h d u S (λ_=>C s (.refl S)) λW e=>nomatch e
 |next h x y=>
  intro s k d B o u S C;exact Wm N h d u S (λe=>nomatch e) λW e=>Nat.succ.inj e▸y s k B (Bw B) o u S C
theorem Ag.hide{kt:KT}{s d:Ab}{P g F:Ae}(S:An kt s (P++F))(x:Ag kt s d (P++F) (g++F)):Ag kt s d P g:=by
 have i:=x.sat.nd;rw[BC,Fn]at i;refine⟨x.sat.left,λb o e h=> ?_,λp a=> ?_,x.size,x.gens,x.os,x.drawn,x.toks⟩
 ·by_cases q: ∃p∈F,p.1=b
  ·obtain⟨p,a,rfl⟩:=q
   have j:=S.mem p (BG _ a);rw[e]at j;cases j;exact x.sat.mem p (BG _ a)
  ·refine x.keep b o e λp a=> ?_
   rcases List.mem_append.mp a with a|a
   ·exact h p a
   ·exact λe=>q ⟨p,a,e⟩
 ·rcases x.new p (Dh _ a)with⟨r,c,e⟩|h
  ·rcases List.mem_append.mp c with c|c
   ·exact .inl ⟨r,c,e⟩
   ·exact absurd e.symm (i.2.2 _ (B6 a) _ (B6 c))
  ·exact .inr h
theorem Wo: ∀(P F:Ae) (l:List Obj),l.length=P.length→Bk (P++F) (l++F.map (·.2))=Bk P l++F:=by
 intro P
 induction P with
 |nil=>
  intro F l a;obtain rfl:l=[]:=Px a;refine (?_:Bk F (F.map (·.2))=Bk [] []++F);have: ∀F:Ae,Bk F (F.map (·.2))=F:=by
   intro F
   induction F with
   |nil=>rfl
   |cons p F b=>exact Am (_:: ·) b
  rw[this];rfl
 |cons p P b=>
  intro F l a;cases l with
  |nil=>cases a
  |cons o l=>exact Am (_:: ·) (b F l (by simpa using a))
theorem Ca.hide{w:Aa}{F:Ae}{e c:Ak}(h:Av w c)(i:c={e with pre:=e.pre++F,outs:=λa t o=>e.outs a t o++F.map (·.2)})(j: ∀a t o,(e.outs a t o).length=e.pre.length)(d:e.gn=none:=by rfl):Ca w F e:=by
 subst i;intro A k l m s S G;refine B4 (h A k l m s S G) ?_;rintro r g ⟨a,t,o,n,u,v,y,b,z⟩;refine⟨a,t,o,n,u,v,y,?_,z⟩;rw[d];have b:Jv (kt w) e.gn s g (e.pre++F) (Bk (e.pre++F) (e.outs a t o++F.map (·.2))++BH a (e.news a t o)):=b;rw[d,Wo _ _ _ (j a t o)]at b;have b:Ag (kt w) s g (e.pre++F) (Bk e.pre (e.outs a t o)++F++BH a (e.news a t o)):=b;refine Ag.hide S (b.permR ?_);exact AO [_,_,_] [] [0,4,0,1,2,4,6] [0,4,0,1,2,6,4]
theorem Rv{w:Aa}{F:Ae}{e:Ak}(h: ∀(A:Al) (s:Ab),A.depth≤e.d→A.units≤e.u→A.handled=e.h→An (kt w) s (e.pre++F)→ ∀R:Result→Ab→Prop,
  (∀b a t o,a.length=e.na→t.length=e.nt→o.length=e.no→Ag (kt w) s b (e.pre++F) (Bk e.pre (e.outs a t o)++BH a (e.news a t o)++F)→AY s.toks b.toks t→R (e.rx o (e.r a t)) b)→codeAny (model pw w) A e.c R s)(c:e.gn=none:=by rfl):Ca w F e:=λA d g i s S _=>
 h A s d g i S _ λ_ a t o j k l m n=>⟨a,t,o,j,k,l,rfl,by rw[c];exact Ag.hide S m,n⟩
theorem iF:entryFor table "_heapq.heapify"=some Builtin.«_heapq.heapify»:=entryFor_of_tree (by kernel_rfl)
theorem iG:plainId "_heapq.heapify"=true:=by decide+kernel
theorem iH:builtinKind "_heapq.heapify"=none:=by decide+kernel
theorem iI(a:Value):argsOk "_heapq.heapify" ⟨[a],[]⟩:=by unfold argsOk;kernel_rfl
theorem iJ:entryFor table "_heapq.heapreplace"=some Builtin.«_heapq.heapreplace»:=entryFor_of_tree (by kernel_rfl)
theorem iK:plainId "_heapq.heapreplace"=true:=by decide+kernel
theorem iM:builtinKind "_heapq.heapreplace"=none:=by decide+kernel
theorem iN(a b:Value):argsOk "_heapq.heapreplace" ⟨[a,b],[]⟩:=by unfold argsOk;kernel_rfl
theorem Rw{w:Aa}{A:Al}{R:Result→Ab→Prop}{s:Ab}{c:String}{a:Args}{b:Builtin}(l:plainId c=true)(m:entryFor table c=some b)(n:builtinKind c=none)(j:argsOk c a)
  (h:wpAny (model pw w) A.in1 (b a) (λfin d=>match fin with| .done f=>R (.ok f) d| .again k=>k.quiet=true∧codeAny (model pw w) A k R d) (λe d=>R (.error e) d) s):codeAny (model pw w) A (.call (.builtin c) a) R s:=by
 refine DT l m ?_;simp only[checkBuiltinCall,n];cases i:Manifest.signature? c with
 |none=>exact Aq h
 |some g=>
  simp only[argsOk,i]at j;have o:Bind.checkArgs c g a=pure ():=j;refine (?_:wpAny _ _ (Bind.checkArgs c g a) _ _ s);rw[o];exact Aq h
noncomputable def Wp(a k:Nat)(H b:List HE)(P:Ae):Ak:=
 {d:=580,u:=3600,h:=none,c:=.call (.builtin Qc) ⟨[.ref a],[]⟩,idx:=[],pre:=(a,li (As H) k)::P,na:=0,nt:=0,r:=λ_ _=>.ok (.ret .none),outs:=λ_ _ _=>li (As b) k::P.map (·.2),news:=λ_ _ _=>[]}
theorem KR: ∀F:Ae,Bk F (F.map (·.2))=F
 |[]=>rfl
 |p::F=>Am (_:: ·) (KR F)
theorem iO{w:Aa}{F P:Ae}{a k:Nat}{H i:List HE}{g:HE→Nat}(y:2≤H.length)(r:H.length≤1000)(z:Sft g H true (H.length/2-1) (H.length/2-1) (H.length/2-1) i)(t:ES (P++F) H g):Ca w F (Wp a k H i P):=by
 refine Rv λA s B j C S R u=> ?_;refine (?_:codeAny _ A (.call (.builtin Qc) _) _ s);rw[qJ];refine Rw iG iF iH (iI _) ?_;have S:An (kt w) s ((a,li (As H) k)::(P++F)):=S;have l:=S.mem _ Bj;have d:=l;rw[BW]at d;have fin: ∀(h:Int) (n:Nat),h=((H.length/2-1:Nat):Int)-1→n=H.length→wpAny (model pw w) A.in1 (PySem.again (.builtin "_heapq.heapify.sift" ⟨[.ref a,.bool false,.bool true,rawInt ((n/2-1:Nat):Int),rawInt ((n/2-1:Nat):Int),.none,rawInt h],[]⟩)) (λfin b=>match fin with| .done f=>R (.ok f) b| .again m=>m.quiet=true∧codeAny (model pw w) A m R b) (λe b=>R (.error e) b) s:=λh n ek en=>by
  subst en ek;refine Aq ⟨plainId_quiet G8 _,?_⟩;have v:A.in1.in1.units≤3602:=JS (JS j);refine Wn (A:=A) (F:=P++F) (by have:A.in1.units≤3601:=JS j;exact CM (Cz this 1) (by decide)) z s k (by (first|lia|omega)) (by (first|lia|omega)) r t S λb o=>u b [] [] [] rfl rfl rfl ?_ o.toks;refine (?_:Ag (kt w) s b ((a,_)::(P++F)) ((a,_)::Bk P (P.map (·.2))++[]++F));rw[KR,BV];exact o
 refine (?_:wpAny _ _ (_>>=_) _ _ _);refine Af ?_;refine (?_:wpAny _ _ (oneArg "_heapq.heapify" ⟨[.ref a],[]⟩>>=_) _ _ _);refine Af (GH (show oneArg "_heapq.heapify" ⟨[.ref a],[]⟩=pure (.ref a)from rfl) ?_);refine Af ?_;refine (?_:wpAny _ _ (isInstance (.ref a) (.type "list")>>=_) _ _ _);refine Af (wpAny_isInstance (T:="list") ⟨_,d,rfl⟩ AutoSeq1.sub_list_list ?_);rw[AS rfl];refine Aq (Aq ?_);dsimp only;refine Af ?_;refine (?_:wpAny _ _ (seqItems? (.ref a)>>=_) _ _ _);refine Af (C1 l rfl (Aq ?_));have c:(⟨As H⟩:Array Value).size=H.length:=by simp[As]
 rw[AH (by rw[c];(first|lia|omega)),AH (by rw[c];(first|lia|omega))];exact fin _ _ (by rw[c];(first|lia|omega)) c
noncomputable def Rx(a k:Nat)(H b:List HE)(x y:HE)(P:Ae):Ak:=
 {d:=580,u:=3600,h:=none,c:=.call (.builtin Oo) ⟨[.ref a,.ref y.A],[]⟩,idx:=[],pre:=(a,li (As (x::H)) k)::P,na:=0,nt:=0,r:=λ_ _=>.ok (.ret (.ref x.A)),outs:=λ_ _ _=>li (As b) k::P.map (·.2),news:=λ_ _ _=>[]}
theorem Pb{w:Aa}{F P:Ae}{a k:Nat}{H n:List HE}{x y:HE}{g:HE→Nat}(j:H.length<1000)(z:Sft g (y::H) true 0 0 0 n)(t:ES (P++F) (y::H) g):Ca w F (Rx a k H n x y P):=by
 refine Rv λA s B u C S R v=> ?_;refine (?_:codeAny _ A (.call (.builtin Oo) _) _ s);rw[qK];refine Rw iK iJ iM (iN _ _) ?_;have S:An (kt w) s ((a,li (As (x::H)) k)::(P++F)):=S;have l:=S.mem _ Bj;have d:=l;rw[BW]at d;unfold Builtin.«_heapq.heapreplace»;refine (?_:wpAny _ _ (_>>=_) _ _ _);refine Af ?_;refine (?_:wpAny _ _ (noKeywords "_heapq.heapreplace" ⟨[.ref a,.ref y.A],[]⟩>>=_) _ _ _);refine Af (GH (show noKeywords "_heapq.heapreplace" ⟨[.ref a,.ref y.A],[]⟩=pure ()from rfl) ?_);refine Af (m:=checkCount "heapreplace" 2 2 2) (Aq ?_);refine Af ?_;refine (?_:wpAny _ _ (isInstance (.ref a) (.type "list")>>=_) _ _ _);refine Af (wpAny_isInstance (T:="list") ⟨_,d,rfl⟩ AutoSeq1.sub_list_list ?_);rw[AS rfl];refine Aq (Aq ?_);dsimp only;refine Af ?_;refine (?_:wpAny _ _ (seqItems? (.ref a)>>=_) _ _ _);refine Af (C1 l rfl (Aq ?_));refine (?_:wpAny _ _ (updateSeq a (λb=>b.setIfInBounds 0 (.ref y.A))>>=_) _ _ _);have c:=S.set (i:=0) rfl (f:=Obj.mapSeq λb=>b.setIfInBounds 0 (.ref y.A)) (p:=(a,li (As (x::H)) k)) rfl;have o:(⟨As (x::H)⟩:Array Value).setIfInBounds 0 (.ref y.A)=⟨As (y::H)⟩:=by
  apply Array.ext';simp[As]
 have e:Obj.mapSeq (λb=>b.setIfInBounds 0 (.ref y.A)) (li (As (x::H)) k)=li (As (y::H)) k:=by
  rw[BW,BW];unfold Obj.mapSeq;dsimp only;rw[o];simp[As]
 dsimp only at c;rw[e]at c;refine Af (wpAny_updateSeq l rfl ?_ (by show(As (x::H)).length≤_;rw[BY];exact Ay (show(x::H).length≤1000 from j) (by decide)) (by rw[o];show(As (y::H)).length≤_;rw[BY];exact Ay (show(y::H).length≤1000 from j) (by decide)));refine Aq ⟨plainId_quiet G8 _,?_⟩;refine Wn (A:=A) (F:=P++F) (by have:A.in1.units≤3601:=JS u;exact CM (Cz this 1) (by decide)) (res:=.ref x.A) z _ k (by (first|((repeat(first|exact .head _|apply List.mem_cons_of_mem));done)|simp)) (by (first|((repeat(first|exact .head _|apply List.mem_cons_of_mem));done)|simp)) (show(y::H).length≤1000 from j) t c.sat λr h=>v r [] [] [] rfl rfl rfl ?_ (c.trans h).toks;refine (?_:Ag (kt w) s r ((a,_)::(P++F)) ((a,_)::Bk P (P.map (·.2))++[]++F));rw[KR,BV];exact c.trans h
noncomputable def Ry(a b e n:Nat)(X:List El)(m:El):Ak:=
 {d:=500,u:=2800,h:=none,c:=.call (.builtin On) ⟨[.ref a],[(HX,.ref e),(FS,.none)]⟩,idx:=[],pre:=[(a,liO b 0),AJ b X n],na:=0,nt:=0,r:=λ_ _=>.ok (.ret (.ref m.T)),outs:=λ_ _ _=>[fi Bo [.none,.int (X.length:Int) 0],li (Ax X) n],news:=λ_ _ _=>[]}
theorem Wq(X:List El):(EL X).map (·.2)=X.map BN:=by
 unfold EL;rw[BZ];rfl
theorem iP{w:Aa}{b c a n:Nat}{X:List El}{m:El}(d:X.Pairwise CX)(e:m∈X)(g: ∀y∈X,y≠m→Cp m y=true∧Cp y m=false):Ca w (EL X) (Ry b c a n X m):=
 Ca.hide (gL (w:=w) (it:=b) (rs:=c) (sen:=a) (n:=n) d e g) (by unfold I1 Ry;simp only[Wq]) (λ_ _ _=>rfl)
noncomputable def MM(b n:Nat)(X Y:List El):Ak:=
 {d:=500,u:=2800,h:=none,c:=.call (.builtin Kn) ⟨[.ref b],[(FS,.none),(G4,.bool true)]⟩,idx:=[],pre:=[AJ b X n],na:=1,nt:=0,r:=λa _=>.ok (.ret (.ref (a.getD 0 0))),outs:=λ_ _ _=>[li (Ax X) n],news:=λ_ _ _=>[li (Ax Y) 2]}
theorem iQ{w:Aa}{a n:Nat}{X Y:List El}{f:El→Nat}(c:X.Perm Y)(K:Ed Y f)(d:2≤X.length)(b:X.length<64):Ca w (EL Y) (MM a n X Y):=
 Ca.hide (gU (w:=w) (rs:=a) (n:=n) c K d b) (by unfold V9 MM;simp only[Wq]) (λ_ _ _=>rfl)
theorem Wr(a:Addr)(b:Bool):Builtin.«list.sort» ⟨[.ref a],[(Str.ofString "reverse",.bool b)]⟩=EQ a b:=by
 rw[EQ,list_sort_rev]
theorem iR{w:Aa}{A:Al}{E:Value→Ab→Prop}{s:Ab}(b:NoneBooked s.heap)(k:A.in1.units<cLine)(a:A.units<cLine){x y:HE}(g:s.heap.get? x.A=some (Bm x))(h:s.heap.get? y.A=some (Bm y))(c:s.heap.get? x.e.T=some (BN x.e))(d:s.heap.get? y.e.T=some (BN y.e))(e:CX x.e y.e)(i:x.e.T≠y.e.T){Q:Bool→Ab→Prop}(j:Q (Cp y.e x.e) s):
  wpAny (model pw w) A (keyLt' (tuples' false) (.ref x.A) (.ref y.A)) Q E s:=by
 refine kat_lt g rfl h rfl ?_;refine kat_cons (EqAt.of_refs i (Wh b a c d e) pw w _ _ (kat_no (kat_one _ _ ?_)));exact(CE.tuple_lt a c d (Ro b e)) pw w _ _ j
theorem Ws{h:Heap}: ∀{X:List HE},(∀e∈X,h.get? e.A=some (Bm e))→KatTups h (As X) (X.map λe=>.ref e.e.T)
 |[],_=>trivial
 |e::X,a=>⟨⟨e.A,Bm e,_,0,rfl,a e Bj,rfl,rfl,rfl⟩,Ws λx b=>a x (BB _ b)⟩
theorem iT{w:Aa}{A:Al}{E:Value→Ab→Prop}{s:Ab}{X:List HE}(a:0<X.length)(b: ∀e∈X,s.heap.get? e.A=some (Bm e))(c: ∀e∈X,s.heap.get? e.e.T=some (BN e.e)){Q:SortKind→Ab→Prop}(d:Q (tuples' false) s):wpAny (model pw w) A (keyKind' (As X).toArray) Q E s:=by
 refine kat_kind (T:=.type "tuple") (Ws b) (by simpa using a) (λv g=> ?_) (by rfl) (by simpa using d);obtain⟨e,h,rfl⟩:=List.mem_map.mp g;have:(BN e.e).cls= .type "tuple":=by unfold BN;rw[JI]
 exact this▸(show Looks (model pw w) s.heap (typeOf (.ref e.e.T)) (BN e.e).cls from(Looks.ld (c e h)).andThen .now)
theorem Rz(X:List HE){i:Nat}(a:i<X.length):(As X).getD i .none= .ref (X.getD i hz).A:=by
 simp[As,a]
theorem iU{w:Aa}{A:Al}{E:Value→Ab→Prop}(V:A.in1.units<cLine)(O:A.units<cLine){a n:Nat}{H Y:List HE}{F:Ae}{g:HE→Nat}(y:H.Perm Y)(z:Y.Pairwise λa b=>g b<g a)(m:ES F Y g)(W:2≤H.length)(R:H.length<64){s:Ab}(S:An (kt w) s ((a,li (As H) n)::F)){P:AA→Ab→Prop}
  (h: ∀o,Ag (kt w) s o ((a,li (As H) n)::F) ((a,li (As Y) (n+2))::F)→P (.done (.ret .none)) o):wpAny (model pw w) A (EQ a true) P E s:=by
 have u:(As H).length=H.length:=by simp[As]
 have T:katRev true (As H)=As H.reverse:=by simp[katRev,As]
 have v: ∀{i},i<H.length→H.reverse.getD i hz∈Y:=λ {i} c=>by
  have t:i<H.reverse.length:=by simpa using c
  rw[show H.reverse.getD i hz=H.reverse[i] by simp[List.getD,c]];exact y.mem_iff.mp (List.mem_reverse.mp (C0 t))
 have X:H.reverse.Perm Y.reverse:=(GD H).trans (y.trans (GD Y).symm);have L:H.reverse.Pairwise (λa b=>g a≠g b):=by
  have:Y.Pairwise (λa b=>g a≠g b):=z.imp λh=>Ne.symm (CN h);exact(((GD H).trans y).pairwise_iff λ {a b} h=>Ne.symm h).mpr this
 have G: ∀i j,i<H.length→j<H.length→g (H.reverse.getD i hz)=g (H.reverse.getD j hz)→i=j:=λi j c k M=>by
  rw[F6]at L;have t:i<H.reverse.length:=by simpa using c
  have I:j<H.reverse.length:=by simpa using k
  rw[show H.reverse.getD i hz=H.reverse[i] by simp[List.getD,c],show H.reverse.getD j hz=H.reverse[j] by simp[List.getD,k]]at M;rcases Jh i j with h|h|h
  ·exact absurd M (L i j t I h)
  ·exact h
  ·exact absurd M.symm (L j i I t h)
 refine OS (κ:=tuples' false) (F:=F) (r:=λi=>g (H.reverse.getD i hz)) (by rw[u];exact W) (by rw[u];exact R) (λi j c k e=>G i j (u▸c) (u▸k) e) (λo Q l Z=> ?_) (λi j o C c k U l hC=> ?_) S λo p D J K=> ?_
 ·exact iT (by (first|lia|omega)) (λe N=>l.mem _ (BB _ (m.mem e (y.mem_iff.mp N)))) (λe N=>l.mem _ (BB _ (m.emem e (y.mem_iff.mp N)))) Z
 ·rw[u]at c k
  rw[T,Rz _ (by simpa using c),Rz _ (by simpa using k)];have ne:g (H.reverse.getD i hz)≠g (H.reverse.getD j hz):=λe=>U (G i j c k e);obtain⟨ap,nT,eg⟩:=m.ap _ (v c) _ (v k) λe=>ne (by rw[e]);refine iR (Mv l) V O (l.mem _ (BB _ (m.mem _ (v c)))) (l.mem _ (BB _ (m.mem _ (v k)))) (l.mem _ (BB _ (m.emem _ (v c)))) (l.mem _ (BB _ (m.emem _ (v k)))) ap nT ?_;rw[eg];exact hC o (.refl l)
 ·rw[u]at D J
  have key:=OU (d:=hz) (f:=g) (B:=H.reverse) (B':=Y.reverse) (by (first|((repeat(first|exact .head _|apply List.mem_cons_of_mem));done)|simp)) D J X.symm (by rw[List.pairwise_reverse];exact z);have em:katRev true (p.toList.map λi=>(katRev true (As H)).getD i .none)=As Y:=by
   have:As Y.reverse=(p.toList.map λi=>H.reverse.getD i hz).map λe=>Value.ref e.A:=by rw[key]
   rw[T];have e2:(p.toList.map λi=>(As H.reverse).getD i .none)=As Y.reverse:=by
    rw[this,BZ];apply DU;intro i c;exact Rz _ (by simpa using List.mem_range.mp (D.mem_iff.mp c))
   rw[e2];simp[katRev,As]
  rw[em]at K;exact h o K
theorem Wt(a:Value):argsOk "list.sort" ⟨[a],[(G4,.bool true)]⟩:=by unfold argsOk;kernel_rfl
noncomputable def Wu(a n:Nat)(H Y:List HE)(P:Ae):Ak:=
 {d:=580,u:=3600,h:=none,c:=.call (.builtin Ko) ⟨[.ref a],[(G4,.bool true)]⟩,idx:=[],pre:=(a,li (As H) n)::P,na:=0,nt:=0,r:=λ_ _=>.ok (.ret .none),outs:=λ_ _ _=>li (As Y) (n+2)::P.map (·.2),news:=λ_ _ _=>[]}
theorem iV{w:Aa}{F P:Ae}{a n:Nat}{H Y:List HE}{g:HE→Nat}(k:H.Perm Y)(d:Y.Pairwise λa b=>g b<g a)(l:ES (P++F) Y g)(m:2≤H.length)(e:H.length<64):Ca w F (Wu a n H Y P):=by
 refine Rv λA s t o u S R r=> ?_;refine (?_:codeAny _ A (.call (.builtin Ko) _) _ s);rw[P9];have S:An (kt w) s ((a,li (As H) n)::(P++F)):=S;have h:=S.mem _ Bj;rw[BW]at h;have c:A.in1.units≤3601:=JS o;refine DT slot_list_sort.plain entry_list_sort (slot_list_sort.check _ _ _ _ _ _ _ _ ⟨_,h,rfl⟩ (Wt _) ?_);rw[show Builtin.«list.sort» ⟨[.ref a],[(G4,.bool true)]⟩=EQ a true from Wr a true];refine iU (CM (JS c) (by decide)) (CM c (by decide)) k d l m e S λi j=>r i [] [] [] rfl rfl rfl ?_ j.toks;refine (?_:Ag (kt w) s i ((a,_)::(P++F)) ((a,_)::Bk P (P.map (·.2))++[]++F));rw[KR,BV];exact j
noncomputable def Dd(q:Nat)(a:List Value)(n k:Nat):Ak:=
 {d:=900,u:=9000,h:=none,c:=.call (.builtin Ma) ⟨[.ref q],[]⟩,idx:=[],pre:=[(q,li a n)],na:=0,nt:=1,r:=λ_ t=>.ok (.ret (.int k (t.getD 0 0))),outs:=λ_ _ _=>[li a n],news:=λ_ _ _=>[]}
theorem DG{w:Aa}{q n k:Nat}{a:List Value}(d:a.length=k)(j:k≤1000):Av w (Dd q a n k):=by
 refine GR λA s l m o S R g=> ?_;have b:=S.mem (q,li a n) (by simp[Dd]);rw[BW]at b;refine (?_:codeAny _ _ (.call (.builtin Ma) ⟨[.ref q],[]⟩) _ s);rw[T6];refine Rw plain_len entry_len kind_len (args_len1 _) ?_;have i:s.heap.IsList q (⟨a⟩:Array Value):=⟨_,b,rfl,n,rfl⟩
 have e:((⟨a⟩:Array Value).size:Int)=k:=by show((a.length:Nat):Int)=_;rw[d]
 refine CA (wpAny_len_body_list (E:=λ_ _=>False) (Q:=λr c=>r= .int k (s.toks+1)∧c={s with toks:=s.toks+1+1}) i (by rw[e];(first|lia|omega)) ⟨by rw[e],rfl⟩) (λfin c h=> ?_) (λe c h=>False.elim h);obtain⟨v,rfl,h⟩:=h;obtain⟨rfl,rfl⟩:=h;refine g _ [] [s.toks+1] [] rfl rfl rfl ?_ ⟨Jq _,A7 _⟩;exact S.tok.trans S.tok.sat.tok
theorem iW:ID= .type "slice":=by
 refine (?_:Value.type s4674234679698826739x5=_);rw[←e4674234679698826739x5]
noncomputable def ET(a b:Nat)(e:List Value)(n:Nat)(vl g i:Value)(j:List Value):Ak:=
 {d:=900,u:=9000,h:=none,c:=.call (.builtin JC) ⟨[.ref a,.ref b],[]⟩,idx:=[],pre:=[(a,li e n),(b,fi ID [vl,g,i])],na:=1,nt:=0,r:=λa _=>.ok (.ret (.ref (a.getD 0 0))),outs:=λ_ _ _=>[li e n,fi ID [vl,g,i]],news:=λ_ _ _=>[li j 0]}
theorem RA{hv:Option Value}{w:Aa}{a j n:Nat}{b k:List Value}{vl d e:Value}{l r g:Option Int}(D:IsPart vl l)(E:IsPart d r)(F:IsPart e g)(z:g≠some 0)(G:b.length≤1000)(H:slicePick ⟨b⟩ l r g=⟨k⟩):Av w {ET a j b n vl d e k with h:=hv}:=by
 refine GR λA s L M B S R I=> ?_;have y:=S.mem (a,li b n) (by simp[ET]);have i:=S.mem (j,fi ID [vl,d,e]) (by simp[ET]);have J:(fi ID [vl,d,e]:Obj)={cls:=.type "slice",data:=.fields #[vl,d,e]}:=by
  refine (?_:Obj.mk ID none _ _=_);rw[iW]
 rw[BW]at y;rw[J]at i;have K:s.TypeIs (.ref a) "list":=⟨_,y,rfl⟩
 have u:s.TypeIs (.ref j) "slice":=⟨_,i,rfl⟩
 refine (?_:codeAny _ _ (.call (.builtin JC) _) _ s);rw[P8];refine DT slot_list_getitem.plain entry_list_getitem (slot_list_getitem.check _ _ _ _ _ _ _ _ K (args_list_getitem _ _) ?_);refine (?_:wpAny _ _ (Builtin.List.listSubscript? (.ref j)>>=_) _ _ s);refine Af ?_;unfold Builtin.List.listSubscript?;refine Af (wpAny_specialOf u slice_no_index ?_);simp only[Option.isNone_none,if_true];refine Aq ?_;refine (?_:wpAny _ _ (typeOf (.ref j)>>=_) _ _ s);refine Af (wpAny_typeOf u ?_);rw[AH (by decide),listSliceParts_eq];have t: ¬((rawPart g==rawInt 0)=true):=by
  cases g with
  |none=>exact Fm
  |some c=>
   intro B;exact z (Am some (by simpa[rawPart,rawInt]using B))
 refine Af (Af (wpAny_field i rfl (x:=e) rfl (Af (wpAny_listPart F ?_))));rw[AH t];refine Af (wpAny_field i rfl (x:=vl) rfl (Af (wpAny_listPart D ?_)));refine Af (wpAny_field i rfl (x:=d) rfl (Af (wpAny_listPart E (Aq ?_))));refine Af (m:=Builtin.List.listItems (.ref a)) ?_;unfold Builtin.List.listItems;refine Af (C1 y rfl (Aq ?_));refine Af (GH (sliceIndices_raw l r g _ z) ?_);have v:=S.push (o:=li k 0) rfl;have C:(li k 0:Obj)={cls:=.type "list",data:=.seq (slicePick ⟨b⟩ l r g)}:=by rw[H,BW]
 rw[C]at v;refine Af (wpAny_newObj_type (Aq (I _ [s.heap.objs.size] [] [] rfl rfl rfl ?_ (A7 _))) (Ay (slicePick_size_le _ l r g) (Ay (show b.length≤1000 from G) (by decide))));refine (?_:Ag (kt w) s _ [(a,li b n),(j,fi ID [vl,d,e])] [(a,li b n),(j,fi ID [vl,d,e]),(s.heap.objs.size,li k 0)]);rw[C];exact v
theorem H3{w:Aa}{a j n:Nat}{b d:List Value}{vl e g:Value}{h i c:Option Int}(k:IsPart vl h)(l:IsPart e i)(m:IsPart g c)(o:c≠some 0)(r:b.length≤1000)(s:slicePick ⟨b⟩ h i c=⟨d⟩):Av w (ET a j b n vl e g d):=RA (hv:=none) k l m o r s
set_option maxHeartbeats 4000000
noncomputable abbrev KS:List Stmt:=AN (DX 8)
noncomputable abbrev JT:Stmt:=AB KS 0
noncomputable abbrev RB:Stmt:=AB KS 1
noncomputable abbrev JU:Stmt:=AB KS 2
noncomputable abbrev Fb(i:Nat):Stmt:=AB (AN JT) i
noncomputable abbrev Cb(i:Nat):Stmt:=AB (AN JU) i
noncomputable abbrev Ck(f c:Nat):Env:={scope:=EH (DX 8),locals:=f,globals:=3,cells:=[(yF,c)],qual:=⟨⟨[110,108,97,114,103,101,115,116,46,60,108,111,99,97,108,115,62,46]⟩⟩,func:=some 280,code:=.ref 279,frame:=some f,builtins:=0}
noncomputable abbrev FV:Expr:=sT (Fb 3)
noncomputable abbrev BJ:Stmt:=Cb 7
noncomputable def trnT(f c:Nat):Sem AA:=isTrue (sT JT) (Ck f c) (eval (sT JT) (Ck f c))>>=λb=>pure (.done (.ret (.bool b)))
noncomputable def trnA(f c:Nat):Sem AA:=execs [Fb 0,Fb 1,Fb 2] (Ck f c)>>=λv=>pure (.done v)
noncomputable def trnL(f c:Nat):Sem AA:=eval (A9 (Br (eE FV 0)) 0) (Ck f c)>>=λv=>pure (.done (.ret v))
noncomputable def trnR(f c:Nat):Sem AA:=eval (A9 (Br (eE FV 0)) 1) (Ck f c)>>=λv=>pure (.done (.ret v))
noncomputable def trnE(f c:Nat):Sem AA:=eval (eE FV 2) (Ck f c)>>=λv=>pure (.done (.ret v))
noncomputable def trn2(f c:Nat):Sem AA:=exec RB (Ck f c)>>=λv=>pure (.done v)
noncomputable def trnK(f c:Nat):Sem AA:=isTrue (sT JU) (Ck f c) (eval (sT JU) (Ck f c))>>=λb=>pure (.done (.ret (.bool b)))
noncomputable def trnC1(f c:Nat):Sem AA:=execs [Cb 0,Cb 1] (Ck f c)>>=λv=>pure (.done v)
noncomputable def trnC2(f c:Nat):Sem AA:=execs [Cb 2,Cb 3,Cb 4,Cb 5,Cb 6] (Ck f c)>>=λv=>pure (.done v)
noncomputable def trnFI(f c:Nat):Sem AA:=(eval (Ev BJ) (Ck f c)>>=λv=>foldedSetIterable (Ev BJ) (Ck f c) v>>=λx=>standAt (Ev BJ).pos>>=λ_=>holding [x] (pyIter x))>>=λv=>pure (.done (.ret v))
noncomputable def trnC3(f c:Nat):Sem AA:=execs [Cb 8,Cb 9] (Ck f c)>>=λv=>pure (.done v)
lay_quick trnT trnA trnL trnR trnE trn2 trnK trnC1 trnC2 trnFI trnC3
set_option maxHeartbeats 400000
noncomputable abbrev AQ(P:Aj)(b c d a e:Nat)(x:List DictEntry)(n:Nat):Obj:=fr ([Ap P LX b (.int d a),Ap P Oi c (.ref e)]++x) n
noncomputable abbrev Cl:=ce (some .none)
theorem iY(w:Aa)(d e b:Nat):
  AI w 22 (.call (.ref 280) ⟨[.int e b,.ref d],[]⟩) ([]) [0,0,0,0,1,1,0,1,1,2,2,0,1] [] [] 0 470 2500 [0,1]
   (λa c g=>.again (.func KS (Ck (a 0) (a 1)))) (λa c g=>[(a 0,AQ w.2 (c 0) (c 1) e b d [] 2),(a 1,Cl)]) 2:=by
 kernel_rfl
theorem iZ(w:Aa)(f c e g d a h:Nat)(b:Bool):
  AF w 14 (tw11701523766201414514 f c) ([(f,AQ w.2 e g d a h [] 2)]) [1,1] [] (Bh [0] [λl m n=>(.bool (decide ((d:Int)=1)),.bool b)]) 490 2700 [0]
   (λi j k=>.done (.ret (.bool b))) (λi j k=>[(f,AQ w.2 e g d a h [] 2)]) 1:=by
 kernel_rfl
noncomputable abbrev AV(a b:Nat):Value:=(.int (↑ a) b)
theorem lA(w:Aa)(f c h i j e a g:Nat)(X:List El)(m:El):
  AF w 81 (tw16727612240851387441 f c) ([(f,AQ w.2 h i j e a [] 2),AJ a X g,(c,Cl)]) (dg 6 0x37d78d97076118f4ff) (AE [(5,[3,1])] ([λk n o=>Ry (tk k 0) a (tk k 1) g X m])) [] 490 2700 [0,1,4]
   (λb d l=>.done .next) (λb d l=>[(f,fr [Ad w LX h (AV j e),Ad w Oi i (.ref a),Ad w DY (d 0) (.ref (b 0)),Ad w GP (d 1) (.ref (b 1)),Ad w DZ (d 2) (.ref m.T)] 5),(a,li (Ax X) g),(b 1,⟨Km,none,Data.plain,⟨[]⟩⟩)]) 3:=by
 kernel_rfl
theorem lB(w:Aa)(f c b d e a g h i j k l r:Nat):
  AF w 8 (tw4840358309800446347 f c) ([(f,AQ w.2 b d e a g [Ad w DY h (.ref k),Ad w GP i (.ref l),Ad w DZ j (.ref r)] 5)]) [1] [] [] 490 2700 [0]
   (λm n o=>.done (.ret (.ref r))) (λm n o=>[(f,AQ w.2 b d e a g [Ad w DY h (.ref k),Ad w GP i (.ref l),Ad w DZ j (.ref r)] 5)]) 0:=by
 kernel_rfl
theorem lC(w:Aa)(f c d e g a h i j k l b r:Nat):
  AF w 8 (tw13090034962049717353 f c) ([(f,AQ w.2 d e g a h [Ad w DY i (.ref l),Ad w GP j (.ref b),Ad w DZ k (.ref r)] 5)]) [1] [] [] 490 2700 [0]
   (λm n o=>.done (.ret (.ref b))) (λm n o=>[(f,AQ w.2 d e g a h [Ad w DY i (.ref l),Ad w GP j (.ref b),Ad w DZ k (.ref r)] 5)]) 0:=by
 kernel_rfl
theorem lD(w:Aa)(f c d e g a h i j k l m r:Nat):
  AF w 10 (tw12698246169658312150 f c) ([(f,AQ w.2 d e g a h [Ad w DY i (.ref l),Ad w GP j (.ref m),Ad w DZ k (.ref r)] 5)]) [1] [] [] 490 2700 [0,1]
   (λb n o=>.done (.ret (.ref (b 0)))) (λb n o=>[(f,fr [Ad w LX d (AV g a),Ad w Oi e (.ref h),Ad w DY i (.ref l),Ad w GP j (.ref m),Ad w DZ k (.ref r)] 5),(b 0,li [.ref r] 0)]) 0:=by
 kernel_rfl
theorem lE(w:Aa)(f c l m g e a d h:Nat)(X Y:List El):
  AF w 57 (tw6526402817431349631 f c) ([(f,AQ w.2 l m g e a [] 2),AJ a X d,(c,Cl)]) (dg 5 769348052124) (AE [(0,[1]),(1,[1]),(0,[3,4])] ([λb i j=>Dd a (Ax X) d h,λb i j=>MM a d X Y,λb i j=>ET (tk b 0) (tk b 1) (Ax Y) 2 .none (.int g e) .none (Ax Y)])) (Bh [0] [λb i j=>(.bool (decide ((g:Int)≥h)),.bool true)]) 490 2700 [1,5]
   (λk n o=>.done (.ret (.ref (k 2)))) (λk n o=>[(a,li (Ax X) d),(k 2,li (Ax Y) 0)]) 2:=by
 kernel_rfl
theorem lH(w:Aa)(f c i j d b a e h:Nat)(X:List El):
  AF w 33 (tw6526402817431349631 f c) ([(f,AQ w.2 i j d b a [] 2),AJ a X e]) [0,0,1,0,1,1,1,1,1] (AE [(0,[1])] ([λk l m=>Dd a (Ax X) e h])) (Bh [0] [λk l m=>(.bool (decide ((d:Int)≥h)),.bool false)]) 490 2700 [0,1]
   (λn g o=>.done .next) (λn g o=>[(f,fr [Ad w LX i (.int (↑d) b),Ad w Oi j (.ref a),Ad w Ci (g 1) (AV h (g 0))] 3),(a,li (Ax X) e)]) 2:=by
 kernel_rfl
theorem lI(w:Aa)(f c b d e a g h y i:Nat):
  AF w 9 (tw16562333448351188041 f c) ([(f,AQ w.2 b d e a g [Ad w Ci y (.int h i)] 3),(c,Cl)]) [2] [] [] 490 2700 [0,1]
   (λj k l=>.done (.ret IK)) (λj k l=>[(f,AQ w.2 b d e a g [Ad w Ci y (.int h i)] 3),(c,Cl)]) 0:=by
 kernel_rfl
set_option maxHeartbeats 4000000
noncomputable abbrev Fc:Expr:=sk (Cb 1) 0 []
noncomputable abbrev MN(f a:Nat):Env:={scope:={Fq Fc with names:=[(Hw,.local),(By,.local),(Bt,.local)]},locals:=a,globals:=3,cells:=[],qual:=⟨⟨[110,108,97,114,103,101,115,116,46,60,108,111,99,97,108,115,62,46]⟩⟩,func:=none,code:=.ref 279,frame:=some f,builtins:=0}
theorem lJ:(Hp Fc).ifs=[]:=by kernel_rfl
theorem Wv:((Hp Fc).is_async != 0)=false:=by kernel_rfl
noncomputable def trzA(f a x:Nat):Sem AA:=assign (Hp Fc).target (MN f a) (.ref x)>>=λ_=>pure (.done .next)
noncomputable def trzE(f b a:Nat):Sem AA:=(eval (eE Fc 0) (MN f b)>>=λv=>call (.builtin "list.append") [.ref a,v])>>=λ_=>pure (.done .next)
lay_quick trzA trzE
set_option maxHeartbeats 400000
noncomputable abbrev G9(v:Value)(a b:Nat):Obj:=fi LS [v,.bool false,.bool false,.ref a,.ref b]
noncomputable abbrev FA(c:Int)(n:Nat):Obj:=fi Ex [.int c 0,.int n 0,.int (-1) 0]
noncomputable abbrev CY(a b:Nat):=tu [.ref a,.ref b] 0
noncomputable abbrev FB(a b:Nat):=G9 .none a b
theorem lK(w:Aa)(z d e g a b n i j:Nat)(y:Nat)(c:Int)(m o:Value)(k:List Value):
  AF w 50 (O6 z) ([(z,FB d e),(d,CY g a),(e,tu [m,o] 0),(g,FA c (n+1)),(a,liO b i),(b,li k j)]) (rl 96 8742791074641908) (AE [(2,[4,5])] ([λs t u=>Ez a b i k j (.ref y)])) [] 520 3000 (.range 7)
   (λh l r=>.done (.ret (.ref (h 0)))) (λh l r=>[(z,fi LS [.int (↑(h 0)) 0,DE,DE,.ref d,.ref e]),(d,tu [.ref g,.ref a] 0),(e,tu [.int c (l 0),.ref y] 0),(g,fi Ex [.int (c+Int.negSucc 0) 0,.int (↑(n+1)-1) 0,.int (-1) 0]),(a,fi Bo [.ref b,.int (↑(i+1)) 0]),(b,li k j),(h 0,tu [.int c (l 0),.ref y] 0)]) 1:=by
 kernel_rfl
theorem lL(w:Aa)(z a b d e g i h:Nat)(c:Int)(j k:Value)(l:List Value):
  AF w 34 (O6 z) ([(z,FB a b),(a,CY d e),(b,tu [j,k] 0),(d,FA c 0),(e,liO g i),(g,li l h)]) (rl 144 0x93f95a61fa1) [] [] 520 3000 (.range 6)
   (λm n o=>.done .next) (λm n o=>[(z,fi LS [.none,DE,DE,.ref a,.ref b]),(a,tu [.ref d,.ref e] 0),(b,tu [j,k] 0),(d,fi Ex [.int c 0,.int 0 0,.int (-1) 0]),(e,fi Bo [.ref g,.int (↑i) 0]),(g,li l h)]) 0:=by
 kernel_rfl
theorem lM(w:Aa)(f a X t:Nat)(y:Nat)(c:Int):
  AF w 66 (tw17285008384611438973 f a X) ([(a,di [] 0),(X,tu [.int c t,.ref y] 0)]) (dg 6 0x14b9e791d4747893c3fd8af) [] [] 520 3000 [0,1]
   (λd b e=>.done .next) (λd b e=>[(a,di [Ad w By (b 0) (.int c t),Ad w Bt (b 1) (.ref y)] 2),(X,tu [.int c t,.ref y] 0)]) 2:=by
 kernel_rfl
theorem lN(w:Aa)(f a X t b d:Nat)(c:Int)(y:Nat)(e g:Value):
  AF w 66 (tw17285008384611438973 f a X) ([(a,di [Ad w By b e,Ad w Bt d g] 2),(X,tu [.int c t,.ref y] 0)]) (dg 6 0x14b9e791d4747893c3fd8af) [] [] 520 3000 [0,1]
   (λh i j=>.done .next) (λh i j=>[(a,di [Ad w By b (.int c t),Ad w Bt d (.ref y)] 2),(X,tu [.int c t,.ref y] 0)]) 2:=by
 kernel_rfl
theorem lO(w:Aa)(f b a t g h m:Nat)(y:Nat)(c:Int)(d:List Value):
  AF w 13 (tw3273448191207426121 f b a) ([(b,di [Ad w By g (.int c t),Ad w Bt h (.ref y)] 2),(a,li d m)]) [1,1] (AE [(0,[1])] ([λi l n=>CQ a d m (.ref (tk i 0))])) [] 520 3000 [0,1,2]
   (λe j k=>.done .next) (λe j k=>[(b,di [Ad w By g (.int c t),Ad w Bt h (.ref y)] 2),(a,li (d++[Value.ref (tk [e 0] 0)]) m.succ),(e 0,tu [.ref y,.int c t] 0)]) 0:=by
 kernel_rfl
noncomputable abbrev Ww:Expr:=.ListComp (eE Fc 0) [Hp Fc] (Fq Fc) (gP Fc)
noncomputable abbrev lP(f b z a:Nat):Code:=.compLoop Ww 0 (.ref z) (.ref a) (MN f b)
inductive H4 (P:Aj) (X:List El):Nat→List HE→Obj→Prop
 |a (H:List HE):H4 P X 0 H (di [] 0)
 |b (i:Nat) (H:List HE) (y0 y1:Nat):H4 P X (i+1) H (di [Ap P By y0 (.int (-(i:Int)) (H.getD i hz).t),Ap P Bt y1 (.ref (X.getD i hz.e).T)] 2)
structure Pc(X:List El)(i:Nat)(H:List HE):Prop where
 len:H.length=i
 at': ∀j,j<i→(H.getD j hz).e=X.getD j hz.e∧(H.getD j hz).o= -(j:Int)
noncomputable def I2(X:List El)(j z a b c e g h k:Nat)(n i:Nat)(l m:Value)(d:Obj)(H:List HE):Ae:=
 [(z,FB a b),(a,CY c e),(b,tu [l,m] 0),(c,FA (-(i:Int)) n),(e,liO g i),AJ g X k,(j,d),(h,li (As H) i)]++HL H
theorem lQ{w:Aa}{A:Al}{E:Value→Ab→Prop}{s:Ab}{z X a b:Nat}{F:Ae}(S:An (kt w) s ((z,G9 (.int X 0) a b)::F)){Q:Unit→Ab→Prop}{g:List Expr}{k:Nat}{p:Pos}{j:Expr}(m:j= .Tuple g k p)
  (h: ∀l,Ag (kt w) s l ((z,G9 (.int X 0) a b)::F) ((z,FB a b)::F)→Q () l):wpAny (model pw w) A (letOwnedTupleGo j (.ref z) (.ref X)) Q E s:=by
 rw[m];have c:=S.mem _ Bj;have d:=S.set (i:=0) rfl (f:=Obj.mapFields (·.setIfInBounds 0 .none)) (p:=(z,G9 (.int X 0) a b)) rfl;have e:Obj.mapFields (·.setIfInBounds 0 .none) (G9 (.int X 0) a b)=G9 .none a b:=by simp[Obj.mapFields]
 dsimp only at c d;rw[e]at d;have n:(G9 (.int X 0) a b:Obj)={cls:=.type "zip",data:=.fields #[.int X 0,.bool false,.bool false,.ref a,.ref b]}:=by
  refine (?_:Obj.mk LS none _ _=_);rw[show LS= .type "zip" by refine (?_:Value.type s14339709457334898076x3=_);rw[←e14339709457334898076x3]]
 rw[n]at c;unfold letOwnedTupleGo;refine Af (Jr c ?_);refine (?_:wpAny _ _ (if(["enumerate","zip","dict_itemiterator","dict_reverseitemiterator","odict_iterator","itertools.zip_longest","itertools.pairwise"].contains "zip"&&
   (#[.int X 0,.bool false,.bool false,.ref a,.ref b]:Array Value)[0]? ==some (rawInt X))=true then _ else _) Q E s)
 rw[AS (by simp[rawInt])];refine Af (FH ?_);refine (?_:wpAny _ _ (setField (.ref z) 0 .none) Q E s);exact wpAny_setField c rfl (by (first|((repeat(first|exact .head _|apply List.mem_cons_of_mem));done)|simp)) (h _ d)
theorem lR:Ei λa k p=>(Hp Fc).target= .Tuple a k p:=⟨Br (Hp Fc).target,tK (Hp Fc).target,gP (Hp Fc).target,by kernel_rfl⟩
theorem lS{w:Aa}{A:Al}(m:A.handled=none)(n:A.depth≤520)(uB:A.units≤3000){X:List El}{f c P t i:Nat}{d:Obj}{H:List HE}{s3:Ab}(s:H4 w.2 X i H d)(o:An (kt w) s3 [(c,d),(P,tu [.int (-(i:Int)) t,.ref (X.getD i hz.e).T] 0)]){Q:Unit→Ab→Prop}{E:Value→Ab→Prop}
  (h: ∀r g k,Ag (kt w) s3 r [(c,d),(P,tu [.int (-(i:Int)) t,.ref (X.getD i hz.e).T] 0)] [(c,di [Ad w By g (.int (-(i:Int)) t),Ad w Bt k (.ref (X.getD i hz.e).T)] 2),(P,tu [.int (-(i:Int)) t,.ref (X.getD i hz.e).T] 0)]→Q () r):
  wpAny (model pw w) A (assign (Hp Fc).target (MN f c) (.ref P)) Q E s3:=by
 cases s with
 |a _=>exact Bq (lM w f c P t (X.getD 0 hz.e).T (-((0:Nat):Int))) (λ_:Unit=>Flow.next) (Ai (Ai (Ai te17285008384611438973 f) c) P) [] m n uB AR Ar o λu v y l _ e _ _=>h l _ _ e
 |b j _ g k=>exact Bq (lN w f c P t g k (-((j+1:Nat):Int)) (X.getD (j+1) hz.e).T _ _) (λ_:Unit=>Flow.next) (Ai (Ai (Ai te17285008384611438973 f) c) P) [] m n uB AR Ar o λu v y l _ e _ _=>h l _ _ e
inductive lT (w:Aa) (X:List El) (z TI TO ri it rs nr cl acc N:Nat) (H:List HE) (r:Result) (L':Ae) (ts:List Nat):Prop
 |mk (hr:r= .ok .next) (H2:List HE) (oz oT og oc:Obj) (ho:Pc X N (H++H2)) (hf:H4 w.2 X N (H++H2) oc) (ht:ts=H2.map HE.t) (hL:L'=[(z,oz),(TI,tu [.ref ri,.ref it] 0),(TO,oT),(ri,og),(it,liO rs N),(rs,li (Ax X) nr),(cl,oc),(acc,li (As (H++H2)) N)]++HL (H++H2))
theorem lU{w:Aa}{A:Al}(R:A.handled=none)(hd:A.depth≤500)(hu:A.units≤2800){X:List El}{f m z c e g h l a o N:Nat}(hN:N≤X.length)(U:X.length≤900): ∀(n i:Nat),i+n=N→ ∀(v y:Value) (d:Obj) (H:List HE),H4 w.2 X i H d→Pc X i H→
  RunsW w A (lP f m z a) (I2 X m z c e g h l a o n i v y d H)
   (lT w X z c e g h l o m a N H):=by
 intro n
 induction n with
 |zero=>
  intro i hi v y d H hF C s S;obtain rfl:i=N:=by (first|lia|omega)
  have I:A.depth≤520:=Ay hd (by decide);have uB:A.units≤3000:=Ay hu (by decide);have J:([(z,FB c e),(c,CY g h),(e,tu [v,y] 0),(g,FA (-(i:Int)) 0),(h,liO l i),AJ l X o]++([(m,d),(a,li (As H) i)]++HL H)).Perm (I2 X m z c e g h l a o 0 i v y d H):=by
   exact AO [_] [_,_,_,_,_,_,_,_] [0,6,1,3,5,7,9,11,0,2,13,15,2] [1,3,5,7,9,11,13,15,2]
  refine qQ Wv (Bq (lL w z c e g h l i o (-(i:Int)) v y (Ax X)) I0 (Ai te14694477216599127761 (.ref z)) [] R I uB AR Ar (S.part _ J) λK V ω s1 x L _ U=> ?_);obtain rfl:x=none:=O7 (b:=none) U;have B:Ag (kt w) s s1 (I2 X m z c e g h l a o 0 i v y d H) ([(z,FB c e),(c,CY g h),(e,tu [v,y] 0),(g,fi Ex [.int (-(i:Int)) 0,.int 0 0,.int (-1) 0]),(h,liO l i),AJ l X o]++([(m,d),(a,li (As H) i)]++HL H)):=Ag.part _ S J L;refine⟨rfl,_,[],⟨rfl,[],FB c e,tu [v,y] 0,fi Ex [.int (-(i:Int)) 0,.int 0 0,.int (-1) 0],d,by rw[BV];exact C,by rw[BV];exact hF,rfl,rfl⟩,B.permR ?_,B.toks⟩;simp only[BV];exact AO [_] [_,_,_,_,_,_,_,_] [0,6,1,3,5,7,9,11,0,2,13,15,2] [0,8,1,3,5,7,9,11,13,15,2]
 |succ n ih=>
  intro i hi v y d H hF C s S;have iX:i<X.length:=by (first|lia|omega)
  have I:A.depth≤520:=Ay hd (by decide);have uB:A.units≤3000:=Ay hu (by decide);have J:([(z,FB c e),(c,CY g h),(e,tu [v,y] 0),(g,FA (-(i:Int)) (n+1)),(h,liO l i),AJ l X o]++([(m,d),(a,li (As H) i)]++HL H)).Perm (I2 X m z c e g h l a o (n+1) i v y d H):=by
   exact AO [_] [_,_,_,_,_,_,_,_] [0,6,1,3,5,7,9,11,0,2,13,15,2] [1,3,5,7,9,11,13,15,2]
  have ey:(Ax X)[i]? =some (.ref (X.getD i hz.e).T):=by simp[List.getD,iX]
  refine qR Wv lJ (Bq (lK w z c e g h l n i o (X.getD i hz.e).T (-(i:Int)) v y (Ax X)) I0 (Ai te14694477216599127761 (.ref z)) [0] R I uB (AD _ _ (Ah (λ_ _ _=>HJ ey) AC)) Ar (S.part _ J) λK V ω s1 x L G U=> ?_);obtain rfl:x=some (.ref (K 0)):=O7 (b:=some _) U;refine⟨_,rfl,?_⟩;have B:=Ag.part _ S J L;have er:(fi Ex [.int (-(i:Int)+Int.negSucc 0) 0,.int (((n+1:Nat):Int)-1) 0,.int (-1) 0]:Obj)=FA (-((i+1:Nat):Int)) n:=by
   have e1:(-(i:Int)+Int.negSucc 0)= -((i+1:Nat):Int):=by (first|lia|omega)
   have e2:((n+1:Nat):Int)-1=n:=by (first|lia|omega)
   rw[e1,e2]
  rw[er]at B;have G:AY s.toks s1.toks [V 0]:=G;generalize K 0=P at B;generalize V 0=t at B G;obtain⟨ak,k,p,et⟩:=lR;have S2:=B.sat;have p3:([(z,G9 (.int P 0) c e),(c,CY g h),(e,tu [.int (-(i:Int)) t,.ref (X.getD i hz.e).T] 0),(g,FA (-((i+1:Nat):Int)) n),(h,liO l (i+1)),AJ l X o,(P,tu [.int (-(i:Int)) t,.ref (X.getD i hz.e).T] 0)]++([(m,d),(a,li (As H) i)]++HL H)).Perm ((z,G9 (.int P 0) c e)::([(c,CY g h),(e,tu [.int (-(i:Int)) t,.ref (X.getD i hz.e).T] 0),(g,FA (-((i+1:Nat):Int)) n),(h,liO l (i+1)),AJ l X o,(P,tu [.int (-(i:Int)) t,.ref (X.getD i hz.e).T] 0)]++([(m,d),(a,li (As H) i)]++HL H))):=AW _;refine lQ (S2.perm p3) et λs3 M=> ?_;have O:=(B.permR p3).trans M;have pA:([(m,d),(P,tu [.int (-(i:Int)) t,.ref (X.getD i hz.e).T] 0)]++([(z,FB c e),(c,CY g h),(e,tu [.int (-(i:Int)) t,.ref (X.getD i hz.e).T] 0),(g,FA (-((i+1:Nat):Int)) n),(h,liO l (i+1)),AJ l X o,(a,li (As H) i)]++HL H)).Perm ((z,FB c e)::([(c,CY g h),(e,tu [.int (-(i:Int)) t,.ref (X.getD i hz.e).T] 0),(g,FA (-((i+1:Nat):Int)) n),(h,liO l (i+1)),AJ l X o,(P,tu [.int (-(i:Int)) t,.ref (X.getD i hz.e).T] 0)]++([(m,d),(a,li (As H) i)]++HL H))):=by
   exact AO [_] [_,_,_,_,_,_,_,_,_] [0,2,1,3,0,7,5,7,9,11,13,15,17,2] [5,0,6,7,9,11,13,15,3,0,2,1,17,2]
  refine lS R I uB hF (O.sat.part _ pA) λs4 D E W=> ?_;have Q:=O.trans (Ag.part _ O.sat pA W);have pE:([(m,di [Ad w By D (.int (-(i:Int)) t),Ad w Bt E (.ref (X.getD i hz.e).T)] 2),(a,li (As H) i)]++([(P,tu [.int (-(i:Int)) t,.ref (X.getD i hz.e).T] 0),(z,FB c e),(c,CY g h),(e,tu [.int (-(i:Int)) t,.ref (X.getD i hz.e).T] 0),(g,FA (-((i+1:Nat):Int)) n),(h,liO l (i+1)),AJ l X o]++HL H)).Perm ([(m,di [Ad w By D (.int (-(i:Int)) t),Ad w Bt E (.ref (X.getD i hz.e).T)] 2),(P,tu [.int (-(i:Int)) t,.ref (X.getD i hz.e).T] 0)]++([(z,FB c e),(c,CY g h),(e,tu [.int (-(i:Int)) t,.ref (X.getD i hz.e).T] 0),(g,FA (-((i+1:Nat):Int)) n),(h,liO l (i+1)),AJ l X o,(a,li (As H) i)]++HL H)):=by
   exact AO [_] [_,_,_,_,_,_,_,_,_] [0,2,1,3,0,7,5,7,9,11,13,15,17,2] [0,2,1,5,0,7,7,9,11,13,15,17,3,2]
  have hl:(As H).length≤1000:=by have:=C.len;simp[As];(first|lia|omega)
  refine Bq (lO w f m a t D E i (X.getD i hz.e).T (-(i:Int)) (As H)) (λ_:Value=>Flow.next) (Ai (Ai (Ai te3273448191207426121 f) m) a) [] R I uB (AD _ _ (Ah (λ_ _ _=>EN hl) AC)) Ar (Q.sat.part _ pE) λK V ω s5 _ F _ _=> ?_;generalize K 0=T at F;have F:Ag (kt w) s4 s5 [(m,di [Ad w By D (.int (-(i:Int)) t),Ad w Bt E (.ref (X.getD i hz.e).T)] 2),(a,li (As H) i)] [(m,di [Ad w By D (.int (-(i:Int)) t),Ad w Bt E (.ref (X.getD i hz.e).T)] 2),(a,li (As H++[.ref T]) (i+1)),(T,tu [.ref (X.getD i hz.e).T,.int (-(i:Int)) t] 0)]:=F;have Y:=Q.trans (Ag.part _ Q.sat pE F);let u:HE:=⟨T,X.getD i hz.e,-(i:Int),t⟩
  have ac:Pc X (i+1) (H++[u]):=by
   refine⟨by simp[C.len],λj hj=> ?_⟩
   by_cases q:j<i
   ·have:(H++[u]).getD j hz=H.getD j hz:=by
     simp only[List.getD];rw[J6 (by rw[C.len];exact q)]
    rw[this];exact C.at' j q
   ·obtain rfl:i=j:=Jn (FG q) (Eg hj)
    have:(H++[u]).getD i hz=u:=by
     simp only[List.getD];rw[Nx (by rw[C.len];exact A7 _),C.len];(first|((repeat(first|exact .head _|apply List.mem_cons_of_mem));done)|simp)
    rw[this];exact⟨rfl,rfl⟩
  have gt:((H++[u]).getD i hz).t=t:=by
   simp only[List.getD];rw[Nx (by rw[C.len];exact A7 _),C.len];simp[u]
  have ad:H4 w.2 X (i+1) (H++[u]) (di [Ad w By D (.int (-(i:Int)) t),Ad w Bt E (.ref (X.getD i hz.e).T)] 2):=by
   have:=H4.b (P:=w.2) (X:=X) i (H++[u]) D E;rwa[gt]at this
  have e7:As H++[.ref T]=As (H++[u]):=by simp[As,u]
  have e8:HL H++[(T,tu [.ref (X.getD i hz.e).T,.int (-(i:Int)) t] 0)]=HL (H++[u]):=by simp[HL,Bm,u]
  rw[e7]at Y;have ae:Ag (kt w) s s5 (I2 X m z c e g h l a o (n+1) i v y d H) (I2 X m z c e g h l a o n (i+1) (.int (-(i:Int)) t) (.ref (X.getD i hz.e).T) (di [Ad w By D (.int (-(i:Int)) t),Ad w Bt E (.ref (X.getD i hz.e).T)] 2) (H++[u])++[(P,tu [.int (-(i:Int)) t,.ref (X.getD i hz.e).T] 0)]):=by
   refine Y.permR ?_;unfold I2;rw[←e8];exact AO [_] [_,_,_,_,_,_,_,_,_,_] [0,3,1,3,5,0,7,7,9,11,13,15,17,19,2] [0,14,0,8,9,11,13,15,17,19,1,3,0,1,2,5,7]
  have Z:=ae.subs (EW _ _);refine B4 (ih (i+1) (by (first|lia|omega)) _ _ _ (H++[u]) ad ac s5 Z.sat) λr s6 hz=> ?_;obtain⟨L',ts,⟨h1,H2,oz,oT,og,oc,h2,ai,h3,h4⟩,aa,aj⟩:=hz;refine⟨L',[t]++ts,⟨h1,u::H2,oz,oT,og,oc,?_,?_,?_,?_⟩,Z.trans aa,?_⟩
  ·simpa using h2
  ·simpa using ai
  ·rw[h3];rfl
  ·simpa using h4
  ·exact(G.app (ys:=[]) (Ay M.toks (Ay W.toks F.toks))).app aj
noncomputable def Gu(P:Aj)(f k z l m e g i b s n:Nat)(X:List El):Ak:=
 {d:=500,u:=2800,h:=none,c:=.compStart Ww 0 (.ref z) (.ref b) (MN f k),idx:=[],pre:=[(z,FB l m),(l,CY e g),(m,tu [.none,.none] 0),(e,FA (-((0:Nat):Int)) n),(g,liO i 0),AJ i X s,(k,di [] 0),(b,li [] 0)],na:=n,nt:=n,no:=5,r:=λ_ _=>.ok .next,
  outs:=λa t o=>[o.getD 0 default,CY e g,o.getD 1 default,o.getD 2 default,liO i n,li (Ax X) s,di [Ap P By (Ao o 3) (.int (-((n-1:Nat):Int)) (t.getD (n-1) 0)),Ap P Bt (Ao o 4) (.ref (X.getD (n-1) hz.e).T)] 2,li ((List.range n).map λj=>.ref (a.getD j 0)) n],
  news:=λa t _=>(List.range n).map λj=>Bm ⟨a.getD j 0,X.getD j hz.e,-(j:Int),t.getD j 0⟩}
theorem lV{X:List El}{n:Nat}{H:List HE}(h:Pc X n H):H=(List.range n).map λj=>⟨(H.map HE.A).getD j 0,X.getD j hz.e,-(j:Int),(H.map HE.t).getD j 0⟩:=by
 apply Hn
 ·simp[h.len]
 ·intro j a c
  have b:j<n:=h.len▸a;have q:=h.at' j b;rw[show H.getD j hz=H[j] by simp[List.getD,a]]at q;have e:H[j]=⟨H[j].A,H[j].e,H[j].o,H[j].t⟩:=rfl;rw[e,q.1,q.2];simp[a]
theorem H4.inv{P:Aj}{X:List El}{n:Nat}{H:List HE}{e:Obj}(g:H4 P X n H e)(h:0<n):B5 λc d=>e=di [Ap P By c (.int (-((n-1:Nat):Int)) (H.getD (n-1) hz).t),Ap P Bt d (.ref (X.getD (n-1) hz.e).T)] 2:=by
 cases g with
 |a=>exact absurd h (It 0)
 |b i _ c d=>exact⟨c,d,rfl⟩
theorem lW{w:Aa}{f k z g h d l m e u n:Nat}{X:List El}(v:0<n)(E:n≤X.length)(F:X.length≤900):Av w (Gu w.2 f k z g h d l m e u n X):=by
 refine Ba.ext λA G H I=>IC 3 (o:=G9 .none g h) (λs S=> ?_) (by simp[Gu]) (by kernel_rfl) (by kernel_rfl);have S:An (kt w) s (I2 X k z g h d l m e u n 0 .none .none (di [] 0) []):=S;refine B4 (lU I G H E F n 0 (by (first|lia|omega)) .none .none (di [] 0) [] (.a _) ⟨rfl,λj J=>absurd J (Ka j)⟩ s S) λr Z hz=> ?_;obtain⟨K,L,⟨M,b,N,O,P,oc,c,y,B,C⟩,Q,d⟩:=hz;rw[List.nil_append]at c C y;have i:=lV c;obtain⟨R,T,D⟩:=y.inv v;have U:n-1<b.length:=c.len.symm▸Nat.sub_lt v Nat.one_pos;rw[show(b.getD (n-1) hz).t=(b.map HE.t).getD (n-1) 0 by simp[List.getD,U]]at D;subst D;refine⟨K,L,⟨b.map HE.A,[N,O,P,Ac R,Ac T],by simp[Gu,c.len],by rw[B];simp[Gu,c.len],rfl,M,?_⟩,Q,d⟩;rw[C,B];have V:As b=(List.range n).map λj=>.ref ((b.map HE.A).getD j 0):=by
  conv=>lhs;rw[i]
  unfold As;rw[BZ];rfl
 have W:HL b=BH (b.map HE.A) ((List.range n).map λj=>Bm ⟨(b.map HE.A).getD j 0,X.getD j hz.e,-(j:Int),(b.map HE.t).getD j 0⟩):=by
  have Y:b.map HE.A=(List.range n).map λj=>(b.map HE.A).getD j 0:=by
   conv=>lhs;rw[i]
   rw[BZ];rfl
  conv=>rhs;arg 1;rw[Y]
  rw[Rl];conv=>lhs;rw[i]
  unfold HL;rw[BZ];rfl
 rw[V,W];rfl
noncomputable def DH(n p q:Nat)(X:List El)(a b:Nat→Nat):List HE:=(List.range n).map λj=>⟨a (p+j),X.getD j hz.e,-(j:Int),b (q+j)⟩
noncomputable def Fd(a:Nat)(b:List Value)(n:Nat)(i:Nat)(t:Nat)(v:Value):Ak:=IG (.call (.builtin JC) ⟨[.ref a,.int i t],[]⟩) [(a,li b n)] v
theorem lZ{e:Option Value}{w:Aa}{c:Code}{a:Ae}{v:Value}
  (h: ∀(A:Al) (s:Ab),A.depth≤900→A.units≤9000→An (kt w) s a→ ∀R:Result→Ab→Prop,(∀b,Ag (kt w) s b a a→R (.ok (.ret v)) b)→codeAny (model pw w) A c R s):Av w {IG c a v with h:=e}:=by
 intro A g i j s S _;refine h A s g i S _ λb d=>⟨[],[],[],rfl,rfl,rfl,rfl,?_,d.toks⟩
 refine (?_:Ag (kt w) s b a (Bk a (a.map (·.2))++BH [] []));rw[Ue];exact d
theorem Wx{hv:Option Value}{w:Aa}{a n i t:Nat}{b:List Value}{v:Value}(k:b[i]? =some v)(u:i<1000):Av w {Fd a b n i t v with h:=hv}:=by
 refine lZ λA s y B S R l=> ?_;have g:=S.mem (a,li b n) (by (first|((repeat(first|exact .head _|apply List.mem_cons_of_mem));done)|simp));rw[BW]at g;refine (?_:codeAny _ _ (.call (.builtin JC) _) _ s);rw[P8];have d:(0:Int)≤(i:Int):=Int.natCast_nonneg i;have m:(i:Int)<1000:=by (first|lia|omega)
 have e:(i:Int)<2^63:=Int.lt_trans m (by decide);have c:(⟨b⟩:Array Value)[(i:Int).toNat]? =some v:=by simpa using k
 clear m k u;revert d e c;generalize (i:Int)=z;intro d e c;refine DT slot_list_getitem.plain entry_list_getitem (slot_list_getitem.check _ _ _ _ _ _ _ _ ⟨_,g,rfl⟩ (args_list_getitem _ _) ?_);unfold Builtin.«list.__getitem__»;dsimp only;refine Af (GH (show selfAndOne "list.__getitem__" ⟨[.ref a,.int z t],[]⟩=pure (.ref a,.int z t)from rfl) ?_);dsimp only;refine Af (wpAny_listSubscript_int (fitsIndex_of d e) ?_);clear e;obtain⟨j,rfl⟩:=Int.eq_ofNat_of_zero_le d;have o:(⟨b⟩:Array Value)[j]? =some v:=c;dsimp only;refine Af ?_;refine (?_:wpAny _ _ (seqItemAt a j>>=λr=>pure (r.map (j,·))) _ _ s);refine Af (wpAny_seqItemAt g rfl (Aq ?_));rw[o]
 first
  |exact Af (Aq (Aq (l _ (.refl S))))
  |exact Aq (l _ (.refl S))
theorem FC{w:Aa}{a n i t:Nat}{b:List Value}{v:Value}(c:b[i]? =some v)(d:i<1000):Av w (Fd a b n i t v):=Wx (hv:=none) c d
noncomputable abbrev Gv:Stmt:=AB (AN BJ) 0
noncomputable def trnFA(f c x:Nat):Sem AA:=assign (sT BJ) (Ck f c) (.ref x)>>=λ_=>pure (.done .next)
noncomputable def trnFL(f c:Nat):Sem AA:=eval (A9 (Br (sT Gv)) 0) (Ck f c)>>=λv=>pure (.done (.ret v))
noncomputable def trnFR(f c:Nat):Sem AA:=eval (A9 (Br (sT Gv)) 1) (Ck f c)>>=λv=>pure (.done (.ret v))
noncomputable def trnFH(f c:Nat):Sem AA:=execs (AN Gv) (Ck f c)>>=λv=>pure (.done v)
lay_quick trnFA trnFL trnFR trnFH
noncomputable abbrev KU(P:Aj)(y b c d e a h:Nat):List DictEntry:=[Ap P Ci y (.int h b),Ap P DY c (.ref e),Ap P DZ d (.ref a)]
noncomputable abbrev DI(P:Aj)(y b c d e a h g i j tp t:Nat)(o:Int):List DictEntry:=KU P y b c d e a h++[Ap P yS g (.ref tp),Ap P IE i (.int o t),Ap P xQ j (.builtin Oo)]
noncomputable abbrev Ce(a:HE)(b:List HE)(c:Nat):=li (As (a::b)) c
theorem mA(w:Aa)(f c l n g e o a k y r s t u h m:Nat)(x b:HE)(T i:List HE):
  AF w 74 (tw11464110794198561965 f c) ([(f,AQ w.2 l n g e o (KU w.2 y r s t u a h) 5),(a,Ce x T k),(b.A,Bm b)]) (dg 4 0x5a16affc54505) (AE [(0,[1]),(0,[1,2]),(0,[1])] ([λv j z=>OK a (As (x::T)) k (m+1),λv j z=>Wp a k (x::T) (b::i) [(b.A,Bm b)],λv j z=>Fd a (As (b::i)) k 0 (tk j 1) (.ref b.A)])) [] 490 2700 [0,1,2]
   (λA d B=>.done .next) (λA d B=>[(f,AQ w.2 l n g e o (DI w.2 y r s t u a h (d 3) (d 5) (d 6) b.e.T (d 4) (-(g:Int))) 8),(a,Ce b i k),(b.A,Bm b)]) 7:=by
 kernel_rfl
theorem mB(w:Aa)(f c g j k e d a y l m n r s u tp t b h:Nat)(o:Int)(i:Nat):
  AF w 17 (tw7750963653130012630 f c) ([(f,AQ w.2 g j k e d (DI w.2 y l m n b a h r s u tp t o) 8),(b,liO d i)]) [1,2,2,1,2,2] [] [] 490 2700 [0,1]
   (λv z A=>.done (.ret (.ref b))) (λv z A=>[(f,AQ w.2 g j k e d (DI w.2 y l m n b a h r s u tp t o) 8),(b,liO d i)]) 0:=by
 kernel_rfl
theorem mC(w:Aa)(f c d e g b i a y j k l m n r tp t s h:Nat)(o:Int)(v:Nat):
  AF w 13 (tw1332294967873798157 f c v) ([(f,AQ w.2 d e g b i (DI w.2 y j k l s a h m n r tp t o) 8)]) [0,1,1] [] [] 520 3000 [0]
   (λz u A=>.done .next) (λz u A=>[(f,AQ w.2 d e g b i (DI w.2 y j k l s a h m n r tp t o++[Ad w Bt (u 0) (.ref v)]) 9)]) 1:=by
 kernel_rfl
theorem Wy(w:Aa)(f c d e g b i a y j k l n r s tp t u h:Nat)(o:Int)(v z m:Nat)(A:Value)(x:List DictEntry):
  AF w 13 (tw1332294967873798157 f c v) ([(f,AQ w.2 d e g b i (DI w.2 y j k l u a h n r s tp t o++Ad w Bt z A::x) m)]) [0,1,1] [] [] 520 3000 [0]
   (λB C D=>.done .next) (λB C D=>[(f,AQ w.2 d e g b i (DI w.2 y j k l u a h n r s tp t o++Ad w Bt z (.ref v)::x) m)]) 1:=by
 kernel_rfl
theorem mD(w:Aa)(f c d e g b i a y j k l n r s tp t u h:Nat)(o:Int)(m:Nat)(x:List DictEntry):
  AF w 8 (tw12783120001347113662 f c) ([(f,AQ w.2 d e g b i (DI w.2 y j k l u a h n r s tp t o++x) m)]) [1] [] [] 520 3000 [0]
   (λv z A=>.done (.ret (.ref tp))) (λv z A=>[(f,AQ w.2 d e g b i (DI w.2 y j k l u a h n r s tp t o++x) m)]) 0:=by
 kernel_rfl
theorem mE(w:Aa)(f c d e g b i a y j k l n r s tp t u h:Nat)(o:Int)(m z v:Nat)(x:List DictEntry):
  AF w 8 (tw1621527730693163039 f c) ([(f,AQ w.2 d e g b i (DI w.2 y j k l u a h n r s tp t o++Ad w Bt z (.ref v)::x) m)]) [1] [] [] 520 3000 [0]
   (λA B C=>.done (.ret (.ref v))) (λA B C=>[(f,AQ w.2 d e g b i (DI w.2 y j k l u a h n r s tp t o++Ad w Bt z (.ref v)::x) m)]) 0:=by
 kernel_rfl
noncomputable abbrev Wz(a b:Nat)(c:List HE)(d:El)(e:Int)(f:Nat)(g:Nat→List HE)(h:HE):=(AE [(0,[1,2]),(1,[1])] ([λi j k=>Rx a b c (⟨tk i 0,d,e,f⟩::g (tk i 0)) h ⟨tk i 0,d,e,f⟩ [(tk i 0,Bm ⟨tk i 0,d,e,f⟩)],λi j k=>Fd a (As (⟨tk i 0,d,e,f⟩::g (tk i 0))) b 0 (tk j 0) (.ref (⟨tk i 0,d,e,f⟩:HE).A)]))
theorem mF(w:Aa)(f c g i j d l a y m n r s u z tp t A h:Nat)(o:Int)(k B E:Nat)(F:Value)(v:El)(x:HE)(T:List HE)(C:Nat→List HE):
  AF w 107 (tw10658043212670528822 f c) ([(f,AQ w.2 g i j d l (DI w.2 y m n r A a h s u z tp t o++[Ad w Bt B (.ref v.T)]) 9),(a,Ce x T k)]) (dg 7 0x2917278fc441f2d4e4d10856cac0db9a3) (Wz a k T v o t C x) [] 520 3000 [0,1,2]
   (λb e D=>.done .next) (λb e D=>[(f,AQ w.2 g i j d l (DI w.2 y m n r A a h s u z v.T (e 4) (o-1)++[Ad w Bt B (.ref v.T),Ad w EM (e 2) (.int o t)]) 10),(a,li (As (⟨b 0,v,o,t⟩::C (b 0))) k),(b 0,Bm ⟨b 0,v,o,t⟩)]) 6:=by
 kernel_rfl
noncomputable abbrev WA(a b:Nat)(c:List HE)(d:HE)(e:Nat→List HE)(f:HE)(g:El)(h:Int)(i:Nat):=(AE [(0,[1,3,2]),(1,[1])] ([λj k l=>Rx a b c (d::e (tk j 0)) f ⟨tk j 0,g,h,i⟩ [(tk j 0,Bm ⟨tk j 0,g,h,i⟩),(d.A,Bm d)],λj k l=>Fd a (As (d::e (tk j 0))) b 0 (tk k 0) (.ref (d:HE).A)]))
theorem mG(w:Aa)(f c i j l e m a y n r s u z A tp t B h:Nat)(o:Int)(k C F:Nat)(G:Value)(v:El)(x:HE)(b:HE)(T:List HE)(D:Nat→List HE):
  AF w 107 (tw10658043212670528822 f c) ([(f,AQ w.2 i j l e m (DI w.2 y n r s B a h u z A tp t o++[Ad w Bt C (.ref v.T)]) 9),(a,Ce x T k),(b.A,Bm b)]) (dg 8 0x4924a49b65db6d76db6bb6db5dbc1209209) (WA a k T b D x v o t) [] 520 3000 [0,1,2,3]
   (λd g E=>.done .next) (λd g E=>[(f,AQ w.2 i j l e m (DI w.2 y n r s B a h u z A b.e.T (g 4) (o-1)++[Ad w Bt C (.ref v.T),Ad w EM (g 2) (.int b.o b.t)]) 10),(a,li (As (b::D (d 0))) k),(b.A,Bm b),(d 0,Bm ⟨d 0,v,o,t⟩)]) 6:=by
 kernel_rfl
theorem mH(w:Aa)(f c e g i d j a y l m n r s u tp t z h:Nat)(o:Int)(k A B:Nat)(E:Value)(v:El)(x:HE)(T:List HE)(C:Nat→List HE):
  AF w 107 (tw10658043212670528822 f c) ([(f,AQ w.2 e g i d j (DI w.2 y l m n z a h r s u tp t o++[Ad w Bt A (.ref v.T),Ad w EM B E]) 10),(a,Ce x T k)]) (dg 7 0x2917278fc441f2d4e4d10856cac0db9a3) (Wz a k T v o t C x) [] 520 3000 [0,1,2]
   (λb D F=>.done .next) (λb D F=>[(f,AQ w.2 e g i d j (DI w.2 y l m n z a h r s u v.T (D 4) (o-1)++[Ad w Bt A (.ref v.T),Ad w EM B (.int o t)]) 10),(a,li (As (⟨b 0,v,o,t⟩::C (b 0))) k),(b 0,Bm ⟨b 0,v,o,t⟩)]) 6:=by
 kernel_rfl
theorem mI(w:Aa)(f c g i j e l a y m n r s u z tp t A h:Nat)(o:Int)(k B C:Nat)(F:Value)(v:El)(x:HE)(b:HE)(T:List HE)(D:Nat→List HE):
  AF w 107 (tw10658043212670528822 f c) ([(f,AQ w.2 g i j e l (DI w.2 y m n r A a h s u z tp t o++[Ad w Bt B (.ref v.T),Ad w EM C F]) 10),(a,Ce x T k),(b.A,Bm b)]) (dg 8 0x4924a49b65db6d76db6bb6db5dbc1209209) (WA a k T b D x v o t) [] 520 3000 [0,1,2,3]
   (λd E G=>.done .next) (λd E G=>[(f,AQ w.2 g i j e l (DI w.2 y m n r A a h s u z b.e.T (E 4) (o-1)++[Ad w Bt B (.ref v.T),Ad w EM C (.int b.o b.t)]) 10),(a,li (As (b::D (d 0))) k),(b.A,Bm b),(d 0,Bm ⟨d 0,v,o,t⟩)]) 6:=by
 kernel_rfl
theorem mJ(w:Aa)(f c:Nat):
  AI w 6 (.block [] (Ck f c)) ([]) [] [] [] 0 520 3000 []
   (λa b d=>.done .next) (λa b d=>[]) 0:=by
 kernel_rfl
theorem RF{a:HE→HE}(b:a hz=hz)(H:List HE)(i j:Nat):CJ (H.map a) i j=(CJ H i j).map a:=by
 have e: ∀i,(H.map a).getD i hz=a (H.getD i hz):=λi=>by
  simp only[List.getD,Jj];cases H[i]? with
  |none=>exact b.symm
  |some x=>rfl
 unfold CJ;rw[e,e,List.map_set,List.map_set]
theorem Sft.map{g:HE→Nat}{b:HE→HE}(n: ∀h,g (b h)=g h)(c:b hz=hz){H j:List HE}{k:Bool}{d top m:Nat}(z:Sft g H k d top m j):Sft g (H.map b) k d top m (j.map b):=by
 have e: ∀(H:List HE) i,g ((H.map b).getD i hz)=g (H.getD i hz):=λH i=>by
  have:(H.map b).getD i hz=b (H.getD i hz):=by
   simp only[List.getD,Jj];cases H[i]? with
   |none=>exact c.symm
   |some x=>rfl
  rw[this,n]
 induction z with
 |two h x a=>refine .two (by simpa using h) ?_;rw[RF c];simpa only[e]using a
 |one h x a=>refine .one (by simpa using h) ?_;rw[RF c];exact a
 |leaf h x a=>exact .leaf (by simpa using h) a
 |up h l x a=>refine .up h (by simpa only[e]using l) ?_;rw[RF c];exact a
 |stop h=>exact .stop (by simpa only[e]using h)
 |next h x a=>exact .next (by simpa only[e]using h) a
theorem Ed.ne{Y:List El}{c:El→Nat}(K:Ed Y c){x y:El}(d:x∈Y)(e:y∈Y)(h:x≠y):c x≠c y:=
 O9 (R:=λa b=>c a≠c b) (λh=>Ne.symm h) (K.down.imp λh=>Ne.symm (CN h)) d e h
noncomputable abbrev gH(a:El→Nat):HE→Nat:=λh=>a h.e
structure Dm(φ:El→Nat)(X:List El)(i:Nat)(H:List HE):Prop where
 sub: ∀h∈H,h.e∈X.take i
 out: ∀u∈X.take i,(∀h∈H,h.e≠u)→ ∀h∈H,φ u<φ h.e
 nd:(H.map HE.e).Nodup
theorem Dm.perm{b:El→Nat}{X:List El}{i:Nat}{H c:List HE}(h:Dm b X i H)(p:c.Perm H):Dm b X i c:=
 ⟨λx a=>h.sub x (p.mem_iff.mp a),λu d e x a=>h.out u d (λy g=>e y (p.mem_iff.mpr g)) x (p.mem_iff.mp a),(p.map _).nodup_iff.mpr h.nd⟩
theorem Dm.ne{c:El→Nat}{X:List El}{i:Nat}{H:List HE}(h:Dm c X i H){x y:HE}(d:x∈H)(g:y∈H)(e:x≠y):x.e≠y.e:=by
 have:=h.nd;rw[GC,GE]at this;exact O9 (R:=λa b:HE=>a.e≠b.e) (λh=>Ne.symm h) this d g e
theorem Dm.hfact{d:El→Nat}{X Y:List El}{i:Nat}{H:List HE}{F:Ae}(h:Dm d X i H)(j:X.Perm Y)(K:Ed Y d)(k: ∀x∈Y,∀y∈Y,x≠y→x.T≠y.T)(l: ∀x∈H,(x.A,Bm x)∈F)(m: ∀e∈Y,(e.T,BN e)∈F):ES F H (gH d):=by
 have a: ∀x∈H,x.e∈Y:=λx b=>j.mem_iff.mp (Hl (h.sub x b));refine⟨l,λx b=>m _ (a x b),λx b y c e=> ?_,?_⟩
 ·have g:=h.ne b c e
  exact⟨K.apart (a x b) (a y c) g,k _ (a x b) _ (a y c) g,K.gt _ (a x b) _ (a y c) (K.ne (a x b) (a y c) g)⟩
 ·have:=h.nd
  rw[GC,GE]at this;rw[GC];exact this.imp λh e=>h (by rw[e])
theorem MO{X:List El}{i:Nat}(a:i<X.length){u:El}:u∈X.take (i+1)↔u∈X.take i∨u=X[i]:=by
 rw[Ji,Et a,List.mem_append];exact or_congr Iff.rfl Ip
theorem Dm.miss{b:El→Nat}{X:List El}{i:Nat}{a:HE}{T:List HE}(h:Dm b X i (a::T))(g:i<X.length)(l:DN (BA (gH b) (a::T)) (a::T).length 0)(m:b X[i]<b a.e):Dm b X (i+1) (a::T):=by
 refine⟨λx c=>(MO g).mpr (.inl (h.sub x c)),λu d n x c=> ?_,h.nd⟩;rcases(MO g).mp d with d|rfl
 ·exact h.out u d n x c
 ·obtain⟨j,k,e⟩:=F7 c
  have:=Wf l j k;have o:BA (gH b) (a::T) j=b x.e:=by refine (?_:b ((a::T).getD j hz).e=_);rw[show(a::T).getD j hz=(a::T)[j] by simp only[List.getD,Et k];rfl,e]
  rw[o]at this;exact DV m this
theorem Dm.hit{c:El→Nat}{X Y:List El}{i:Nat}{b y:HE}{T:List HE}(h:Dm c X i (b::T))(r:X.Perm Y)(K:Ed Y c)(k:i<X.length)(s:X.Nodup)(B:DN (BA (gH c) (b::T)) (b::T).length 0)(d:y.e=X[i])(t:c b.e<c X[i]):Dm c X (i+1) (y::T):=by
 have fresh:X[i] ∉ X.take i:=λm=>by
  obtain⟨j,l,e⟩:=F7 m;have E:j<i:=by simp at l;(first|lia|omega)
  rw[Lp]at e;have:=(Ls (h₀:=by (first|lia|omega)) (h₁:=k) s).mp e;(first|lia|omega)
 have v: ∀x∈T,c b.e<c x.e:=λx a=>by
  obtain⟨j,l,e⟩:=F7 (BB b a);have:=Wf B j l;have C:BA (gH c) (b::T) j=c x.e:=by refine (?_:c ((b::T).getD j hz).e=_);rw[show(b::T).getD j hz=(b::T)[j] by simp only[List.getD,Et l];rfl,e]
  rw[C]at this;have g:=h.nd;rw[Eh,Lu]at g;have D:b.e≠x.e:=λe=>g.1 (e▸B6 a);have:=K.ne (r.mem_iff.mp (Hl (h.sub b Bj))) (r.mem_iff.mp (Hl (h.sub x (BB _ a)))) D;have F:c b.e≤c x.e:=by assumption
  (first|lia|omega)
 refine⟨λx a=> ?_,λu n w x a=> ?_,?_⟩
 ·rcases List.mem_cons.mp a with rfl|a
  ·exact(MO k).mpr (.inr d)
  ·exact(MO k).mpr (.inl (h.sub x (BB _ a)))
 ·have A:u∈X.take i:=by
   rcases(MO k).mp n with n|e
   ·exact n
   ·exact absurd (d.trans e.symm) (w y Bj)
  by_cases q:u=b.e
  ·subst q
   rcases List.mem_cons.mp a with rfl|a
   ·rw[d];exact t
   ·exact v x a
  ·have o:=h.out u A λz hz=>by
    rcases List.mem_cons.mp hz with rfl|hz
    ·exact λe=>q e.symm
    ·exact w z (BB _ hz)
   rcases List.mem_cons.mp a with rfl|a
   ·rw[d];exact Dz (o b Bj) t
   ·exact o x (BB _ a)
 ·have g:=h.nd
  rw[Eh,Lu]at g⊢;refine⟨λm=> ?_,g.2⟩;obtain⟨x,a,e⟩:=List.mem_map.mp m;exact fresh (d▸e▸h.sub x (BB _ a))
theorem Dm.best{d:El→Nat}{X Y:List El}{S:List HE}(h:Dm d X X.length S)(l:X.Perm Y)(K:Ed Y d)(o:S.Pairwise λa b=>gH d b<gH d a):S.map HE.e=Y.take S.length:=by
 classical
 have m:Y.Nodup:=K.down.imp λh e=>by rw[e]at h;exact It _ h
 let R:=Y.filter λu=>decide (u ∉ S.map HE.e);have n: ∀u∈S.map HE.e,u∈Y:=λu c=>by
  obtain⟨x,i,rfl⟩:=List.mem_map.mp c;exact l.mem_iff.mp (Hl (h.sub x i))
 have r:(S.map HE.e++R).Perm Y:=by
  refine(Nw ?_ m).mpr λu=> ?_
  ·rw[Fn]
   refine⟨h.nd,m.filter _,λa j b k e=> ?_⟩;subst e;have:=(List.mem_filter.mp k).2;exact(of_decide_eq_true this) j
  ·rw[List.mem_append,List.mem_filter]
   constructor
   ·rintro(c|c)
    ·exact n u c
    ·exact c.1
   ·intro c
    by_cases q:u∈S.map HE.e
    ·exact .inl q
    ·exact .inr ⟨c,by simpa using q⟩
 have s:(S.map HE.e++R).Pairwise λa b=>d b<d a:=by
  rw[List.pairwise_append];refine⟨List.pairwise_map.mpr o,K.down.filter _,λa j b k=> ?_⟩;obtain⟨x,i,rfl⟩:=List.mem_map.mp j;have g:=List.mem_filter.mp k;have t:b ∉ S.map HE.e:=of_decide_eq_true g.2;refine h.out b ?_ (λz hz e=>t (e▸B6 hz)) x i;rw[NE (A7 _)];exact l.mem_iff.mpr g.1
 have v:S.map HE.e++R=Y:=r.eq_of_pairwise (λa b _ _ w y=>absurd w (Nat.lt_asymm y)) s K.down;rw[←v,show S.length=(S.map HE.e).length by (first|((repeat(first|exact .head _|apply List.mem_cons_of_mem));done)|simp),List.take_left]
section
theorem mK:sT BJ= .Name (PH (sT BJ)) (gP (sT BJ)):=by kernel_rfl
theorem mL:Dt BJ=[]:=by kernel_rfl
theorem mM:AN BJ=[Gv]:=by kernel_rfl
theorem mN:Gv= .If (.Compare (A9 (Br (sT Gv)) 0) [.Lt] [A9 (Br (sT Gv)) 1] (gP (sT Gv))) (AN Gv) [] (sP Gv):=by kernel_rfl
theorem mP{w:Aa}{B:Al}{s:Ab}{i:Stmt}{l r:Expr}{m p:Pos}{e:List Stmt}{d:Env}{v1 v2:Value}{b:Bool}{I:Ab→Prop}(j:i= .If (.Compare l [.Lt] [r] m) e [] p)(n:markedBehindIn .Lt r (eval r d)=eval r d)
  (o: ∀s Q E,I s→(∀g,I g→Q v1 g)→wpAny (model pw w) B (eval l d) Q E s)
  (t: ∀s Q E,I s→(∀g,I g→Q v2 g)→wpAny (model pw w) B (eval r d) Q E s)
  (u: ∀s,I s→CE .Lt B s v1 v2 b) {Q:Flow→Ab→Prop} {E:Value→Ab→Prop}
  (v: ∀s,I s→if b=true then wpAny (model pw w) B (execs e d) Q E s else Q .next s) (z:I s):wpAny (model pw w) B (exec i d) Q E s:=by
 rw[j,exec_If];refine Af (Ds ?_);rw[isTrue_Compare1];refine Af (Af (o s _ _ z λs2 C=> ?_));refine Af (Di ?_);rw[n];refine t s2 _ _ C λs3 k=> ?_;refine Af (Ds ?_);refine Af ?_;refine (?_:wpAny _ _ (holding [v1,v2] (compareOp .Lt v1 v2)>>=λr=>release [v1,v2] [r]>>=λ_=>pure r) _ _ _);refine Af (Di (u s3 k pw w _ _ ?_));refine Af (wpAny_release (Aq ?_));refine (?_:wpAny _ _ (holding [.bool b] (truthy (.bool b))) _ _ _);refine Di (wpAny_truthy_bool ?_);have:=v s3 k;cases b with
 |true=>simpa using this
 |false=>
  simp only[CZ,if_false]at this⊢;exact Aq this
inductive JV (P:Aj):Nat→List DictEntry→Prop
 |a:JV P 8 []
 |b (y8:Nat) (v8:Value):JV P 9 [Ap P Bt y8 v8]
 |c (y8:Nat) (v8:Value) (y9:Nat) (v9:Value):JV P 10 [Ap P Bt y8 v8,Ap P EM y9 v9]
noncomputable abbrev mQ(f c it:Nat):Code:=.forLoop (sT BJ) (.ref it) (AN BJ) (Dt BJ) (Ck f c)
noncomputable abbrev BO(P:Aj)(e0 e1 nw tk0 rs a y y2 y3 y4 y5 y6 y7 it h tp t:Nat)(o:Int)(x:List DictEntry)(m:Nat):Obj:=AQ P e0 e1 nw tk0 rs (DI P y y2 y3 y4 it a h y5 y6 y7 tp t o++x) m
theorem Pd{H:List HE}{x:HE}(h:x∈H):(x.A,Bm x)∈HL H:=B6 h
section
variable {w:Aa}{A:Al}{f c e0 e1 nw tk0 rs a y y2 y3 y4 y5 y6 y7 it h nr kk:Nat}{X Y:List El}{φ:El→Nat}
theorem mR{g:HE→Nat}{b:HE→HE}(e: ∀h,g (b h)=g h)(d:b hz=hz)(H:List HE):BA g (H.map b)=BA g H:=by
 funext i;refine (?_:g ((H.map b).getD i hz)=g (H.getD i hz));have:(H.map b).getD i hz=b (H.getD i hz):=by
  simp only[List.getD,Jj];cases H[i]? with
  |none=>exact d.symm
  |some x=>rfl
 rw[this,e]
theorem mT(v:X.Perm Y)(K:Ed Y φ)(G:X.Nodup){i:Nat}(B:i<X.length){t:Nat}{o:Int}{g:HE}{T:List HE}(H:DN (BA (gH φ) (g::T)) (g::T).length 0)(r:Dm φ X i (g::T))(N:φ g.e<φ X[i]):
  ∃(k:Nat→List HE),(∀A,Sft (gH φ) (⟨A,X[i],o,t⟩::T) true 0 0 0 (⟨A,X[i],o,t⟩::k A)∧(⟨A,X[i],o,t⟩::k A).Perm (⟨A,X[i],o,t⟩::T)∧DN (BA (gH φ) (⟨A,X[i],o,t⟩::k A)) (⟨A,X[i],o,t⟩::k A).length 0)∨
   ∃b∈T,∀A,Sft (gH φ) (⟨A,X[i],o,t⟩::T) true 0 0 0 (b::k A)∧(b::k A).Perm (⟨A,X[i],o,t⟩::T)∧DN (BA (gH φ) (b::k A)) (b::k A).length 0:=by
 classical
 have I:X[i]∈Y:=v.mem_iff.mp (C0 B);have J: ∀x∈g::T,x.e∈Y:=λx m=>v.mem_iff.mp (Hl (r.sub x m));have C: ∀x∈g::T,x.e≠X[i]:=λx m e=>by
  obtain⟨j,L,D⟩:=F7 (r.sub x m);rw[Lp]at D;have O:j<i:=by simp at L;(first|lia|omega)
  have:=(Ls (h₀:=by (first|lia|omega)) (h₁:=B) G).mp (D.trans e);(first|lia|omega)
 have E:(hz:HE).e≠X[i]:=λe=>by
  have:=(K.apart (J g Bj) I (C g Bj)).y0;rw[←e]at this;exact this rfl
 let l:Nat→HE:=λA=>⟨A,X[i],o,t⟩
 let d:Nat→HE→HE:=λA h=>if h.e=X[i]then l A else h
 have F: ∀A h,gH φ (d A h)=gH φ h:=λA h=>by
  refine (?_:φ (if h.e=X[i]then l A else h).e=φ h.e)
  split
  ·rename_i e;rw[e]
  ·rfl
 have s: ∀A,d A hz=hz:=λA=>AH E;have e1: ∀A,(l 0::T).map (d A)=l A::T:=λA=>by
  rw[Eh];congr 1
  ·exact AS rfl
  ·conv=>rhs;rw[←List.map_id T]
   exact DU λx m=>AH (C x (BB _ m))
 obtain⟨n,z,p,q⟩:=iA (gH φ) g (l 0) T H;have u: ∀A,Sft (gH φ) (l A::T) true 0 0 0 (n.map (d A))∧(n.map (d A)).Perm (l A::T)∧DN (BA (gH φ) (n.map (d A))) (n.map (d A)).length 0:=λA=>by
  refine⟨e1 A▸z.map (F A) (s A),e1 A▸p.map (d A),?_⟩;rw[mR (F A) (s A),BY];exact q
 cases n with
 |nil=>exact absurd p.length_eq (by (first|((repeat(first|exact .head _|apply List.mem_cons_of_mem));done)|simp))
 |cons b M=>
  refine⟨λA=>M.map (d A),?_⟩
  by_cases e:b.e=X[i]
  ·refine .inl λA=> ?_
   have:=u A;rw[Eh,show d A b=l A from AS e]at this;exact this
  ·refine .inr ⟨b,?_,λA=> ?_⟩
   ·rcases List.mem_cons.mp (p.mem_iff.mp Bj)with rfl|h
    ·exact absurd rfl e
    ·exact h
   ·have:=u A
    rw[Eh,show d A b=b from AH e]at this;exact this
theorem mU{B:Al}(j:B.handled=none)(k:B.depth≤520)(uB:B.units≤3000){p t v m:Nat}{o:Int}{x:List DictEntry}{R:Ae}(H:JV w.2 m x){s:Ab}(S:An (kt w) s ([(f,BO w.2 e0 e1 nw tk0 rs a y y2 y3 y4 y5 y6 y7 it h p t o x m)]++R)){Q:Unit→Ab→Prop}{E:Value→Ab→Prop}
  (l: ∀C e n r,((r=9∧n=[])∨(r=10∧B5 λg i=>n=[Ad w EM g i]))→Ag (kt w) s C ([(f,BO w.2 e0 e1 nw tk0 rs a y y2 y3 y4 y5 y6 y7 it h p t o x m)]++R) ([(f,BO w.2 e0 e1 nw tk0 rs a y y2 y3 y4 y5 y6 y7 it h p t o (Ad w Bt e (.ref v)::n) r)]++R)→Q () C):wpAny (model pw w) B (assign (sT BJ) (Ck f c) (.ref v)) Q E s:=by
 have u:=S.part R (La:=[(f,BO w.2 e0 e1 nw tk0 rs a y y2 y3 y4 y5 y6 y7 it h p t o x m)]) (AW _);cases H with
 |a=>exact Bq (mC w f c e0 e1 nw tk0 rs a y y2 y3 y4 y5 y6 y7 p t it h o v) (λ_:Unit=>Flow.next) (Ai (Ai (Ai te1332294967873798157 f) c) v) [] j k uB AR Ar u λD F G s1 _ d _ _=>l s1 _ [] 9 (.inl ⟨rfl,rfl⟩) (Ag.part R S (La:=[(f,BO w.2 e0 e1 nw tk0 rs a y y2 y3 y4 y5 y6 y7 it h p t o _ _)]) (AW _) d)
 |b e z=>exact Bq (Wy w f c e0 e1 nw tk0 rs a y y2 y3 y4 y5 y6 y7 p t it h o v e 9 z []) (λ_:Unit=>Flow.next) (Ai (Ai (Ai te1332294967873798157 f) c) v) [] j k uB AR Ar u λD F G s1 _ d _ _=>l s1 _ [] 9 (.inl ⟨rfl,rfl⟩) (Ag.part R S (La:=[(f,BO w.2 e0 e1 nw tk0 rs a y y2 y3 y4 y5 y6 y7 it h p t o _ _)]) (AW _) d)
 |c e z g i=>exact Bq (Wy w f c e0 e1 nw tk0 rs a y y2 y3 y4 y5 y6 y7 p t it h o v e 10 z [Ad w EM g i]) (λ_:Unit=>Flow.next) (Ai (Ai (Ai te1332294967873798157 f) c) v) [] j k uB AR Ar u λD F G s1 _ d _ _=>l s1 _ _ 10 (.inr ⟨rfl,g,i,rfl⟩) (Ag.part R S (La:=[(f,BO w.2 e0 e1 nw tk0 rs a y y2 y3 y4 y5 y6 y7 it h p t o _ _)]) (AW _) d)
theorem mV{B:Al}(Z:B.handled=none)(dB:B.depth≤520)(uB:B.units≤3000)(hp:X.Perm Y)(K:Ed Y φ)(hT: ∀x∈Y,∀y∈Y,x≠y→x.T≠y.T)(hX:X.Nodup){i:Nat}(hi:i<X.length)(hx:X.length≤900)
  {t:Nat} {o:Int} {m:Nat} {x:List DictEntry} {k:HE} {T:List HE} (hf:JV w.2 m x) (hq:DN (BA (gH φ) (k::T)) (k::T).length 0) (U:Dm φ X i (k::T)) (aq:T.length≤900)
  {s:Ab} (S:An (kt w) s ([(f,BO w.2 e0 e1 nw tk0 rs a y y2 y3 y4 y5 y6 y7 it h k.e.T t o x m),(a,Ce k T kk)]++HL (k::T)++EL Y)) {Q:Flow→Ab→Prop} {E:Value→Ab→Prop}
  (hR: ∀s' t' o' m' x' d D,JV w.2 m' x'→DN (BA (gH φ) (d::D)) (d::D).length 0→Dm φ X (i+1) (d::D)→D.length=T.length→
   Ag (kt w) s s' ([(f,BO w.2 e0 e1 nw tk0 rs a y y2 y3 y4 y5 y6 y7 it h k.e.T t o x m),(a,Ce k T kk)]++HL (k::T)++EL Y) ([(f,BO w.2 e0 e1 nw tk0 rs a y y2 y3 y4 y5 y6 y7 it h d.e.T t' o' x' m'),(a,Ce d D kk)]++HL (d::D)++EL Y)→Q .next s'):
  wpAny (model pw w) B (assign (sT BJ) (Ck f c) (.ref X[i].T)>>=λ_=>execs (AN BJ) (Ck f c)) Q E s:=by
 have vY:X[i]∈Y:=hp.mem_iff.mp (C0 hi);have V:k.e∈Y:=hp.mem_iff.mp (Hl (U.sub k Bj));have vx: ∀x∈k::T,x.e≠X[i]:=λx hx e=>by
  obtain⟨j,hj,e2⟩:=F7 (U.sub x hx);rw[Lp]at e2;have ar:j<i:=by simp at hj;(first|lia|omega)
  have:=(Ls (h₀:=by (first|lia|omega)) (h₁:=hi) hX).mp (e2.trans e);(first|lia|omega)
 have ae:=vx k Bj;refine Af (mU Z dB uB hf (R:=[(a,Ce k T kk)]++HL (k::T)++EL Y) S λs1 r xr m1 ai ao=> ?_);rw[mM];refine (?_:wpAny _ _ (exec Gv (Ck f c)>>=_) _ _ _);refine Af ?_;have aj: ∀{e:El},e∈Y→ ∀L:Ae,(e.T,BN e)∈L++EL Y:=λhe L=>BG _ (HY he);refine mP (v1:=.ref k.e.T) (v2:=.ref X[i].T) (b:=decide (φ k.e<φ X[i])) (I:=λs'=>Ag (kt w) s s' ([(f,BO w.2 e0 e1 nw tk0 rs a y y2 y3 y4 y5 y6 y7 it h k.e.T t o x m),(a,Ce k T kk)]++HL (k::T)++EL Y) ([(f,BO w.2 e0 e1 nw tk0 rs a y y2 y3 y4 y5 y6 y7 it h k.e.T t o (Ad w Bt r (.ref X[i].T)::xr) m1),(a,Ce k T kk)]++HL (k::T)++EL Y)) mN (by rfl) (λs2 Q E l hQ=> ?_) (λs2 Q E l hQ=> ?_) (λs2 l=> ?_) (λs2 l=> ?_) ao
 ·refine Bq (mD w f c e0 e1 nw tk0 rs a y y2 y3 y4 y5 y6 y7 k.e.T t it h o m1 _) Flow.ret (Ai (Ai te12783120001347113662 f) c) [] Z dB uB AR Ar (l.sat.part ([(a,Ce k T kk)]++HL (k::T)++EL Y) (AW _)) λn G ω s3 v u _ hv=> ?_
  obtain rfl:v= .ref k.e.T:=CU hv;exact hQ s3 (l.trans (Ag.part ([(a,Ce k T kk)]++HL (k::T)++EL Y) l.sat (La:=[(f,BO w.2 e0 e1 nw tk0 rs a y y2 y3 y4 y5 y6 y7 it h k.e.T t o _ _)]) (AW _) u))
 ·refine Bq (mE w f c e0 e1 nw tk0 rs a y y2 y3 y4 y5 y6 y7 k.e.T t it h o m1 r X[i].T xr) Flow.ret (Ai (Ai te1621527730693163039 f) c) [] Z dB uB AR Ar (l.sat.part ([(a,Ce k T kk)]++HL (k::T)++EL Y) (AW _)) λn G ω s3 v u _ hv=> ?_
  obtain rfl:v= .ref X[i].T:=CU hv;exact hQ s3 (l.trans (Ag.part ([(a,Ce k T kk)]++HL (k::T)++EL Y) l.sat (La:=[(f,BO w.2 e0 e1 nw tk0 rs a y y2 y3 y4 y5 y6 y7 it h k.e.T t o _ _)]) (AW _) u))
 ·have ap:=K.apart V vY ae
  have:=CE.tuple_lt (A:=B) (CM uB (by decide)) (l.sat.mem _ (aj V _)) (l.sat.mem _ (aj vY _)) (Ro (Mv l.sat) ap);rwa[K.gt _ V _ vY (K.ne V vY ae)]at this
 ·by_cases aa:φ k.e<φ X[i]
  ·rw[AS (by simpa using aa)]
   classical
   obtain⟨D,H⟩:=mT (t:=t) (o:=o) hp K hX hi hq U aa;have hn: ∀A:Nat,Dm φ X (i+1) (⟨A,X[i],o,t⟩::T):=λA=>U.hit hp K hi hX hq rfl aa;rcases H with H|⟨d,ak,H⟩
   ·have al: ∀A:Nat,ES ([(A,Bm ⟨A,X[i],o,t⟩)]++(HL (k::T)++EL Y)) (⟨A,X[i],o,t⟩::T) (gH φ):=λA=>(hn A).hfact hp K hT (λz hz=>by
      rcases List.mem_cons.mp hz with rfl|hz
      ·exact Bj
      ·exact BG _ (Dh _ (Pd (BB _ hz)))) λe he=>BG _ (BG _ (HY he))
    have ac: ∀{s3:Ab} {L0:Ae} {o1 o2 o3:Obj} {A:Nat} {C:List HE},Ag (kt w) s s2 L0 ([(f,o1),(a,o2)]++HL (k::T)++EL Y)→Ag (kt w) s2 s3 ([(f,o1),(a,o2)]++(HL (k::T)++EL Y)) ([(f,o3),(a,li (As (⟨A,X[i],o,t⟩::C)) kk),(A,Bm ⟨A,X[i],o,t⟩)]++(HL (k::T)++EL Y))→(⟨A,X[i],o,t⟩::C).Perm (⟨A,X[i],o,t⟩::T)→
      Ag (kt w) s s3 L0 ([(f,o3),(a,li (As (⟨A,X[i],o,t⟩::C)) kk)]++HL (⟨A,X[i],o,t⟩::C)++EL Y):=λ {s3 L0 o1 o2 o3 A C} s1 s2 p=>by
     have pm:(HL (⟨A,X[i],o,t⟩::C)).Perm ((A,Bm ⟨A,X[i],o,t⟩)::HL T):=p.map _;have l:=s1.trans s2;refine(l.permR (L'':=([(f,o3),(a,li (As (⟨A,X[i],o,t⟩::C)) kk)]++HL (⟨A,X[i],o,t⟩::C)++EL Y)++[(k.A,Bm k)]) ?_).subs (EW _ _);exact(AO [_,_] [_,_,_,_] [0,3,1,3,5,0,2,7,2,4] [0,2,5,2,1,3,7,0,1,4]).trans ((FF _ pm.symm).trans (AO [_,_] [_,_,_,_] [0,2,1,2,3,5,7,0,1,4] [0,9,0,6,0,2,3,5,1,2,4,7]))
    rcases ai with⟨J,M⟩|⟨J,W,v9,M⟩
    ·rw[J,M]at l
     have N:An (kt w) s2 ([(f,BO w.2 e0 e1 nw tk0 rs a y y2 y3 y4 y5 y6 y7 it h k.e.T t o (Ad w Bt r (.ref X[i].T)::[]) 9),(a,Ce k T kk)]++(HL (k::T)++EL Y)):=l.sat;refine HZ (mF w f c e0 e1 nw tk0 rs a y y2 y3 y4 y5 y6 y7 k.e.T t it h o kk r 0 .none X[i] k T D) id (Ai (Ai te10658043212670528822 f) c) (HL (k::T)++EL Y) [] Z dB uB (G6 _ _ (FT (λO ts gh _ _ _=>Pb (g:=gH φ) (by (first|lia|omega)) (H (tk O 0)).1 (al (tk O 0))) (FU (λ_ _ _=>FC rfl (by decide)) G5))) Ar N λn G ω s3 fl u _ P=> ?_;obtain rfl:fl= .next:=P;obtain⟨-,F,qA⟩:=H (n 0);refine Aq (hR s3 (G 4) (o-1) 10 [Ad w Bt r (.ref X[i].T),Ad w EM (G 2) (.int o t)] ⟨n 0,X[i],o,t⟩ (D (n 0)) (.c r _ _ _) qA ((hn (n 0)).perm F) (by simpa using F.length_eq) ?_);exact ac l u F
    ·rw[J,M]at l
     have N:An (kt w) s2 ([(f,BO w.2 e0 e1 nw tk0 rs a y y2 y3 y4 y5 y6 y7 it h k.e.T t o (Ad w Bt r (.ref X[i].T)::[Ad w EM W v9]) 10),(a,Ce k T kk)]++(HL (k::T)++EL Y)):=l.sat;refine HZ (mH w f c e0 e1 nw tk0 rs a y y2 y3 y4 y5 y6 y7 k.e.T t it h o kk r W v9 X[i] k T D) id (Ai (Ai te10658043212670528822 f) c) (HL (k::T)++EL Y) [] Z dB uB (G6 _ _ (FT (λO ts gh _ _ _=>Pb (g:=gH φ) (by (first|lia|omega)) (H (tk O 0)).1 (al (tk O 0))) (FU (λ_ _ _=>FC rfl (by decide)) G5))) Ar N λn G ω s3 fl u _ P=> ?_;obtain rfl:fl= .next:=P;obtain⟨-,F,qA⟩:=H (n 0);refine Aq (hR s3 (G 4) (o-1) 10 [Ad w Bt r (.ref X[i].T),Ad w EM W (.int o t)] ⟨n 0,X[i],o,t⟩ (D (n 0)) (.c r _ _ _) qA ((hn (n 0)).perm F) (by simpa using F.length_eq) ?_);exact ac l u F
   ·have po: ∀o1 o2:Obj,([(f,o1),(a,o2)]++HL (k::T)++EL Y).Perm ([(f,o1),(a,o2),(d.A,Bm d)]++(HL (k::T.erase d)++EL Y)):=λo1 o2=>by
     have pe:(HL T).Perm ((d.A,Bm d)::HL (T.erase d)):=(List.perm_cons_erase ak).map _;exact(AO [_,_] [_,_,_] [0,6,0,2,1,3,5,2,4] [0,1,2,1,3,5,0,1,4]).trans ((FF _ pe).trans (AO [_,_] [_,_,_,_] [0,2,1,2,3,5,7,0,1,4] [0,3,3,5,1,0,2,7,2,4]))
    have am: ∀A:Nat,ES ([(A,Bm ⟨A,X[i],o,t⟩),(d.A,Bm d)]++(HL (k::T.erase d)++EL Y)) (⟨A,X[i],o,t⟩::T) (gH φ):=λA=>(hn A).hfact hp K hT (λz hz=>by
      rcases List.mem_cons.mp hz with rfl|hz
      ·exact Bj
      ·by_cases e:z=d
       ·rw[e];exact BB _ Bj
       ·exact BG _ (Dh _ (Pd (BB _ ((List.mem_erase_of_ne e).mpr hz))))) λe he=>BG _ (BG _ (HY he))
    have ad: ∀{s3:Ab} {L0:Ae} {o1 o2 o3:Obj} {A:Nat} {C:List HE},Ag (kt w) s s2 L0 ([(f,o1),(a,o2),(d.A,Bm d)]++(HL (k::T.erase d)++EL Y))→Ag (kt w) s2 s3 ([(f,o1),(a,o2),(d.A,Bm d)]++(HL (k::T.erase d)++EL Y)) ([(f,o3),(a,li (As (d::C)) kk),(d.A,Bm d),(A,Bm ⟨A,X[i],o,t⟩)]++(HL (k::T.erase d)++EL Y))→(d::C).Perm (⟨A,X[i],o,t⟩::T)→
      Ag (kt w) s s3 L0 ([(f,o3),(a,li (As (d::C)) kk)]++HL (d::C)++EL Y):=λ {s3 L0 o1 o2 o3 A C} s1 s2 p=>by
     have pm:(HL (d::C)).Perm ((A,Bm ⟨A,X[i],o,t⟩)::HL T):=p.map _;have pe:(HL T).Perm ((d.A,Bm d)::HL (T.erase d)):=(List.perm_cons_erase ak).map _;have l:=s1.trans s2;refine(l.permR (L'':=([(f,o3),(a,li (As (d::C)) kk)]++HL (d::C)++EL Y)++[(k.A,Bm k)]) ?_).subs (EW _ _);refine List.perm_iff_count.mpr λq=> ?_;have c:=List.perm_iff_count.mp pm q;have c2:=List.perm_iff_count.mp pe q;have e1:HL (k::T.erase d)=(k.A,Bm k)::HL (T.erase d):=rfl;rw[e1];simp only[NJ,List.count_cons,List.count_nil]at c c2⊢;(first|lia|omega)
    rcases ai with⟨J,M⟩|⟨J,W,v9,M⟩
    ·rw[J,M]at l
     have N:An (kt w) s2 ([(f,BO w.2 e0 e1 nw tk0 rs a y y2 y3 y4 y5 y6 y7 it h k.e.T t o (Ad w Bt r (.ref X[i].T)::[]) 9),(a,Ce k T kk),(d.A,Bm d)]++(HL (k::T.erase d)++EL Y)):=l.sat.perm (po _ _);refine HZ (mG w f c e0 e1 nw tk0 rs a y y2 y3 y4 y5 y6 y7 k.e.T t it h o kk r 0 .none X[i] k d T D) id (Ai (Ai te10658043212670528822 f) c) (HL (k::T.erase d)++EL Y) [] Z dB uB (G6 _ _ (FT (λO ts gh _ _ _=>Pb (g:=gH φ) (by (first|lia|omega)) (H (tk O 0)).1 (am (tk O 0))) (FU (λ_ _ _=>FC rfl (by decide)) G5))) Ar N λn G ω s3 fl u _ P=> ?_;obtain rfl:fl= .next:=P;obtain⟨-,F,qA⟩:=H (n 0);refine Aq (hR s3 (G 4) (o-1) 10 [Ad w Bt r (.ref X[i].T),Ad w EM (G 2) (.int d.o d.t)] d (D (n 0)) (.c r _ _ _) qA ((hn (n 0)).perm F) (by simpa using F.length_eq) ?_);exact ad (l.permR (po _ _)) u F
    ·rw[J,M]at l
     have N:An (kt w) s2 ([(f,BO w.2 e0 e1 nw tk0 rs a y y2 y3 y4 y5 y6 y7 it h k.e.T t o (Ad w Bt r (.ref X[i].T)::[Ad w EM W v9]) 10),(a,Ce k T kk),(d.A,Bm d)]++(HL (k::T.erase d)++EL Y)):=l.sat.perm (po _ _);refine HZ (mI w f c e0 e1 nw tk0 rs a y y2 y3 y4 y5 y6 y7 k.e.T t it h o kk r W v9 X[i] k d T D) id (Ai (Ai te10658043212670528822 f) c) (HL (k::T.erase d)++EL Y) [] Z dB uB (G6 _ _ (FT (λO ts gh _ _ _=>Pb (g:=gH φ) (by (first|lia|omega)) (H (tk O 0)).1 (am (tk O 0))) (FU (λ_ _ _=>FC rfl (by decide)) G5))) Ar N λn G ω s3 fl u _ P=> ?_;obtain rfl:fl= .next:=P;obtain⟨-,F,qA⟩:=H (n 0);refine Aq (hR s3 (G 4) (o-1) 10 [Ad w Bt r (.ref X[i].T),Ad w EM W (.int d.o d.t)] d (D (n 0)) (.c r _ _ _) qA ((hn (n 0)).perm F) (by simpa using F.length_eq) ?_);exact ad (l.permR (po _ _)) u F
  ·rw[AH (by simpa using aa)]
   have an:φ X[i]<φ k.e:=by
    have:=K.ne V vY ae;(first|lia|omega)
   refine Aq (hR s2 t o m1 _ k T ?_ hq (U.miss hi hq an) rfl l);rcases ai with⟨J,M⟩|⟨J,W,v9,M⟩
   ·rw[J,M];exact .b _ _
   ·rw[J,M];exact .c _ _ _ _
end
end
section
inductive mW (w:Aa) (f e0 e1 nw tk0 rs a y y2 y3 y4 y5 y6 y7 it h nr kk:Nat) (X Y:List El) (φ:El→Nat) (k:Nat) (r:Result) (L':Ae) (ts:List Nat):Prop
 |mk (hr:r= .ok .next) (ht:ts=[]) (t':Nat) (o':Int) (m':Nat) (x':List DictEntry) (x0':HE) (T':List HE) (oi:Obj) (hi:Dm φ X X.length (x0'::T')) (hl:T'.length=k) (hL:L'=[(f,BO w.2 e0 e1 nw tk0 rs a y y2 y3 y4 y5 y6 y7 it h x0'.e.T t' o' x' m'),(it,oi),(rs,li (Ax X) nr),(a,li (As (x0'::T')) kk)]++HL (x0'::T')++EL Y)
section
variable {w:Aa}{A:Al}{f c e0 e1 nw tk0 rs a y y2 y3 y4 y5 y6 y7 it h nr kk:Nat}{X Y:List El}{φ:El→Nat}
theorem mX(l:A.handled=none)(H:A.depth≤510)(I:A.units≤2900)(hp:X.Perm Y)(K:Ed Y φ)(hT: ∀x∈Y,∀y∈Y,x≠y→x.T≠y.T)(hX:X.Nodup)(hx:X.length≤900):
  ∀(n i:Nat),i+n=X.length→ ∀(t:Nat) (o:Int) (m:Nat) (x:List DictEntry) (b:HE) (T:List HE),JV w.2 m x→DN (BA (gH φ) (b::T)) (b::T).length 0→Dm φ X i (b::T)→T.length≤900→
  RunsW w A (mQ f c it) ([(f,BO w.2 e0 e1 nw tk0 rs a y y2 y3 y4 y5 y6 y7 it h b.e.T t o x m),(it,liO rs i),AJ rs X nr,(a,Ce b T kk)]++HL (b::T)++EL Y)
   (mW w f e0 e1 nw tk0 rs a y y2 y3 y4 y5 y6 y7 it h nr kk X Y φ T.length):=by
 intro n
 induction n with
 |zero=>
  intro i hi t o m x b T J L j M s S;obtain rfl:i=X.length:=by (first|lia|omega)
  have C:([(it,liO rs X.length),AJ rs X nr]++([(f,BO w.2 e0 e1 nw tk0 rs a y y2 y3 y4 y5 y6 y7 it h b.e.T t o x m),(a,Ce b T kk)]++HL (b::T)++EL Y)).Perm ([(f,BO w.2 e0 e1 nw tk0 rs a y y2 y3 y4 y5 y6 y7 it h b.e.T t o x m),(it,liO rs X.length),AJ rs X nr,(a,Ce b T kk)]++HL (b::T)++EL Y):=by
   exact AO [_,_] [_,_,_,_,_] [0,2,1,3,0,6,0,2,5,7,9,2,4] [0,8,0,4,5,1,3,7,9,2,4]
  refine Uc (O8 l (by (first|lia|omega)) (by (first|lia|omega)) (by (first|((repeat(first|exact .head _|apply List.mem_cons_of_mem));done)|simp)) C S λs1 d=>⟨rfl,?_⟩);rw[mL];refine B4 ((Bf (mJ w f c) [] l (Ay H (by (first|lia|omega))) (Ay I (by (first|lia|omega))) AR Ar (Φ:=λr u N=>r= .ok .next∧u=[]) λα τ ω=>⟨rfl,rfl⟩) s1 (d.sat.part _ (La:=[]) (AW _))) λr s2 hz=> ?_;obtain⟨u,N,⟨D,E⟩,st,ri⟩:=hz;subst E;have e:Ag (kt w) s s2 ([(f,BO w.2 e0 e1 nw tk0 rs a y y2 y3 y4 y5 y6 y7 it h b.e.T t o x m),(it,liO rs X.length),AJ rs X nr,(a,Ce b T kk)]++HL (b::T)++EL Y) ([(it,fi Bo [.none,.int (X.length:Int) 0]),AJ rs X nr]++([(f,BO w.2 e0 e1 nw tk0 rs a y y2 y3 y4 y5 y6 y7 it h b.e.T t o x m),(a,Ce b T kk)]++HL (b::T)++EL Y)):=by
   have z:=Ag.part _ d.sat (La:=[]) (AW _) st;exact d.trans z
  refine⟨_,[],⟨D,rfl,t,o,m,x,b,T,fi Bo [.none,.int (X.length:Int) 0],j,rfl,rfl⟩,e.permR ?_,e.toks⟩;exact AO [_,_] [_,_,_,_,_] [0,2,1,3,0,6,0,2,5,7,9,2,4] [0,8,0,4,5,1,3,7,9,2,4]
 |succ n ih=>
  intro i hi t o m x b T J L j M s S;have O:i<X.length:=by (first|lia|omega)
  have P:A.depth≤520:=Ay H (by decide);have uB:A.units≤3000:=Ay I (by decide);have C:([(it,liO rs i),AJ rs X nr]++([(f,BO w.2 e0 e1 nw tk0 rs a y y2 y3 y4 y5 y6 y7 it h b.e.T t o x m),(a,Ce b T kk)]++HL (b::T)++EL Y)).Perm ([(f,BO w.2 e0 e1 nw tk0 rs a y y2 y3 y4 y5 y6 y7 it h b.e.T t o x m),(it,liO rs i),AJ rs X nr,(a,Ce b T kk)]++HL (b::T)++EL Y):=by
   exact AO [_,_] [_,_,_,_,_] [0,2,1,3,0,6,0,2,5,7,9,2,4] [0,8,0,4,5,1,3,7,9,2,4]
  refine Ud (MK l P uB (v:=.ref X[i].T) (by simp[Ax,O]) C S λs1 d=>⟨_,rfl,?_⟩);have Q:letOwnedTupleGo (sT BJ) (.ref it) (.ref X[i].T)=pure ():=by rw[mK];rfl
  rw[Q];refine Aq ?_;have p2:([(it,liO rs (i+1)),AJ rs X nr]++([(f,BO w.2 e0 e1 nw tk0 rs a y y2 y3 y4 y5 y6 y7 it h b.e.T t o x m),(a,Ce b T kk)]++HL (b::T)++EL Y)).Perm (([(f,BO w.2 e0 e1 nw tk0 rs a y y2 y3 y4 y5 y6 y7 it h b.e.T t o x m),(a,Ce b T kk)]++HL (b::T)++EL Y)++[(it,liO rs (i+1)),AJ rs X nr]):=ED;have d:=d.permR p2;refine mV l P uB hp K hT hX O hx J L j M d.sat.left λs2 R U V W g F Z aa G ac e=>⟨rfl,?_⟩
  have ad:=d.trans (Ag.part _ d.sat (AW _) e);have k:Ag (kt w) s s2 ([(f,BO w.2 e0 e1 nw tk0 rs a y y2 y3 y4 y5 y6 y7 it h b.e.T t o x m),(it,liO rs i),AJ rs X nr,(a,Ce b T kk)]++HL (b::T)++EL Y) ([(f,BO w.2 e0 e1 nw tk0 rs a y y2 y3 y4 y5 y6 y7 it h g.e.T R U W V),(it,liO rs (i+1)),AJ rs X nr,(a,Ce g F kk)]++HL (g::F)++EL Y):=by
   refine ad.permR ?_;exact AO [_,_] [_,_,_,_,_] [0,9,0,6,0,2,1,3,5,2,4,7,9] [0,8,0,4,1,7,9,3,5,2,4]
  refine B4 (ih (i+1) (by (first|lia|omega)) R U V W g F Z aa G (by (first|lia|omega)) s2 k.sat) λr s3 hz=> ?_;obtain⟨u,N,⟨D,E,t2,o2,m2,x2,ae,T2,oi,h3,h4,h5⟩,B,ri⟩:=hz;subst E;exact⟨u,[],⟨D,rfl,t2,o2,m2,x2,ae,T2,oi,h3,h4.trans ac,h5⟩,k.trans B,(k.trans B).toks⟩
end
end
noncomputable abbrev MP:Expr:=sT (Cb 9)
noncomputable abbrev RG(f a:Nat):Env:={scope:={Fq MP with names:=[(Hw,.local),(Bt,.local),(IE,.local)]},locals:=a,globals:=3,cells:=[],qual:=⟨⟨[110,108,97,114,103,101,115,116,46,60,108,111,99,97,108,115,62,46]⟩⟩,func:=none,code:=.ref 279,frame:=some f,builtins:=0}
noncomputable abbrev MQ(f b c a:Nat):Code:=.compLoop MP 0 (.ref c) (.ref a) (RG f b)
noncomputable abbrev WB(P:Aj)(a c:Nat)(d e:Value)(b:Bool):Obj:=di (cond b [Ap P Bt a d,Ap P IE c e] []) (cond b 2 0)
theorem mZ(w:Aa)(f g d c a i n k T e t m r:Nat)(o:Int)(s u:Value)(h j:List Value)(b:Bool):
  AI w 73 (MQ f g d c) ([(d,liO a i),(a,li h n),(c,li j k),(g,WB w.2 m r s u b),(T,tu [.ref e,.int o t] 0)]) (dg 9 0x2c2bd545110019fe339236ff1167ed) (AE [(0,[0,1]),(4,[2])] ([λv y z=>Ez d a i h n (.ref T),λv y z=>CQ c j k (.ref e)])) [] 0 500 2800 (.range 5)
   (λA l B=>.again (MQ f g d c)) (λA l B=>[(d,liO a (i+1)),(a,li h n),(c,li (j++[.ref e]) (k+1)),(g,di [Ad w Bt (cond b m (l 0)) (.ref e),Ad w IE (cond b r (l 1)) (.int o t)] 2),(T,tu [.ref e,.int o t] 0)]) 2:=by
 revert b;exact Ek (by kernel_rfl)
theorem nA(w:Aa)(f e b d a i n:Nat)(c:List Value):
  AI w 10 (MQ f e b d) (Gn b a i c n) [1,4] (JQ b a i c n) [] 0 500 2800 [0,1]
   (λg h j=>.done .next) (λg h j=>(JR b i a c n)) 0:=by
 kernel_rfl
theorem MR{c:Type}: ∀(l:List c) (i:Nat) (b:i<l.length),(l[i]::l.eraseIdx i).Perm l
 |a::l,0,_=>AW _
 |a::l,i+1,b=>(List.Perm.swap a _ _).trans ((MR l i (by simpa using b)).cons a)
inductive Ha (P:Aj) (S:List HE):Nat→Obj→Prop
 |a:Ha P S 0 (di [] 0)
 |b (i y0 y1:Nat):Ha P S (i+1) (di [Ap P Bt y0 (.ref (S.getD i hz).e.T),Ap P IE y1 (.int (S.getD i hz).o (S.getD i hz).t)] 2)
theorem Ha.shape{P:Aj}{S:List HE}{i:Nat}{d:Obj}(h:Ha P S i d):LA λc e g j b=>d=WB P c e g j b:=by
 cases h with
 |a=>exact⟨0,0,.none,.none,false,rfl⟩
 |b i c e=>exact⟨c,e,_,_,true,rfl⟩
theorem nB{w:Aa}{A:Al}(v:A.handled=none)(y:A.depth≤500)(z:A.units≤2800){f cl it acc a n:Nat}{S:List HE}(hS:S.length≤900): ∀(k i:Nat),i+k=S.length→ ∀(d:Obj),Ha w.2 S i d→
  RunsW w A (MQ f cl it acc) ([(it,liO a i),(a,li (As S) n),(acc,li (Ax ((S.take i).map HE.e)) i),(cl,d)]++HL S)
   λr g c=>r= .ok .next∧c=[]∧ ∃j,Ha w.2 S S.length j∧g=[(it,fi Bo [.none,.int (S.length:Int) 0]),(a,li (As S) n),(acc,li (Ax (S.map HE.e)) S.length),(cl,j)]++HL S:=by
 intro k
 induction k with
 |zero=>
  intro i D d u;obtain rfl:i=S.length:=by (first|lia|omega)
  rw[NL];refine Gj ([(acc,li (Ax (S.map HE.e)) S.length),(cl,d)]++HL S) (L1:=[(it,liO a S.length),(a,li (As S) n)]) (AW _) (Φ:=λr g c=>c=[]∧r= .ok .next∧g=[(it,fi Bo [.none,.int (S.length:Int) 0]),(a,li (As S) n)]) ?_ λr g c ⟨E,h1,h2⟩=>⟨_,by rw[h2];exact AW _,h1,E,d,u,rfl⟩
  exact Bf (nA w f cl it acc a S.length n (As S)) [] v y z (AD _ _ (Ah (λ_ _ _=>IQ (by simp[As])) AC)) Ar λF G H=>⟨rfl,rfl,rfl⟩
 |succ k I=>
  intro i D d u;have s:i<S.length:=by (first|lia|omega)
  have J:(As S)[i]? =some (.ref S[i].A):=by simp[As,s]
  have K:(Ax ((S.take i).map HE.e)).length≤1000:=by simp[Ax];(first|lia|omega)
  have L: ∀Y:Nat×Nat,Ax ((S.take i).map HE.e)++[.ref S[i].e.T]=Ax ((S.take (i+1)).map HE.e):=λ_=>by
   rw[Ji,Et s];unfold Ax;rw[BC,BC];rfl
  have X:DD w [λM c N=>Ez it a i (As S) n (.ref S[i].A),λM c N=>CQ acc (Ax ((S.take i).map HE.e)) i (.ref S[i].e.T)]:=Ah (λ_ _ _=>HJ J) (Ah (λ_ _ _=>EN K) AC);have B: ∀o1 o2 o3 o4:Obj,([(it,o1),(a,o2),(acc,o3),(cl,o4),(S[i].A,Bm S[i])]++HL (S.eraseIdx i)).Perm ([(it,o1),(a,o2),(acc,o3),(cl,o4)]++HL S):=λo1 o2 o3 o4=>by
   have O:(HL S).Perm ((S[i].A,Bm S[i])::HL (S.eraseIdx i)):=by
    have:=(MR S i s).symm.map λh:HE=>(h.A,Bm h)
    exact this
   exact(AO [_] [_,_,_,_,_] [0,5,1,3,5,7,9,2] [0,2,9,2,1,3,5,7]).trans ((FF _ O.symm).trans (AO [_] [_,_,_,_] [0,1,2,1,3,5,7] [0,4,1,3,5,7,2]))
  have fin: ∀{o4:Obj},Ha w.2 S (i+1) o4→ ∃C,([(it,liO a (i+1)),(a,li (As S) n),(acc,li (Ax ((S.take i).map HE.e)++[.ref S[i].e.T]) (i+1)),(cl,o4),(S[i].A,Bm S[i])]++HL (S.eraseIdx i)).Perm C∧
    RunsW w A (MQ f cl it acc) C λr g c=>r= .ok .next∧[]++c=[]∧ ∃j,Ha w.2 S S.length j∧g=[(it,fi Bo [.none,.int (S.length:Int) 0]),(a,li (As S) n),(acc,li (Ax (S.map HE.e)) S.length),(cl,j)]++HL S:=λ {o4} Q=>by
   refine⟨_,B _ _ _ _,?_⟩;rw[L (0,0)];exact I (i+1) (by (first|lia|omega)) _ Q
  have R:S.getD i hz=S[i]:=by simp[List.getD,s]
  have U: ∀l m,Ha w.2 S (i+1) (di [Ad w Bt l (.ref S[i].e.T),Ad w IE m (.int S[i].o S[i].t)] 2):=λl m=>by
   have:=Ha.b (P:=w.2) (S:=S) i l m;rwa[R]at this
  obtain⟨l,m,V,W,b,rfl⟩:=u.shape;exact EO (mZ w f cl it acc a i n i S[i].A S[i].e.T S[i].t l m S[i].o V W (As S) (Ax ((S.take i).map HE.e)) b) (HL (S.eraseIdx i)) (B _ _ _ _) [] v y z (AD _ _ X) Ar λF G H=>fin (U _ _)
noncomputable def H8(P:Aj)(f g i b a n:Nat)(S:List HE):Ak:=
 {d:=500,u:=2800,h:=none,c:=.compStart MP 0 (.ref i) (.ref b) (RG f g),idx:=[],pre:=[(i,liO a 0),(a,li (As S) n),(b,li [] 0),(g,di [] 0)],na:=0,nt:=0,no:=2,r:=λ_ _=>.ok .next,
  outs:=λ_ _ o=>[fi Bo [.none,.int (S.length:Int) 0],li (As S) n,li (Ax (S.map HE.e)) S.length,di [Ap P Bt (Ao o 0) (.ref (S.getD (S.length-1) hz).e.T),Ap P IE (Ao o 1) (.int (S.getD (S.length-1) hz).o (S.getD (S.length-1) hz).t)] 2],news:=λ_ _ _=>[]}
theorem nC{w:Aa}{f g d c a n:Nat}{S:List HE}(J:0<S.length)(hS:S.length≤900):Ca w (HL S) (H8 w.2 f g d c a n S):=by
 intro A u v y s St _;have z:Ix MP 0=true:=by kernel_rfl
 have key:=FJ pw w 1 Bo (by kernel_rfl) A MP 0 (.ref c) (RG f g) (λB l=>Ei λh t o=>h.length=0∧t.length=0∧o.length=2∧B=(H8 w.2 f g d c a n S).rx o ((H8 w.2 f g d c a n S).r h t)∧Jv (kt w) none s l (H8 w.2 f g d c a n S).pre (Bk (H8 w.2 f g d c a n S).pre ((H8 w.2 f g d c a n S).outs h t o)++BH h ((H8 w.2 f g d c a n S).news h t o))∧AY s.toks l.toks t) s d (liO a 0) (St.mem (d,liO a 0) (by simp[H8])) rfl z;refine key ?_;refine B4 (nB (w:=w) (f:=f) (cl:=g) (it:=d) (acc:=c) (a:=a) (n:=n) y u v hS S.length 0 (by (first|lia|omega)) (di [] 0) .a s St) λr l hz=> ?_;obtain⟨K,L,⟨C,D,E,m,G⟩,H,I⟩:=hz;subst D;obtain⟨j,k,rfl⟩:B5 λj k=>E=di [Ad w Bt j (.ref (S.getD (S.length-1) hz).e.T),Ad w IE k (.int (S.getD (S.length-1) hz).o (S.getD (S.length-1) hz).t)] 2:=by
  generalize M:S.length=q at m;cases m with
  |a=>(first|lia|omega)
  |b i j k=>exact⟨j,k,by rw[NH]⟩
 subst G;exact⟨[],[],[Ac j,Ac k],rfl,rfl,rfl,C,Ag.hide (F:=HL S) St H,I⟩
noncomputable abbrev KV:=(dg 11 0xed7e4e03bbd45140943d560036f5b82e7a33126ae1ca6)
theorem nD(w:Aa)(f c j k g d i h y l:Nat)(X:List El):
  AF w 141 (tw10118331618086869758 f c) ([(f,AQ w.2 j k 2 g d [Ad w Ci y (.int h l)] 3),AJ d X i]) KV (AE [(13,[7,5,6,4,2,1,9,8])] ([λa n o=>Gu w.2 f (tk a 7) (tk a 5) (tk a 3) (tk a 4) (tk a 2) (tk a 0) d (tk a 6) i 2 X])) [] 490 2700 [0,1,2,8,10,11]
   (λb e m=>.done .next) (λb e m=>[(f,AQ w.2 j k 2 g d [Ad w Ci y (.int h l),Ad w DY (e 0) (.ref (b 0)),Ad w DZ (e 7) (.ref (b 6))] 5),AJ d X i,(b 0,liO d 2),(b 6,li (As (DH 2 8 5 X b e)) 2)]++HL (DH 2 8 5 X b e)) 8:=by
 kernel_rfl
theorem nF(w:Aa)(f c j k g d i h y l:Nat)(X:List El):
  AF w 141 (tw10118331618086869758 f c) ([(f,AQ w.2 j k 3 g d [Ad w Ci y (.int h l)] 3),AJ d X i]) KV (AE [(13,[7,5,6,4,2,1,9,8])] ([λa n o=>Gu w.2 f (tk a 7) (tk a 5) (tk a 3) (tk a 4) (tk a 2) (tk a 0) d (tk a 6) i 3 X])) [] 490 2700 [0,1,2,8,10,11,12]
   (λb e m=>.done .next) (λb e m=>[(f,AQ w.2 j k 3 g d [Ad w Ci y (.int h l),Ad w DY (e 0) (.ref (b 0)),Ad w DZ (e 8) (.ref (b 6))] 5),AJ d X i,(b 0,liO d 3),(b 6,li (As (DH 3 8 5 X b e)) 3)]++HL (DH 3 8 5 X b e)) 9:=by
 kernel_rfl
theorem nG(w:Aa)(f c j k g d i h y l:Nat)(X:List El):
  AF w 141 (tw10118331618086869758 f c) ([(f,AQ w.2 j k 4 g d [Ad w Ci y (.int h l)] 3),AJ d X i]) KV (AE [(13,[7,5,6,4,2,1,9,8])] ([λa n o=>Gu w.2 f (tk a 7) (tk a 5) (tk a 3) (tk a 4) (tk a 2) (tk a 0) d (tk a 6) i 4 X])) [] 490 2700 [0,1,2,8,10,11,12,13]
   (λb e m=>.done .next) (λb e m=>[(f,AQ w.2 j k 4 g d [Ad w Ci y (.int h l),Ad w DY (e 0) (.ref (b 0)),Ad w DZ (e 9) (.ref (b 6))] 5),AJ d X i,(b 0,liO d 4),(b 6,li (As (DH 4 8 5 X b e)) 4)]++HL (DH 4 8 5 X b e)) 10:=by
 kernel_rfl
theorem nH(w:Aa)(f c j k g d i h y l:Nat)(X:List El):
  AF w 141 (tw10118331618086869758 f c) ([(f,AQ w.2 j k 5 g d [Ad w Ci y (.int h l)] 3),AJ d X i]) KV (AE [(13,[7,5,6,4,2,1,9,8])] ([λa n o=>Gu w.2 f (tk a 7) (tk a 5) (tk a 3) (tk a 4) (tk a 2) (tk a 0) d (tk a 6) i 5 X])) [] 490 2700 [0,1,2,8,10,11,12,13,14]
   (λb e m=>.done .next) (λb e m=>[(f,AQ w.2 j k 5 g d [Ad w Ci y (.int h l),Ad w DY (e 0) (.ref (b 0)),Ad w DZ (e 10) (.ref (b 6))] 5),AJ d X i,(b 0,liO d 5),(b 6,li (As (DH 5 8 5 X b e)) 5)]++HL (DH 5 8 5 X b e)) 11:=by
 kernel_rfl
theorem nJ(w:Aa)(f c j k g d i h y l:Nat)(X:List El):
  AF w 141 (tw10118331618086869758 f c) ([(f,AQ w.2 j k 6 g d [Ad w Ci y (.int h l)] 3),AJ d X i]) KV (AE [(13,[7,5,6,4,2,1,9,8])] ([λa n o=>Gu w.2 f (tk a 7) (tk a 5) (tk a 3) (tk a 4) (tk a 2) (tk a 0) d (tk a 6) i 6 X])) [] 490 2700 [0,1,2,8,10,11,12,13,14,15]
   (λb e m=>.done .next) (λb e m=>[(f,AQ w.2 j k 6 g d [Ad w Ci y (.int h l),Ad w DY (e 0) (.ref (b 0)),Ad w DZ (e 11) (.ref (b 6))] 5),AJ d X i,(b 0,liO d 6),(b 6,li (As (DH 6 8 5 X b e)) 6)]++HL (DH 6 8 5 X b e)) 12:=by
 kernel_rfl
theorem nK(w:Aa)(f c j k g d i h y l:Nat)(X:List El):
  AF w 141 (tw10118331618086869758 f c) ([(f,AQ w.2 j k 7 g d [Ad w Ci y (.int h l)] 3),AJ d X i]) KV (AE [(13,[7,5,6,4,2,1,9,8])] ([λa n o=>Gu w.2 f (tk a 7) (tk a 5) (tk a 3) (tk a 4) (tk a 2) (tk a 0) d (tk a 6) i 7 X])) [] 490 2700 [0,1,2,8,10,11,12,13,14,15,16]
   (λb e m=>.done .next) (λb e m=>[(f,AQ w.2 j k 7 g d [Ad w Ci y (.int h l),Ad w DY (e 0) (.ref (b 0)),Ad w DZ (e 12) (.ref (b 6))] 5),AJ d X i,(b 0,liO d 7),(b 6,li (As (DH 7 8 5 X b e)) 7)]++HL (DH 7 8 5 X b e)) 13:=by
 kernel_rfl
theorem nM(w:Aa)(f c g i j e l a y n r s u v z tp t A h:Nat)(o:Int)(k m:Nat)(x:List DictEntry)(H S:List HE):
  AF w 45 (tw783827001865659065 f c) ([(f,BO w.2 g i j e l a y n r s u v z A h tp t o x m),(a,li (As H) k)]) (dg 6 20875848913151) (AE [(0,[1]),(1,[2,1,3,4])] ([λb B C=>Wu a k H S [],λb B C=>H8 w.2 f (tk b 2) (tk b 0) (tk b 1) a (k+2) S])) [] 490 2700 [3]
   (λd D E=>.done (.ret (.ref (d 1)))) (λd D E=>[(d 1,li (Ax (S.map HE.e)) S.length)]) 0:=by
 kernel_rfl
set_option maxHeartbeats 4000000
noncomputable def MS:AA→Flow
 | .done f=>f
 | .again _=>.next
noncomputable def trS1(a:Nat):Sem AA:=Builtin.«list.sort» ⟨[.ref a],[(Str.ofString "reverse",.bool true)]⟩>>=λv=>pure (.done (MS v))
lay_quick trS1
set_option maxHeartbeats 400000
theorem WC(w:Aa)(a e:Nat):
  AF w 18 (tw8237150286054735562 a) ([(a,li [.ref e] 0)]) [1,1,1,1,1,1,1,1,1] [] [] 590 3700 [0]
   (λb c d=>.done (.ret .none)) (λb c d=>[(a,li [.ref e] 2)]) 0:=by
 kernel_rfl
theorem nN{w:Aa}{F:Ae}{k n:Nat}{e:El}:Ca w F (MM k n [e] [e]):=by
 refine Ca.of ?_;intro A l m o s S _;have r:A.in1.in1.handled=none:=o;have d:A.in1.units≤2801:=Cz m 1;refine Rr (ws:=Ax [e]) (G:=[]) (V7 _) (λD=>V8 _) (λD=>U3 D true) (by simp[Ax]) S (λ {D b P E} S h=> ?_) λb D g=>⟨[D],[],[],rfl,rfl,rfl,rfl,g,g.toks⟩
 refine Bq (WC w _ e.T) MS (Ai te8237150286054735562 _) [] r (Ay (show A.in1.in1.depth≤500 from l) (by decide)) (Ay (Cz d 1) (by decide)) AR Ar S λt u v b i j _ a=> ?_;have a:MS i= .ret .none:=a;cases i with
 |again c=>cases a
 |done f=>
  obtain rfl:f= .ret .none:=a;exact h b j
section
theorem nO(l r:List Stmt)(b:Env):execs (l++r) b=execs l b>>=λd=>match d with| .next=>execs r b|f=>pure f:=by
 induction l with
 |nil=>show execs r b=pure Flow.next>>=_;rw[pure_bind]
 |cons a l e=>
  show(exec a b>>=λd=>match d with| .next=>execs (l++r) b|f=>pure f)=((exec a b>>=λd=>match d with| .next=>execs l b|f=>pure f)>>=_);rw[bind_assoc];congr 1;funext d;cases d <;> first|exact e|(first|((repeat(first|exact .head _|apply List.mem_cons_of_mem));done)|simp)
theorem CS{w:Aa}{B:Al}{s:Ab}{a:Stmt}{l:List Stmt}{b:Env}{Q:Flow→Ab→Prop}{E:Value→Ab→Prop}(h:wpAny (model pw w) B (exec a b) (λd e=>match d with| .next=>wpAny (model pw w) B (execs l b) Q E e|f=>Q f e) E s):wpAny (model pw w) B (execs (a::l) b) Q E s:=by
 refine (?_:wpAny _ _ (exec a b>>=λd=>match d with| .next=>execs l b|f=>pure f) _ _ _);refine Af (CA h (λd e h=> ?_) λ_ _ h=>h);cases d <;> first|exact h|exact Aq h
theorem Hb{w:Aa}{B:Al}{s:Ab}{a l:List Stmt}{b:Env}{Q:Flow→Ab→Prop}{E:Value→Ab→Prop}(h:wpAny (model pw w) B (execs a b) (λd e=>match d with| .next=>wpAny (model pw w) B (execs l b) Q E e|f=>Q f e) E s):wpAny (model pw w) B (execs (a++l) b) Q E s:=by
 rw[nO];refine Af (CA h (λd e h=> ?_) λ_ _ h=>h);cases d <;> first|exact h|exact Aq h
theorem Ca.perm{w:Aa}{F d:Ae}{e:Ak}(p:F.Perm d)(x:Ca w F e):Ca w d e:=λA a b c s S G=>x A a b c s (S.perm (List.Perm.append_left _ p.symm)) G
theorem Ba.extH{w:Aa}{F:Ae}{e:Ak}(h: ∀A:Al,A.depth≤e.d→A.units≤e.u→A.handled=e.h→
  RunsW w A e.c (e.pre++F) λr d b=>B5 λa o=>a.length=e.na∧b.length=e.nt∧o.length=e.no∧r=e.rx o (e.r a b)∧d=(Bk e.pre (e.outs a b o)++BH a (e.news a b o))++F)(g:e.gn=none:=by rfl):Ca w F e:=λA i j k s S _=>
 B4 (h A i j k s S) (by rintro r z ⟨d,b,⟨a,o,l,m,n,t,u⟩,v,y⟩;exact⟨a,b,o,l,m,n,t,by rw[g];exact Ag.hide S (u▸v),y⟩)
theorem nP:KS=JT::RB::JU::KS.drop 3:=by kernel_rfl
theorem nQ:JT= .If (sT JT) ([Fb 0,Fb 1,Fb 2]++[Fb 3]) [] (sP JT):=by kernel_rfl
theorem nR:JU= .If (sT JU) ([Cb 0,Cb 1]++([Cb 2,Cb 3,Cb 4,Cb 5,Cb 6]++(BJ::[Cb 8,Cb 9]))) [] (sP JU):=by kernel_rfl
theorem nS:Fb 3= .Return (some FV) (sP (Fb 3)):=by kernel_rfl
theorem nU:FV= .IfExp (.Compare (A9 (Br (eE FV 0)) 0) [.Is] [A9 (Br (eE FV 0)) 1] (gP (eE FV 0))) (eE FV 1) (eE FV 2) (gP FV):=by kernel_rfl
theorem nV:BJ= .For (sT BJ) (Ev BJ) (AN BJ) (Dt BJ) (sP BJ):=by kernel_rfl
theorem nW{w:Aa}{B:Al}{s:Ab}{x y:Nat}{g d:Obj}(i:s.heap.get? x=some g)(j:s.heap.get? y=some d)(k:d.cls= .type "object")(h:x≠y){Q:Value→Ab→Prop}{E:Value→Ab→Prop}(a:Q DE s):wpAny (model pw w) B (operate [.ref x,.ref y] (compareOp .Is (.ref x) (.ref y))) Q E s:=by
 refine (?_:wpAny _ _ (holding [.ref x,.ref y] (isSame (.ref x) (.ref y)>>=λb=>pure (.bool b))>>=λr=>release [.ref x,.ref y] [r]>>=λ_=>pure r) _ _ _);have e: ∀{Q:Bool→Ab→Prop} {E:Value→Ab→Prop},Q false s→wpAny (model pw w) B (isSame (.ref x) (.ref y)) Q E s:=λ {Q E} a=>by
  unfold isSame;dsimp only;rw[AH (by simpa using h)];refine Af (Jr i (Af (Jr j ?_)));rw[k]
  split
  ·rename_i l _ _
   have:("object":String)="tuple":=by injection l
   exact absurd this (by decide)
  ·exact Aq a
 refine Af (Di (Af (e (Aq ?_))));exact Af (wpAny_release (Aq a))
section
variable {w:Aa}{B:Al}{f c e0 e1 nw tk0 rs nr:Nat}{X Y:List El}{φ:El→Nat}
theorem WD:Km= .type "object":=by
 refine (?_:Value.type s2742458400755230247x6=_);rw[←e2742458400755230247x6]
theorem nX(I:B.handled=none)(dB:B.depth≤480)(uB:B.units≤2600){m:El}(M:m∈X)(J:X.Perm Y)(K:Ed Y φ)(T: ∀y∈X,y≠m→Cp m y=true∧Cp y m=false){s:Ab}(S:An (kt w) s ([(f,AQ w.2 e0 e1 nw tk0 rs [] 2),AJ rs X nr,(c,Cl)]++EL Y)){Q:Flow→Ab→Prop}{E:Value→Ab→Prop}
  (h: ∀N D,Ag (kt w) s N ([(f,AQ w.2 e0 e1 nw tk0 rs [] 2),AJ rs X nr,(c,Cl)]++EL Y) ([AJ rs X nr,(D,li [.ref m.T] 0)]++EL Y)→Q (.ret (.ref D)) N):wpAny (model pw w) B (execs ([Fb 0,Fb 1,Fb 2]++[Fb 3]) (Ck f c)) Q E s:=by
 have n:B.depth≤490:=by (first|lia|omega)
 have r:B.units≤2700:=by (first|lia|omega)
 have O:X.Pairwise CX:=(J.pairwise_iff λ {a b} h=>CX.symm h).mpr K.ap;refine Hb ?_;refine HZ (lA w f c e0 e1 nw tk0 rs nr X m) id (Ai (Ai te16727612240851387441 f) c) (EL Y) [] I n r (G6 _ _ (FT (λ_ _ _ _ _ _=>(iP O M T).perm (J.map _)) G5)) Ar S λk u L s1 U d _ P=> ?_;obtain rfl:U= .next:=P;have V:m∈Y:=J.mem_iff.mp M;generalize k 0=z at d;generalize k 1=g at d;generalize u 0=A at d;generalize u 1=C at d;generalize u 2=F at d;have d:Ag (kt w) s s1 ([(f,AQ w.2 e0 e1 nw tk0 rs [] 2),AJ rs X nr,(c,Cl)]++EL Y) ([(f,AQ w.2 e0 e1 nw tk0 rs [Ad w DY A (.ref z),Ad w GP C (.ref g),Ad w DZ F (.ref m.T)] 5)]++([AJ rs X nr,(g,⟨Km,none,.plain,⟨[]⟩⟩)]++EL Y)):=d;dsimp only;refine CS ?_;rw[nS,exec_Return_some];refine Af (Ds (Af ?_));rw[nU];refine wpAny_IfExp ?_;rw[isTrue_Compare1];refine Af (Bq (lB w f c e0 e1 nw tk0 rs A C F z g m.T) Flow.ret (Ai (Ai te4840358309800446347 f) c) [] I n r AR Ar d.sat.left λk u L s2 v l _ G=> ?_);obtain rfl:v= .ref m.T:=CU G;have l:=d.trans (l.frame d.sat);refine Af (Di ?_);refine (?_:wpAny _ _ (eval (A9 (Br (eE FV 0)) 1) (Ck f c)) _ _ _);refine Bq (lC w f c e0 e1 nw tk0 rs A C F z g m.T) Flow.ret (Ai (Ai te13090034962049717353 f) c) [] I n r AR Ar l.sat.left λk u L s3 v i _ G=> ?_;obtain rfl:v= .ref g:=CU G;have i:=l.trans (i.frame l.sat);refine Af (Ds (Af ?_));have t:=i.sat.mem (m.T,BN m) (BG _ (BG _ (HY V)));have H:=i.sat.mem (g,⟨Km,none,.plain,⟨[]⟩⟩) (by (first|((repeat(first|exact .head _|apply List.mem_cons_of_mem));done)|simp));have W:m.T≠g:=λe=>by
  dsimp only at t H;rw[e,H]at t;have:=Am (λo:Option Obj=>o.map Obj.cls) t;have Z:(BN m).cls= .type "tuple":=by unfold BN;rw[JI]
  simp only[Option.map_some]at this;rw[Z,WD]at this;injection this with this
  injection this with this
  exact absurd this (by decide)
 refine nW t H WD W ?_;refine (?_:wpAny _ _ (holding [.bool false] (truthy DE)) _ _ _);refine Di (wpAny_truthy_bool ?_);simp only[CZ,if_false];refine Bq (lD w f c e0 e1 nw tk0 rs A C F z g m.T) Flow.ret (Ai (Ai te12698246169658312150 f) c) [] I n r AR Ar i.sat.left λk u L R v j _ G=> ?_;obtain rfl:v= .ref (k 0):=CU G;have j:=i.trans (j.frame i.sat);refine Aq (h R (k 0) ?_);generalize k 0=D at j;have j:Ag (kt w) s R ([(f,AQ w.2 e0 e1 nw tk0 rs [] 2),AJ rs X nr,(c,Cl)]++EL Y) ([(f,AQ w.2 e0 e1 nw tk0 rs [Ad w DY A (.ref z),Ad w GP C (.ref g),Ad w DZ F (.ref m.T)] 5),(D,li [.ref m.T] 0)]++([AJ rs X nr,(g,⟨Km,none,.plain,⟨[]⟩⟩)]++EL Y)):=j;refine(j.permR (L'':=([AJ rs X nr,(D,li [.ref m.T] 0)]++EL Y)++[(f,AQ w.2 e0 e1 nw tk0 rs [Ad w DY A (.ref z),Ad w GP C (.ref g),Ad w DZ F (.ref m.T)] 5),(g,⟨Km,none,.plain,⟨[]⟩⟩)]) ?_).subs (EW _ _);exact AO [_] [_,_,_,_] [0,2,1,3,0,2,5,7,2] [0,5,0,2,5,3,2,1,7]
end
end
section
theorem Ca.left{w:Aa}{F G:Ae}{e:Ak}(x:Ca w F e):Ca w (F++G) e:=λA a b c s S H=>x A a b c s (by rw[←Dr]at S;exact S.left) H
section
variable {w:Aa}{B:Al}{f c e0 e1 nw tk0 rs nr:Nat}{X Y:List El}{φ:El→Nat}
theorem nZ(l:B.handled=none)(u:B.depth≤480)(uB:B.units≤2600)(a:X.Perm Y)(K:Ed Y φ)(m:X.length≤nw)(v:0<X.length)(b:X.length<64){s:Ab}(S:An (kt w) s ([(f,AQ w.2 e0 e1 nw tk0 rs [] 2),AJ rs X nr,(c,Cl)]++EL Y)){Q:Flow→Ab→Prop}{E:Value→Ab→Prop}
  (h: ∀d D,Ag (kt w) s d ([(f,AQ w.2 e0 e1 nw tk0 rs [] 2),AJ rs X nr,(c,Cl)]++EL Y) ([AJ rs X nr,(D,li (Ax Y) 0)]++EL Y)→Q (.ret (.ref D)) d):wpAny (model pw w) B (exec RB (Ck f c)) Q E s:=by
 have n:Y.length≤nw:=by rw[←a.length_eq];exact m
 have srt: ∀g:List Nat,Ca w (EL Y) (MM rs nr X Y):=λ_=>by
  by_cases o:2≤X.length
  ·exact iQ a K o b
  ·obtain⟨e,rfl⟩: ∃e,X=[e]:=List.length_eq_one_iff.mp (by (first|lia|omega))
   have:Y=[e]:=List.perm_singleton.mp a.symm;subst this;exact nN
 have r:slicePick ⟨Ax Y⟩ none (some (nw:Int)) none=⟨Ax Y⟩:=by
  rw[slicePick_upto',NE (by simpa[Ax]using n)]
 refine HZ (lE w f c e0 e1 nw tk0 rs nr X.length X Y) id (Ai (Ai te6526402817431349631 f) c) (EL Y) [] l (by (first|lia|omega)) (by (first|lia|omega)) (G6 _ _ (FU (λ_ _ _=>DG (by simp[Ax]) (by (first|lia|omega))) (FT (λg _ _ _ _ _=>srt g) (FU (λ_ _ _=>H3 .none (.int _ _) .none (by (first|((repeat(first|exact .head _|apply List.mem_cons_of_mem));done)|simp)) (by have:=a.length_eq;simp[Ax];(first|lia|omega)) r) G5)))) (Bi _ _ (Az (λ_ _ _=>by rw[C3 (by (first|lia|omega):(nw:Int)≥(X.length:Int))]) Bp)) S λi y z s1 t j _ k=> ?_;obtain rfl:t= .ret (.ref (i 2)):=k;exact h s1 (i 2) j
theorem KY{n p q:Nat}{X:List El}{a b:Nat→Nat}(e:n≤X.length):(DH n p q X a b).map HE.e=X.take n:=by
 unfold DH;rw[BZ];apply Hn
 ·(first|((repeat(first|exact .head _|apply List.mem_cons_of_mem));done)|simp);(first|lia|omega)
 ·intro j d g
  simp at d;simp[List.getD,show j<X.length by (first|lia|omega)]
theorem oA(r:B.handled=none)(I:B.depth≤480)(uB:B.units≤2600)(F:X.length≤900)(J:2≤nw)(K:nw≤7)(t:nw≤X.length){h y o:Nat}{s:Ab}(S:An (kt w) s [(f,AQ w.2 e0 e1 nw tk0 rs [Ad w Ci y (.int h o)] 3),AJ rs X nr]){Q:Flow→Ab→Prop}{E:Value→Ab→Prop}
  (u: ∀C G H D a A,A.map HE.e=X.take nw→Ag (kt w) s C [(f,AQ w.2 e0 e1 nw tk0 rs [Ad w Ci y (.int h o)] 3),AJ rs X nr] ([(f,AQ w.2 e0 e1 nw tk0 rs (KU w.2 y o G H D a h) 5),AJ rs X nr,(D,liO rs nw),(a,li (As A) nw)]++HL A)→Q .next C):
  wpAny (model pw w) B (execs [Cb 0,Cb 1] (Ck f c)) Q E s:=by
 have l:B.depth≤490:=by (first|lia|omega)
 have m:B.units≤2700:=by (first|lia|omega)
 have v: ∀n,n=nw→ ∀b:List Nat,Av w (Gu w.2 f (tk b 7) (tk b 5) (tk b 3) (tk b 4) (tk b 2) (tk b 0) rs (tk b 6) nr n X):=λn e _=>lW (by (first|lia|omega)) (by (first|lia|omega)) F;have:nw=2∨nw=3∨nw=4∨nw=5∨nw=6∨nw=7:=by (first|lia|omega)
 rcases this with rfl|rfl|rfl|rfl|rfl|rfl
 ·refine Bq (nD w f c e0 e1 tk0 rs nr h y o X) id (Ai (Ai te10118331618086869758 f) c) [] r l m (AD _ _ (Ah (λb _ _=>v 2 rfl b) AC)) Ar S λi j z s1 k d _ g=> ?_
  obtain rfl:k= .next:=g;exact u s1 _ _ _ _ (DH 2 8 5 X i j) (KY t) d
 ·refine Bq (nF w f c e0 e1 tk0 rs nr h y o X) id (Ai (Ai te10118331618086869758 f) c) [] r l m (AD _ _ (Ah (λb _ _=>v 3 rfl b) AC)) Ar S λi j z s1 k d _ g=> ?_
  obtain rfl:k= .next:=g;exact u s1 _ _ _ _ (DH 3 8 5 X i j) (KY t) d
 ·refine Bq (nG w f c e0 e1 tk0 rs nr h y o X) id (Ai (Ai te10118331618086869758 f) c) [] r l m (AD _ _ (Ah (λb _ _=>v 4 rfl b) AC)) Ar S λi j z s1 k d _ g=> ?_
  obtain rfl:k= .next:=g;exact u s1 _ _ _ _ (DH 4 8 5 X i j) (KY t) d
 ·refine Bq (nH w f c e0 e1 tk0 rs nr h y o X) id (Ai (Ai te10118331618086869758 f) c) [] r l m (AD _ _ (Ah (λb _ _=>v 5 rfl b) AC)) Ar S λi j z s1 k d _ g=> ?_
  obtain rfl:k= .next:=g;exact u s1 _ _ _ _ (DH 5 8 5 X i j) (KY t) d
 ·refine Bq (nJ w f c e0 e1 tk0 rs nr h y o X) id (Ai (Ai te10118331618086869758 f) c) [] r l m (AD _ _ (Ah (λb _ _=>v 6 rfl b) AC)) Ar S λi j z s1 k d _ g=> ?_
  obtain rfl:k= .next:=g;exact u s1 _ _ _ _ (DH 6 8 5 X i j) (KY t) d
 ·refine Bq (nK w f c e0 e1 tk0 rs nr h y o X) id (Ai (Ai te10118331618086869758 f) c) [] r l m (AD _ _ (Ah (λb _ _=>v 7 rfl b) AC)) Ar S λi j z s1 k d _ g=> ?_
  obtain rfl:k= .next:=g;exact u s1 _ _ _ _ (DH 7 8 5 X i j) (KY t) d
theorem oB(a:Env):exec BJ a=(standAt (sP BJ)>>=λ_=>((eval (Ev BJ) a>>=λv=>foldedSetIterable (Ev BJ) a v>>=λx=>standAt (Ev BJ).pos>>=λ_=>holding [x] (pyIter x))>>=λv=>runOwn (.forLoop (sT BJ) v (AN BJ) (Dt BJ) a) a)):=by
 rw[show exec BJ a=exec (.For (sT BJ) (Ev BJ) (AN BJ) (Dt BJ) (sP BJ)) a from Am (λb=>exec b a) nV,arm_exec_For];simp only[bind_assoc]
theorem oC{H:List HE}{φ:El→Nat}(h: ∀x∈H,∀y∈H,x≠y→gH φ x≠gH φ y)(j:H.Nodup): ∃S:List HE,H.Perm S∧S.Pairwise λa b=>gH φ b<gH φ a:=by
 refine⟨H.mergeSort λa b=>decide (gH φ b≤gH φ a),(List.mergeSort_perm _ _).symm,?_⟩;have k:=List.pairwise_mergeSort (le:=λa b=>decide (gH φ b≤gH φ a)) (λa b c e g=>by simp at*;(first|lia|omega)) (λa b=>by (first|((repeat(first|exact .head _|apply List.mem_cons_of_mem));done)|simp);(first|lia|omega)) H;have d:=List.mergeSort_perm H λa b=>decide (gH φ b≤gH φ a);have i:(H.mergeSort λa b=>decide (gH φ b≤gH φ a)).Nodup:=d.nodup_iff.mpr j;refine(List.Pairwise.and k i).imp_of_mem λ {a b} l m hz=> ?_;obtain⟨e,g⟩:=hz;have:=h a (d.mem_iff.mp l) b (d.mem_iff.mp m) g;simp at e;(first|lia|omega)
end
end
section
theorem oD{kt:KT}{s:Ab}{L:Ae}{Y:List El}(S:An kt s (L++EL Y)): ∀x∈Y,∀y∈Y,x≠y→x.T≠y.T:=by
 have g:=S.nd;rw[BC,Fn]at g;have d:=g.2.1;unfold EL at d;rw[BZ,GC,GE]at d;exact λx i y j e=>O9 (R:=λa b:El=>a.T≠b.T) (λh=>Ne.symm h) d i j e
section
variable {w:Aa}{B:Al}{f c e0 e1 nw tk0 rs nr:Nat}{X Y:List El}{φ:El→Nat}
theorem oE(hB:B.handled=none)(dB:B.depth≤480)(uB:B.units≤2600)(U:X.Perm Y)(K:Ed Y φ)(h2:2≤nw)(h7:nw≤7)(hn:nw<X.length)(hx:X.length≤60){h y i:Nat}{s:Ab}(S:An (kt w) s ([(f,AQ w.2 e0 e1 nw tk0 rs [Ad w Ci y (.int h i)] 3),(rs,li (Ax X) nr)]++EL Y)){Q:Flow→Ab→Prop}{E:Value→Ab→Prop}
  (hQ: ∀s' D,Ag (kt w) s s' ([(f,AQ w.2 e0 e1 nw tk0 rs [Ad w Ci y (.int h i)] 3),(rs,li (Ax X) nr)]++EL Y) ([(rs,li (Ax X) nr),(D,li (Ax (Y.take nw)) nw)]++EL Y)→Q (.ret (.ref D)) s'):
  wpAny (model pw w) B (execs ([Cb 0,Cb 1]++([Cb 2,Cb 3,Cb 4,Cb 5,Cb 6]++(BJ::[Cb 8,Cb 9]))) (Ck f c)) Q E s:=by
 classical
 have aa:B.depth≤490:=by (first|lia|omega)
 have ac:B.units≤2700:=by (first|lia|omega)
 have hT:=oD S;have hX:X.Nodup:=U.nodup_iff.mpr (K.down.imp λh e=>by rw[e]at h;exact It _ h);refine Hb (oA hB dB uB (by (first|lia|omega)) h2 h7 (by (first|lia|omega)) S.left λs1 l n d a V M N=> ?_);have C:V.length=nw:=by
  have:=Am Iu M;simp at this;(first|lia|omega)
 have ak:Dm φ X nw V:=by
  refine⟨λx hx=>M▸B6 hx,λu F aq x hx=> ?_,M▸hX.sublist (List.take_sublist _ _)⟩;rw[←M]at F;obtain⟨z,hz,e⟩:=List.mem_map.mp F;exact absurd e (aq z hz)
 have N:Ag (kt w) s s1 ([(f,AQ w.2 e0 e1 nw tk0 rs [Ad w Ci y (.int h i)] 3),(rs,li (Ax X) nr)]++EL Y) (([(f,AQ w.2 e0 e1 nw tk0 rs (KU w.2 y i l n d a h) 5),(rs,li (Ax X) nr),(d,liO rs nw),(a,li (As V) nw)]++HL V)++EL Y):=N.frame S;dsimp only;obtain⟨H',z,W,qH⟩:=hZ (gH φ) V (by (first|lia|omega));cases H' with
 |nil=>have:=W.length_eq;simp[C]at this;(first|lia|omega)
 |cons b o=>
 cases V with
 |nil=>simp at C;(first|lia|omega)
 |cons x T=>
 have ar:b∈x::T:=W.mem_iff.mp Bj;have pe:(HL (x::T)).Perm ((b.A,Bm b)::HL ((x::T).erase b)):=(List.perm_cons_erase ar).map _;have p1:(([(f,AQ w.2 e0 e1 nw tk0 rs (KU w.2 y i l n d a h) 5),(rs,li (Ax X) nr),(d,liO rs nw),(a,li (As (x::T)) nw)]++HL (x::T))++EL Y).Perm ([(f,AQ w.2 e0 e1 nw tk0 rs (KU w.2 y i l n d a h) 5),(a,li (As (x::T)) nw),(b.A,Bm b)]++((HL ((x::T).erase b)++EL Y)++[(rs,li (Ax X) nr),(d,liO rs nw)])):=by
  exact(AO [_,_] [_,_,_,_,_] [0,8,0,4,1,3,5,7,9,2,4] [0,2,9,2,1,3,5,7,0,1,4]).trans ((FF _ pe).trans (AO [_,_] [_,_,_,_,_] [0,2,1,2,3,5,7,9,0,1,4] [0,3,3,9,1,0,4,0,1,2,4,5,7]))
 have hf:ES ([(b.A,Bm b)]++((HL ((x::T).erase b)++EL Y)++[(rs,li (Ax X) nr),(d,liO rs nw)])) (x::T) (gH φ):=ak.hfact U K hT (λu F=>by
   by_cases e:u=b
   ·rw[e];exact Bj
   ·exact BG _ (Dh _ (Dh _ (Pd ((List.mem_erase_of_ne e).mpr F))))) λe he=>BG _ (Dh _ (BG _ (HY he)))
 obtain⟨m,hm⟩: ∃m,nw=m+1:=⟨nw-1,by (first|lia|omega)⟩
 have au:(As (x::T)).length=m+1:=by rw[BY,C,hm]
 refine Hb (HZ (mA w f c e0 e1 nw tk0 rs a nw y i l n d h m x b T o) id (Ai (Ai te11464110794198561965 f) c) ((HL ((x::T).erase b)++EL Y)++[(rs,li (Ax X) nr),(d,liO rs nw)]) [] hB aa ac (G6 _ _ (FU (λ_ _ _=>UK au (by (first|lia|omega))) (FT (λ_ _ _ _ _ _=>iO (g:=gH φ) (by rw[C];exact h2) (by rw[C];(first|lia|omega)) z hf) (FU (λ_ _ _=>FC rfl (by decide)) G5)))) Ar (N.sat.perm p1) λα τ ω s2 fl j _ ad=> ?_);obtain rfl:fl= .next:=ad;generalize τ 3=G at j;generalize τ 5=I at j;generalize τ 6=J at j;generalize τ 4=t at j;have j:=(N.permR p1).trans j;have an:=ak.perm W;have aw:(HL (b::o)).Perm (HL (x::T)):=W.map _;have j:Ag (kt w) s s2 ([(f,AQ w.2 e0 e1 nw tk0 rs [Ad w Ci y (.int h i)] 3),(rs,li (Ax X) nr)]++EL Y) ([(f,BO w.2 e0 e1 nw tk0 rs a y i l n G I J d h b.e.T t (-(nw:Int)) [] 8),(d,liO rs nw),(rs,li (Ax X) nr),(a,li (As (b::o)) nw)]++HL (b::o)++EL Y):=by
  have j:Ag (kt w) s s2 ([(f,AQ w.2 e0 e1 nw tk0 rs [Ad w Ci y (.int h i)] 3),(rs,li (Ax X) nr)]++EL Y) ([(f,BO w.2 e0 e1 nw tk0 rs a y i l n G I J d h b.e.T t (-(nw:Int)) [] 8),(a,li (As (b::o)) nw),(b.A,Bm b)]++((HL ((x::T).erase b)++EL Y)++[(rs,li (Ax X) nr),(d,liO rs nw)])):=j;refine j.permR ?_;exact(AO [_,_] [_,_,_,_,_] [0,3,1,3,5,0,4,0,1,2,4,7,9] [0,2,5,2,1,3,0,1,4,7,9]).trans ((FF _ pe.symm).trans ((AO [_,_] [_,_,_,_,_] [0,2,1,2,3,5,0,1,4,7,9] [0,2,1,2,3,5,0,1,4,7,9]).trans ((FF _ aw.symm).trans (AO [_,_] [_,_,_,_,_] [0,2,1,2,3,5,0,1,4,7,9] [0,8,0,4,3,9,7,5,1,2,4]))))
 dsimp only;refine CS ?_;rw[oB];refine Af (Ds (Af ?_));have p3:([(f,BO w.2 e0 e1 nw tk0 rs a y i l n G I J d h b.e.T t (-(nw:Int)) [] 8),(d,liO rs nw),(rs,li (Ax X) nr),(a,li (As (b::o)) nw)]++HL (b::o)++EL Y).Perm ([(f,BO w.2 e0 e1 nw tk0 rs a y i l n G I J d h b.e.T t (-(nw:Int)) [] 8),(d,liO rs nw)]++([(rs,li (Ax X) nr),(a,li (As (b::o)) nw)]++HL (b::o)++EL Y)):=AW _;refine Bq (mB w f c e0 e1 nw tk0 rs a y i l n G I J b.e.T t d h (-(nw:Int)) nw) Flow.ret (Ai (Ai te7750963653130012630 f) c) [] hB aa ac AR Ar (j.sat.perm p3).left λα τ ω s3 v O _ hv=> ?_;obtain rfl:v= .ref d:=CU hv;have O:Ag (kt w) s s3 ([(f,AQ w.2 e0 e1 nw tk0 rs [Ad w Ci y (.int h i)] 3),(rs,li (Ax X) nr)]++EL Y) ([(f,BO w.2 e0 e1 nw tk0 rs a y i l n G I J d h b.e.T t (-(nw:Int)) [] 8),(d,liO rs nw),(rs,li (Ax X) nr),(a,li (As (b::o)) nw)]++HL (b::o)++EL Y):=j.trans (Ag.part ([(rs,li (Ax X) nr),(a,li (As (b::o)) nw)]++HL (b::o)++EL Y) j.sat p3.symm O);have ax:o.length≤900:=by have:=W.length_eq;simp at this C;(first|lia|omega)
 refine wpAny_runOwn (B4 (mX (A:=B.mark none) (kk:=nw) (f:=f) (c:=c) (e0:=e0) (e1:=e1) (nw:=nw) (tk0:=tk0) (rs:=rs) (a:=a) (y:=y) (y2:=i) (y3:=l) (y4:=n) (y5:=G) (y6:=I) (y7:=J) (it:=d) (h:=h) (nr:=nr) hB (Ay dB (by decide)) (Ay uB (by decide)) U K hT hX (by (first|lia|omega)) (X.length-nw) nw (by (first|lia|omega)) t (-(nw:Int)) 8 [] b o .a qH an ax s3 O.sat) λr s4 hz=> ?_);obtain⟨L',ts,⟨h1,ba,t2,o2,m2,x2,k,L,oi,h3,h4,h5⟩,ae,ri⟩:=hz;subst h1 h5;dsimp only;have ae:=O.trans ae;have al: ∀u∈k::L,u.e∈Y:=λu F=>U.mem_iff.mp (Hl (h3.sub u F));have ay:(k::L).Nodup:=by
  have:=h3.nd;rw[GC,GE]at this;rw[GC];exact this.imp λh e=>h (by rw[e])
 obtain⟨Z,pZ,dZ⟩:=oC (φ:=φ) (H:=k::L) (λu F v hv e=>K.ne (al u F) (al v hv) (h3.ne F hv e)) ay;have ai:=h3.perm pZ.symm;have zl:Z.length=nw:=by
  have a1:=pZ.length_eq;have a2:=W.length_eq;simp at a1 a2 C;(first|lia|omega)
 have ao:=ai.best U K dZ;have az:(HL (k::L)).Perm (HL Z):=pZ.map _;have a9:ES ([]++(HL Z++EL Y)) Z (gH φ):=ai.hfact U K hT (λu F=>BG _ (Dh _ (Pd F))) λe he=>BG _ (BG _ (HY he));have p5:([(f,BO w.2 e0 e1 nw tk0 rs a y i l n G I J d h k.e.T t2 o2 x2 m2),(d,oi),(rs,li (Ax X) nr),(a,li (As (k::L)) nw)]++HL (k::L)++EL Y).Perm ([(f,BO w.2 e0 e1 nw tk0 rs a y i l n G I J d h k.e.T t2 o2 x2 m2),(a,li (As (k::L)) nw)]++(HL Z++EL Y)++[(d,oi),(rs,li (Ax X) nr)]):=by
  exact(AO [_,_] [_,_,_,_,_] [0,8,0,4,1,3,5,7,9,2,4] [0,2,9,2,1,3,5,7,0,1,4]).trans ((FF _ az).trans (AO [_,_] [_,_,_,_] [0,1,2,1,3,5,7,0,1,4] [0,8,0,2,1,7,0,1,2,4,3,5]))
 have aj:=ae.permR p5;have bb:(k::L).length=nw:=by rw[pZ.length_eq,zl]
 refine HZ (nM w f c e0 e1 nw tk0 rs a y i l n G I J k.e.T t2 d h o2 nw m2 x2 (k::L) Z) id (Ai (Ai te783827001865659065 f) c) (HL Z++EL Y) [] hB aa ac (G6 _ _ (FT (λ_ _ _ _ _ _=>iV (P:=[]) (g:=gH φ) pZ dZ a9 (by (first|lia|omega)) (by (first|lia|omega))) (FT (λ_ _ _ _ _ _=>(nC (by (first|lia|omega)) (by (first|lia|omega))).left) G5))) Ar aj.sat.left λα τ ω s5 fl am _ ad=> ?_;obtain rfl:fl= .ret (.ref (α 1)):=ad;refine hQ s5 (α 1) ?_;generalize α 1=D at am;have R:=aj.trans (Ag.part [(d,oi),(rs,li (Ax X) nr)] aj.sat (AW _) am);rw[ao,zl]at R;have R:Ag (kt w) s s5 ([(f,AQ w.2 e0 e1 nw tk0 rs [Ad w Ci y (.int h i)] 3),(rs,li (Ax X) nr)]++EL Y) (([(D,li (Ax (Y.take nw)) nw)]++(HL Z++EL Y))++[(d,oi),(rs,li (Ax X) nr)]):=R;refine(R.permR (L'':=([(rs,li (Ax X) nr),(D,li (Ax (Y.take nw)) nw)]++EL Y)++((d,oi)::HL Z)) ?_).subs (EW _ _);exact AO [_,_] [_,_,_] [0,7,0,1,1,0,1,2,4,3,5] [0,5,0,2,5,1,4,3,2]
end
end
noncomputable def KZ(b e g i:Nat)(X Y:List El):Ak:=
 {d:=470,u:=2500,h:=none,c:=.call (.ref 280) ⟨[.int g i,.ref b],[]⟩,idx:=[],pre:=[AJ b X e],na:=1,nt:=0,no:=1,r:=λa _=>.ok (.ret (.ref (a.getD 0 0))),outs:=λ_ _ _=>[li (Ax X) e],news:=λ_ _ o=>[li (Ax (Y.take g)) (Ao o 0)]}
theorem oF: ∀{Y:List El} (h:0<Y.length),Ax (Y.take 1)=[.ref Y[0].T]
 |_::_,_=>rfl
theorem oG{w:Aa}{d nr g tk0:Nat}{X Y:List El}{Q:El→Nat}(v:X.Perm Y)(K:Ed Y Q)(h1:1≤g)(h0:0<X.length)(hx:X.length≤8):Ca w (EL Y) (KZ d nr g tk0 X Y):=by
 refine Ba.extH λA hd hu hh=> ?_;refine EO (iY w d g tk0) ([AJ d X nr]++EL Y) (by exact AW _) [] hh hd hu AR Ar λE t R=>⟨_,AW _,λs S=> ?_⟩
 generalize E 0=f at S⊢;generalize E 1=c at S⊢;generalize t 0=i at S;generalize t 1=l at S;have S:An (kt w) s ([(f,AQ w.2 i l g tk0 d [] 2),(c,Cl)]++([AJ d X nr]++EL Y)):=S;have p0:([(f,AQ w.2 i l g tk0 d [] 2),(c,Cl)]++([AJ d X nr]++EL Y)).Perm ([(f,AQ w.2 i l g tk0 d [] 2),AJ d X nr,(c,Cl)]++EL Y):=(List.Perm.swap _ _ _).cons _;refine Rf λB u F uB E'=> ?_;have u:B.handled=none:=u.trans hh;have F:B.depth≤480:=Ay F (Ay (Cz hd 1) (by refine (?_:470+1≤480);(first|lia|omega)));have uB:B.units≤2600:=Ay uB (Ay (Cz hu 3) (by refine (?_:2500+3≤2600);(first|lia|omega)));have G:B.depth≤490:=by (first|lia|omega)
 have H:B.units≤2700:=by (first|lia|omega)
 have z: ∀(N:Ab) (D k:Nat),Ag (kt w) s N ([(f,AQ w.2 i l g tk0 d [] 2),(c,Cl)]++([AJ d X nr]++EL Y)) ([AJ d X nr,(D,li (Ax (Y.take g)) k)]++EL Y)→
   B5 λP I=>(B5 λa o=>a.length=1∧(List.map t []++I).length=0∧o.length=1∧(Except.ok (Flow.ret (.ref D)):Result)=(KZ d nr g tk0 X Y).rx o ((KZ d nr g tk0 X Y).r a (List.map t []++I))∧P=(Bk (KZ d nr g tk0 X Y).pre ((KZ d nr g tk0 X Y).outs a (List.map t []++I) o)++BH a ((KZ d nr g tk0 X Y).news a (List.map t []++I) o))++EL Y)∧Ag (kt w) s N ([(f,AQ w.2 i l g tk0 d [] 2),(c,Cl)]++([AJ d X nr]++EL Y)) P∧AY s.toks N.toks I:=λN D k st=>
  ⟨_,[],⟨[D],[Ac k],rfl,rfl,rfl,rfl,rfl⟩,st,st.toks⟩
 rw[nP];refine CS ?_;rw[nQ,exec_If];refine Af (Ds (Af ?_));have W0:decide ((g:Int)=1)=decide (g=1):=by
  by_cases q:g=1
  ·subst q;rfl
  ·rw[BQ q,BQ (by (first|lia|omega))]
 have S1:=S.perm p0;refine Bq (iZ w f c i l g tk0 d (decide (g=1))) (λb:Bool=>Flow.ret (.bool b)) (Ai (Ai te11701523766201414514 f) c) [] u G H AR (Bi _ _ (Az (λ_ _ _=>by rw[W0]) Bp)) (S1.part ([AJ d X nr,(c,Cl)]++EL Y) (La:=[(f,AQ w.2 i l g tk0 d [] 2)]) (AW _)) λE t R s1 b n _ U=> ?_;obtain rfl:b=decide (g=1):=by
  have:=CU U;injection this
 have n:Ag (kt w) s s1 ([(f,AQ w.2 i l g tk0 d [] 2),(c,Cl)]++([AJ d X nr]++EL Y)) ([(f,AQ w.2 i l g tk0 d [] 2),AJ d X nr,(c,Cl)]++EL Y):=(Ag.part ([AJ d X nr,(c,Cl)]++EL Y) S1 (La:=[(f,AQ w.2 i l g tk0 d [] 2)]) (AW _) n).permL p0.symm
 by_cases V:g=1
 ·rw[AS (by simp[V])]
  have J:0<Y.length:=by rw[←v.length_eq];exact h0
  have hm:Y[0]∈X:=v.mem_iff.mpr (C0 J);have W: ∀y∈X,y≠Y[0]→Cp Y[0] y=true∧Cp y Y[0]=false:=λy hy ne=>by
   have Z:=v.mem_iff.mp hy;obtain⟨j,hj,rfl⟩:=F7 Z;have j0:0<j:=by
    rcases Nat.eq_zero_or_pos j with rfl|h
    ·exact absurd rfl ne
    ·exact h
   have O:Q Y[j]<Q Y[0]:=List.pairwise_iff_getElem.mp K.down 0 j J hj j0;rw[K.gt Y[j] Z Y[0] (C0 J) (CN O),K.gt Y[0] (C0 J) Y[j] Z (EY O)];exact⟨C3 O,BQ (Nat.not_lt.mpr (Bw O))⟩
  refine nX u F uB hm v K W n.sat λs2 D m=> ?_;have e:Ax (Y.take g)=[.ref Y[0].T]:=V.symm▸oF J;refine z s2 D 0 ?_;rw[e];exact n.trans m
 ·rw[AH (by simpa using V)]
  refine (?_:wpAny _ _ (pure Flow.next) _ _ _);refine Aq ?_;dsimp only;refine CS ?_
  by_cases q2:X.length≤g
  ·refine nZ u F uB v K q2 h0 (by (first|lia|omega)) n.sat λs2 D m=> ?_
   refine z s2 D 0 ?_;rw[NE (by rw[←v.length_eq];exact q2)];exact n.trans m
  ·have p2:([(f,AQ w.2 i l g tk0 d [] 2),AJ d X nr,(c,Cl)]++EL Y).Perm ([(f,AQ w.2 i l g tk0 d [] 2),AJ d X nr]++((c,Cl)::EL Y)):=AW _
   refine Bq (lH w f c i l g tk0 d nr X.length X) id (Ai (Ai te6526402817431349631 f) c) [] u G H (AD _ _ (Ah (λ_ _ _=>DG (by simp[Ax]) (by (first|lia|omega))) AC)) (Bi _ _ (Az (λ_ _ _=>by rw[BQ (by (first|lia|omega))]) Bp)) (n.sat.perm p2).left λE t R s2 fl m _ aa=> ?_;obtain rfl:fl= .next:=aa;have m:=n.trans (Ag.part ((c,Cl)::EL Y) n.sat p2.symm m);generalize t 0=C at m;generalize t 1=y at m;dsimp only;have p3:([(f,AQ w.2 i l g tk0 d [Ad w Ci y (.int X.length C)] 3),AJ d X nr]++((c,Cl)::EL Y)).Perm ([(f,AQ w.2 i l g tk0 d [Ad w Ci y (.int X.length C)] 3),(c,Cl)]++([AJ d X nr]++EL Y)):=(List.Perm.swap _ _ _).cons _;have m:Ag (kt w) s s2 ([(f,AQ w.2 i l g tk0 d [] 2),(c,Cl)]++([AJ d X nr]++EL Y)) ([(f,AQ w.2 i l g tk0 d [Ad w Ci y (.int X.length C)] 3),(c,Cl)]++([AJ d X nr]++EL Y)):=m.permR p3;refine CS ?_;rw[nR,exec_If];refine Af (Ds (Af ?_));refine Bq (lI w f c i l g tk0 d X.length y C) (λb:Bool=>Flow.ret (.bool b)) (Ai (Ai te16562333448351188041 f) c) [] u G H AR Ar m.sat.left λE t R s3 b L _ U=> ?_;obtain rfl:b=true:=by
    have:=CU U;injection this
   have L:=m.trans (L.frame m.sat);rw[AS rfl];have p4:([(f,AQ w.2 i l g tk0 d [Ad w Ci y (.int X.length C)] 3),(c,Cl)]++([AJ d X nr]++EL Y)).Perm (([(f,AQ w.2 i l g tk0 d [Ad w Ci y (.int X.length C)] 3),AJ d X nr]++EL Y)++[(c,Cl)]):=by
    exact AO [_] [_,_,_] [0,2,1,3,0,1,5,2] [0,5,0,2,1,5,2,3]
   have M:=L.permR p4;refine oE u F uB v K (by (first|lia|omega)) (by (first|lia|omega)) (by (first|lia|omega)) (by (first|lia|omega)) M.sat.left λs4 D ac=> ?_;have ad:=M.trans (Ag.part [(c,Cl)] M.sat (AW _) ac);exact z s4 D g (ad.subs (EW _ _))
theorem RH{c:Nat}: ∀{a:List Nat} {b:Nat},AY b c a→ ∀{k:Nat},k<a.length→b≤a.getD k 0
 |[],_,_,_,h=>nomatch h
 |_::_,_,r,0,_=>r.1
 |_::_,_,r,_+1,h=>Ay (Iq r.1) (RH r.2 (Lj h))
theorem I3{c:Nat}: ∀{a:List Nat} {b:Nat},AY b c a→ ∀{i j:Nat},i<j→j<a.length→b≤a.getD i 0∧a.getD i 0<a.getD j 0
 |[],_,_,_,_,_,h=>nomatch h
 |_::_,_,_,_,0,h,_=>nomatch h
 |_::_,_,r,0,_+1,_,h=>⟨r.1,RH r.2 (Lj h)⟩
 |_::_,_,r,_+1,_+1,g,h=>
  have e:=I3 r.2 (Lj g) (Lj h)
  ⟨Ay (Iq r.1) e.1,e.2⟩
theorem oH{Y:List El}(l:Y.Pairwise CX)(k:Y.Pairwise λa b=>Cp a b=true∧Cp b a=false): ∃o,Ed Y o:=by
 classical
 have r:Y.Nodup:=l.imp λh e=>h.ft (by rw[e]);have g: ∀i (c:i<Y.length),Y.idxOf Y[i]=i:=λi c=>r.idxOf_getElem i c;refine⟨λe=>Y.length-Y.idxOf e,l,?_,λx s y t m=> ?_⟩
 ·rw[F6]
  intro i j c d n;rw[g i c,g j d];exact Jf c n
 ·obtain⟨i,c,rfl⟩:=F7 s
  obtain⟨j,d,rfl⟩:=F7 t;rw[g i c,g j d]at m⊢;rw[F6]at k;rcases Jh i j with h|h|h
  ·rw[(k i j c d h).2,BQ (Jl (Nat.sub_le_sub_left (Bw h) _))]
  ·subst h;exact absurd rfl m
  ·rw[(k j i d c h).1,C3 (Jf d h)]
noncomputable def Pe(b:Bool)(e g i j:Nat)(X Y:List El):Ak:=
 {d:=470,u:=2500,h:=none,c:=.call (.ref 280) ⟨[.int i j,.ref e],[]⟩,idx:=[],pre:=(match b with|true=>[]|false=>[(0,li [] 0),(0,li [] 0)])++((AJ e X g)::EL Y),na:=1,nt:=0,no:=1,r:=λa _=>.ok (.ret (.ref (a.getD 0 0))),outs:=λ_ _ _=>(match b with|true=>[]|false=>[li [] 0,li [] 0])++(li (Ax X) g::(EL Y).map (·.2)),news:=λ_ _ o=>[li (Ax (Y.take i)) (Ao o 0)]}
theorem oI{w:Aa}{h:Bool}{d c g e:Nat}{X Y:List El}(u:X.Perm Y)(v:1≤g)(y:0<X.length)(z:X.length≤8)(B:h=true→Y.Pairwise CX)(C:Y.Pairwise λa b=>Cp a b=true∧Cp b a=false):Av w (Pe h d c g e X Y):=by
 cases h with
 |false=>
  intro A j k l s S _;have m:=S.nd;have:((Pe false d c g e X Y).pre.map (·.1))=0::0::d::(EL Y).map (·.1):=rfl;rw[this]at m;exact absurd Bj (List.nodup_cons.mp m).1
 |true=>
  obtain⟨J,K⟩:=oH (B rfl) C;intro A j k l s S G;have S:An (kt w) s ([AJ d X c]++EL Y):=S;refine B4 (oG (w:=w) (nr:=c) (tk0:=e) u K v y z A j k l s S trivial) ?_;rintro r n ⟨a,t,o,D,E,F,H,i,I⟩;refine⟨a,t,o,D,E,F,H,?_,I⟩;have i:Ag (kt w) s n [AJ d X c] ([AJ d X c]++BH a [li (Ax (Y.take g)) (Ao o 0)]):=i;refine (?_:Ag (kt w) s n ([AJ d X c]++EL Y) (((AJ d X c)::Bk (EL Y) ((EL Y).map (·.2)))++BH a [li (Ax (Y.take g)) (Ao o 0)]));rw[KR];refine(i.frame S).permR ?_;exact AO [_,_] [_] [0,4,0,1,1,2,4] [0,2,1,4,2]
noncomputable abbrev RI:Expr:=sT (AB (AN (DX 10)).reverse 0)
noncomputable abbrev WE(f a:Nat):Env:={scope:={Fq RI with names:=[(Hw,.local),(IF,.local),(Gi,.local)]},locals:=a,globals:=3,cells:=[],qual:=⟨⟨[103,101,116,95,99,108,111,115,101,95,109,97,116,99,104,101,115,46,60,108,111,99,97,108,115,62,46]⟩⟩,func:=none,code:=.ref 285,frame:=some f,builtins:=0}
noncomputable abbrev MT(f b c a:Nat):Code:=.compLoop RI 0 (.ref c) (.ref a) (WE f b)
noncomputable abbrev WF(P:Aj)(a c:Nat)(d e:Value)(b:Bool):Obj:=di (cond b [Ap P IF a d,Ap P Gi c e] []) (cond b 2 0)
theorem oJ(w:Aa)(f g d c a i n k T h e o r:Nat)(s t:Value)(u:UInt64)(s1:Str)(j l:List Value)(b:Bool):
  AI w 73 (MT f g d c) ([(d,liO a i),(a,li j n),(c,li l k),(g,WF w.2 o r s t b),(T,tu [.float u h,.str s1 e] 0)]) (dg 9 0x2c2bd545110019fe339236ff1167ed) (AE [(0,[0,1]),(4,[2])] ([λv y z=>Ez d a i j n (.ref T),λv y z=>CQ c l k (.str s1 e)])) [] 0 500 2800 (.range 5)
   (λA m B=>.again (MT f g d c)) (λA m B=>[(d,liO a (i+1)),(a,li j n),(c,li (l++[.str s1 e]) (k+1)),(g,di [Ad w IF (cond b o (m 0)) (.float u h),Ad w Gi (cond b r (m 1)) (.str s1 e)] 2),(T,tu [.float u h,.str s1 e] 0)]) 2:=by
 revert b;exact Ek (by kernel_rfl)
theorem oK(w:Aa)(f e b d a i n:Nat)(c:List Value):
  AI w 10 (MT f e b d) (Gn b a i c n) [1,4] (JQ b a i c n) [] 0 500 2800 [0,1]
   (λg h j=>.done .next) (λg h j=>(JR b i a c n)) 0:=by
 kernel_rfl
noncomputable abbrev DO(S:List El):List Value:=S.map λe=>Value.str e.s e.st
inductive Hc (P:Aj) (S:List El):Nat→Obj→Prop
 |a:Hc P S 0 (di [] 0)
 |b (i y0 y1:Nat):Hc P S (i+1) (di [Ap P IF y0 (.float (Bl (S.getD i hz.e).c) (S.getD i hz.e).ft),Ap P Gi y1 (.str (S.getD i hz.e).s (S.getD i hz.e).st)] 2)
theorem Hc.shape{P:Aj}{S:List El}{i:Nat}{d:Obj}(h:Hc P S i d):LA λc e g j b=>d=WF P c e g j b:=by
 cases h with
 |a=>exact⟨0,0,.none,.none,false,rfl⟩
 |b i c e=>exact⟨c,e,_,_,true,rfl⟩
theorem oL{w:Aa}{A:Al}(u:A.handled=none)(v:A.depth≤500)(y:A.units≤2800){f cl it acc a n:Nat}{S:List El}(hS:S.length≤900): ∀(k i:Nat),i+k=S.length→ ∀(d:Obj),Hc w.2 S i d→
  RunsW w A (MT f cl it acc) ([(it,liO a i),AJ a S n,(acc,li (DO (S.take i)) i),(cl,d)]++EL S)
   λr g e=>r= .ok .next∧e=[]∧ ∃j,Hc w.2 S S.length j∧g=[(it,fi Bo [.none,.int (S.length:Int) 0]),AJ a S n,(acc,li (DO S) S.length),(cl,j)]++EL S:=by
 intro k
 induction k with
 |zero=>
  intro i C d t;obtain rfl:i=S.length:=by (first|lia|omega)
  rw[NL];refine Gj ([(acc,li (DO S) S.length),(cl,d)]++EL S) (L1:=[(it,liO a S.length),AJ a S n]) (AW _) (Φ:=λr g e=>e=[]∧r= .ok .next∧g=[(it,fi Bo [.none,.int (S.length:Int) 0]),AJ a S n]) ?_ λr g e ⟨D,h1,h2⟩=>⟨_,by rw[h2];exact AW _,h1,D,d,t,rfl⟩
  exact Bf (oK w f cl it acc a S.length n (Ax S)) [] u v y (AD _ _ (Ah (λ_ _ _=>IQ (by simp[Ax])) AC)) Ar λE F G=>⟨rfl,rfl,rfl⟩
 |succ k H=>
  intro i C d t;have o:i<S.length:=by (first|lia|omega)
  have I:(Ax S)[i]? =some (.ref S[i].T):=by simp[Ax,o]
  have J:(DO (S.take i)).length≤1000:=by simp[DO];(first|lia|omega)
  have K:DO (S.take i)++[.str S[i].s S[i].st]=DO (S.take (i+1)):=by
   rw[Ji,Et o];unfold DO;rw[BC];rfl
  have X:DD w [λL e M=>Ez it a i (Ax S) n (.ref S[i].T),λL e M=>CQ acc (DO (S.take i)) i (.str S[i].s S[i].st)]:=Ah (λ_ _ _=>HJ I) (Ah (λ_ _ _=>EN J) AC);have z: ∀o1 o2 o3 o4:Obj,([(it,o1),(a,o2),(acc,o3),(cl,o4),(S[i].T,BN S[i])]++EL (S.eraseIdx i)).Perm ([(it,o1),(a,o2),(acc,o3),(cl,o4)]++EL S):=λo1 o2 o3 o4=>by
   have N:(EL S).Perm ((S[i].T,BN S[i])::EL (S.eraseIdx i)):=by
    have:=(MR S i o).symm.map λh:El=>(h.T,BN h)
    exact this
   exact(AO [_] [_,_,_,_,_] [0,5,1,3,5,7,9,2] [0,2,9,2,1,3,5,7]).trans ((FF _ N.symm).trans (AO [_] [_,_,_,_] [0,1,2,1,3,5,7] [0,4,1,3,5,7,2]))
  have fin: ∀{o4:Obj},Hc w.2 S (i+1) o4→ ∃B,([(it,liO a (i+1)),AJ a S n,(acc,li (DO (S.take i)++[.str S[i].s S[i].st]) (i+1)),(cl,o4),(S[i].T,BN S[i])]++EL (S.eraseIdx i)).Perm B∧
    RunsW w A (MT f cl it acc) B λr g e=>r= .ok .next∧[]++e=[]∧ ∃j,Hc w.2 S S.length j∧g=[(it,fi Bo [.none,.int (S.length:Int) 0]),AJ a S n,(acc,li (DO S) S.length),(cl,j)]++EL S:=λ {o4} O=>by
   refine⟨_,z _ _ _ _,?_⟩;rw[K];exact H (i+1) (by (first|lia|omega)) _ O
  have Q:S.getD i hz.e=S[i]:=by simp[List.getD,o]
  have R: ∀l m,Hc w.2 S (i+1) (di [Ad w IF l (.float (Bl S[i].c) S[i].ft),Ad w Gi m (.str S[i].s S[i].st)] 2):=λl m=>by
   have:=Hc.b (P:=w.2) (S:=S) i l m;rwa[Q]at this
  obtain⟨l,m,U,V,b,rfl⟩:=t.shape;exact EO (oJ w f cl it acc a i n i S[i].T S[i].ft S[i].st l m U V (Bl S[i].c) S[i].s (Ax S) (DO (S.take i)) b) (EL (S.eraseIdx i)) (z _ _ _ _) [] u v y (AD _ _ X) Ar λE F G=>fin (R _ _)
noncomputable def MU(P:Aj)(f g i e a n b:Nat)(Y:List El):Ak:=
 {d:=500,u:=2800,h:=none,c:=.compStart RI 0 (.ref i) (.ref e) (WE f g),idx:=[],pre:=[(i,liO a 0),(a,li (Ax (Y.take b)) n),(e,li [] 0),(g,di [] 0)]++EL Y,na:=0,nt:=0,no:=4,r:=λ_ _=>.ok .next,
  outs:=λ_ _ o=>[o.getD 2 default,li (Ax (Y.take b)) n,li (DO (Y.take b)) (Ao o 3),di [Ap P IF (Ao o 0) (.float (Bl ((Y.take b).getD ((Y.take b).length-1) hz.e).c) ((Y.take b).getD ((Y.take b).length-1) hz.e).ft),Ap P Gi (Ao o 1) (.str ((Y.take b).getD ((Y.take b).length-1) hz.e).s ((Y.take b).getD ((Y.take b).length-1) hz.e).st)] 2]++(EL Y).map (·.2),news:=λ_ _ _=>[]}
theorem oM{w:Aa}{f g j d a n e:Nat}{Y:List El}(K:0<Y.length)(u:1≤e)(hS:Y.length≤900):Av w (MU w.2 f g j d a n e Y):=by
 generalize k:Y.take e=S;have L:0<S.length:=by rw[←k,NN];(first|lia|omega)
 have v:S.length≤900:=by rw[←k,NN];(first|lia|omega)
 have y:EL Y=EL S++EL (Y.drop e):=by
  rw[←k];unfold EL;rw[←BC,NF]
 refine Ba.ext λA B C D=> ?_;refine IC 1 (o:=liO a 0) ?_ (by simp[MU]) (by kernel_rfl) (by kernel_rfl);have l:(MU w.2 f g j d a n e Y).pre=([(j,liO a 0),AJ a S n,(d,li (DO (S.take 0)) 0),(g,di [] 0)]++EL S)++EL (Y.drop e):=by
  show[(j,liO a 0),(a,li (Ax (Y.take e)) n),(d,li [] 0),(g,di [] 0)]++EL Y=_;rw[k,y];rfl
 rw[l];refine Me (Ba.mono (oL (f:=f) (cl:=g) (it:=j) (acc:=d) (a:=a) (n:=n) D B C v S.length 0 (by (first|lia|omega)) (di [] 0) .a) λr E F h=>h) λr E F hz=> ?_;obtain⟨u,G,H,z,I⟩:=hz;subst G;obtain⟨m,t,rfl⟩:B5 λm t=>H=di [Ad w IF m (.float (Bl (S.getD (S.length-1) hz.e).c) (S.getD (S.length-1) hz.e).ft),Ad w Gi t (.str (S.getD (S.length-1) hz.e).s (S.getD (S.length-1) hz.e).st)] 2:=by
  generalize M:S.length=q at z;cases z with
  |a=>(first|lia|omega)
  |b i m t=>exact⟨m,t,by rw[NH]⟩
 refine⟨[],[Ac m,Ac t,fi Bo [.none,.int (S.length:Int) 0],Ac S.length],rfl,rfl,rfl,u,?_⟩;subst I;have J: ∀o,(MU w.2 f g j d a n e Y).outs [] [] o=[o.getD 2 default,li (Ax S) n,li (DO S) (Ao o 3),di [Ad w IF (Ao o 0) (.float (Bl (S.getD (S.length-1) hz.e).c) (S.getD (S.length-1) hz.e).ft),Ad w Gi (Ao o 1) (.str (S.getD (S.length-1) hz.e).s (S.getD (S.length-1) hz.e).st)] 2]++(EL Y).map (·.2):=λo=>by
  show[o.getD 2 default,li (Ax (Y.take e)) n,li (DO (Y.take e)) (Ao o 3),_]++_=_;simp only[k]
 rw[J,←l];refine (?_:_=((j,_)::(a,_)::(d,_)::(g,_)::Bk (EL Y) ((EL Y).map (·.2)))++[]);rw[KR,BV,y];rfl
section
noncomputable def RJ(A:Nat→Nat→Nat)(ct b hh:Nat→Nat)(a c:List Nat)(ip:Nat→Nat)(k:Nat):El:=⟨a.getD k 0,cnt (A (hh k)) b 8,c.getD (ip k) 0,sf (A (hh k)),ct (hh k)⟩
noncomputable def H9(h:Nat)(A:Nat→Nat→Nat)(ct b hh:Nat→Nat)(a c:List Nat)(ip:Nat→Nat):List El:=(List.range h).map (RJ A ct b hh a c ip)
noncomputable def MV(h:Nat)(A:Nat→Nat→Nat)(ct b hh pos:Nat→Nat)(a c:List Nat)(ip:Nat→Nat):List El:=(List.range h).map λj=>RJ A ct b hh a c ip (pos j)
section
variable (w:Aa)(cl n nw t tk0:Nat)(A:Nat→Nat→Nat)(ct b hh pos ip:Nat→Nat)(h:Nat)
noncomputable def oN:List (List Nat→List Nat→List Obj→Ak):=[λa c d=>VU w.2,λa c d=>VT w.2 (tk a 2) (tk a 3) (tk a 4) (tk a 5) (tk a 6) t 540 (λi=>tk c (9+i)) b ⟨⟨[]⟩⟩ (.str ⟨⟨[]⟩⟩ 539) .none .none,λa c d=>Rn w ⟨tk a 0,tk a 17,cl,n,tk a 2,tk a 3,tk a 8,tk a 7,Ao d 0,t,nw,tk0,tk a 1,λi=>[tk c 0,tk c 1,tk c 2,tk c 3,tk c 8,tk c 19].getD i 0,λi=>tk c (9+i),b,λi=>Ao d (1+i),λi=>tk a (9+i),λi=>Ao d (9+i),B9 A ct 16⟩ A ct 16 hh pos ip h,λa c d=>Pe (Nat.ble (20+h) c.length) (tk a 1) (Ao d 21) nw tk0 (MV h A ct b hh pos ((a.drop 18).take h) ((c.drop 20).take h) ip) (H9 h A ct b hh ((a.drop 18).take h) ((c.drop 20).take h) ip),λa c d=>MU w.2 (tk a 0) (tk a (21+h)) (tk a (19+h)) (tk a (20+h)) (tk a (18+h)) (Ao d 22) nw (H9 h A ct b hh ((a.drop 18).take h) ((c.drop 20).take h) ip)]
noncomputable abbrev oO:Prop:=AI w 164 (.call (.ref 286) ⟨[.str (sf b) t,.ref cl,.int nw tk0],[]⟩) [(cl,li (B9 A ct 16) n),(248,AP [])] ([0,0,0,0,3,3,0,3,3,0,3,3,0,3,3,0,1,3,1,3,1,1,0,3,3,0,0,0,0,3,3,3,5,0,0,0,5,0,0,0,5,0,0,0,0,5,6,3,0,3,1,1,1,1,20,0,3,3,0,0,3,3,3]++[21+h,21+h,1,21+h,22+h]++Cc 6 (24+h)) (AE [(3,[]),(0,[4,5]),(1,[2,19,0,4,5,9,10,11,12,13,14,15,16,17,18,1,3]),(0,3::List.range' 20 h),(1,[21+h,20+h,22+h,23+h]++List.range' 20 h)] (oN w cl n nw t tk0 A ct b hh pos ip h)) (Bh [0] [λe g i=>(.bool (decide ((nw:Int)> 0)),.bool true)]) 1 460 2400 [0,1,22+h]
   (λa d c=>.done (.ret (.ref (a (20+h))))) (λa d c=>[(cl,li (B9 A ct 16) n),(248,AP (MJ (c 20))),(a (20+h),li (DO ((H9 h A ct b hh ((List.range' 18 h).map a) ((List.range' 20 h).map d) ip).take nw)) (BP (c 26)))]) (21+h)
end
theorem oP{w:Aa}{cl n nw t tk0:Nat}{A:Nat→Nat→Nat}{ct b hh pos ip:Nat→Nat}{h:Nat}(e:h=1∨h=4∨h=8):oO w cl n nw t tk0 A ct b hh pos ip h:=by
 rcases e with rfl|rfl|rfl <;> kernel_rfl
end
noncomputable def K0(c1:Nat)(s1:Str)(a:Nat)(s2:Str):Bool:=decide (a<c1)||(c1==a&&decide (s2.cps.toList<s1.cps.toList))
structure RM(A:Nat→Nat→Nat)(b hh:Nat→Nat)(h:Nat):Prop where
 lt: ∀k,k<h→hh k<16
 gt: ∀i j,i<j→j<h→K0 (cnt (A (hh i)) b 8) (sf (A (hh i))) (cnt (A (hh j)) b 8) (sf (A (hh j)))=true∧K0 (cnt (A (hh j)) b 8) (sf (A (hh j))) (cnt (A (hh i)) b 8) (sf (A (hh i)))=false
theorem RN{a:Type}{R:a→a→Prop}{f:Nat→a}{h:Nat}(c: ∀i j,i<j→j<h→R (f i) (f j)):((List.range h).map f).Pairwise R:=by
 rw[GE];exact(List.pairwise_lt_range (n:=h)).imp_of_mem λ {i j} e d b=>c i j b (List.mem_range.mp d)
theorem IZ.ipl{h:Nat}{a b:Nat→Nat}(o:IZ h a b){k:Nat}(c:k<h):b k<h:=List.mem_range.mp (o.pe.mem_iff.mp (B6 (List.mem_range.mpr c)))
theorem IZ.ipi{h:Nat}{b a:Nat→Nat}(o:IZ h b a){i j:Nat}(c:i<h)(d:j<h)(e:a i=a j):i=j:=by
 have:=o.pi i c;rw[e,o.pi j d]at this;exact this.symm
theorem oQ{h:Nat}{a d:Nat→Nat}(o:IZ h a d){A:Nat→Nat→Nat}{g b l:Nat→Nat}{m n:List Nat}:(MV h A g b l a m n d).Perm (H9 h A g b l m n d):=by
 have s:((List.range h).map a).Perm (List.range h):=by
  have t:((List.range h).map a).Nodup:=by
   rw[GC];refine RN λi j v r e=> ?_;have u:=o.ipp i (by (first|lia|omega));rw[e,o.ipp j r]at u;(first|lia|omega)
  refine(Nw t J8).mpr λk=> ?_;constructor
  ·intro c
   obtain⟨j,r,rfl⟩:=List.mem_map.mp c;exact List.mem_range.mpr (o.lt j (List.mem_range.mp r))
  ·intro c
   have c:=List.mem_range.mp c;exact List.mem_map.mpr ⟨d k,List.mem_range.mpr (o.ipl c),o.pi k c⟩
 have:=s.map (RJ A g b l m n d);rw[BZ]at this;exact this
theorem oR{w:Aa}{A:Nat→Nat→Nat}{t b m s a:Nat→Nat}{h u v C D:Nat}(W:IY A t 16)(o:IZ h s a)(B:RM A b m h)(E:1≤u)(F:0<h)(G:h≤8){y c:List Nat}{H I:Nat}(r:AY H I c):
  Av w (Pe (Nat.ble (20+h) c.length) C D u v (MV h A t b m s ((y.drop 18).take h) ((c.drop 20).take h) a) (H9 h A t b m ((y.drop 18).take h) ((c.drop 20).take h) a)):=by
 have J: ∀i j,i<j→j<h→sf (A (m i))≠sf (A (m j)):=λi j l d e=>by
  have g:=B.gt i j l d
  by_cases q:m i=m j
  ·rw[q]at g
   rw[g.1]at g;exact absurd g.2 (by (first|((repeat(first|exact .head _|apply List.mem_cons_of_mem));done)|simp))
  ·exact W.ne _ _ (B.lt i (by (first|lia|omega))) (B.lt j d) q e
 refine oI (oQ o) E (by simp[MV];exact F) (by simp[MV];exact G) (λK=> ?_) (RN λi j l d=>B.gt i j l d);have M:20+h≤c.length:=Ef K;have n: ∀k,k<h→((c.drop 20).take h).getD (a k) 0=c.getD (20+a k) 0:=λk L=>by
  have:=o.ipl L;simp[List.getD,List.getElem?_take,this]
 refine RN λi j l d=>⟨?_,?_,?_,?_,?_,J i j l d⟩
 ·exact F8 (Mh _ _ _)
 ·exact F8 (Mh _ _ _)
 ·show((c.drop 20).take h).getD (a i) 0≠0
  rw[n i (by (first|lia|omega))];have:=I3 r (i:=0) (j:=20+a i) (by (first|lia|omega)) (by have:=o.ipl (show i<h by (first|lia|omega));(first|lia|omega));(first|lia|omega)
 ·show((c.drop 20).take h).getD (a j) 0≠0
  rw[n j d];have:=I3 r (i:=0) (j:=20+a j) (by (first|lia|omega)) (by have:=o.ipl d;(first|lia|omega));(first|lia|omega)
 ·show((c.drop 20).take h).getD (a i) 0≠((c.drop 20).take h).getD (a j) 0
  rw[n i (by (first|lia|omega)),n j d];have z:a i≠a j:=λe=>by have:=o.ipi (by (first|lia|omega)) d e;(first|lia|omega)
  have l1:=o.ipl (show i<h by (first|lia|omega));have N:=o.ipl d;rcases Nat.lt_or_gt_of_ne z with q|q
  ·have:=I3 r (i:=20+a i) (j:=20+a j) (by (first|lia|omega)) (by (first|lia|omega))
   (first|lia|omega)
  ·have:=I3 r (i:=20+a j) (j:=20+a i) (by (first|lia|omega)) (by (first|lia|omega))
   (first|lia|omega)
noncomputable def RO(g n i t j:Nat)(A:Nat→Nat→Nat)(e b l:Nat→Nat)(h:Nat):Ak:=
 {d:=460,u:=2400,h:=none,c:=.call (.ref 286) ⟨[.str (sf b) t,.ref g,.int i j],[]⟩,idx:=[],pre:=[(g,li (B9 A e 16) n),(248,AP [])],na:=1,nt:=0,no:=2,r:=λa _=>.ok (.ret (.ref (a.getD 0 0))),
  outs:=λ_ _ o=>[li (B9 A e 16) n,AP (MJ (o.getD 0 default))],news:=λ_ _ o=>[li (((List.range h).map λk=>.str (sf (A (l k))) (e (l k))).take i) (Ao o 1)]}
theorem oS{w:Aa}{D n c t o:Nat}{A:Nat→Nat→Nat}{d b a r m:Nat→Nat}{h:Nat}(l:h=1∨h=4∨h=8)(W:IY A d 16)(s:Lt b)(J:810≤t)(K:Rm A b 16 h a r m)(B:RM A b a h)(u:1≤c):Av w (RO D n c t o A d b a h):=by
 have v: ∀q:Str,q=⟨⟨[]⟩⟩→sf b≠q:=λq e=>e▸V1 b;have j:0<h∧h≤8:=by (first|lia|omega)
 have y: ∀g i,(H9 h A d b a g i m).length=h:=λg i=>by simp[H9]
 refine Ba.ext λL E F z=> ?_;refine gW (oP l) [] [] z E F (G6 _ _ (FU (λ_ _ _=>fJ) (FU (λ_ _ _=>fI s (by (first|lia|omega)) (by decide) (by (first|lia|omega)) (v _ rfl)) (FU (λ_ _ _=>fZ W rfl s (by decide) K) (FT (λ_ _ _ _ _ G=>.of (oR W K.o B u j.1 j.2 G)) (FU (λ_ _ _=>oM (by rw[y];exact j.1) u (by rw[y];exact Ay j.2 (by decide))) G5)))))) (Bi _ _ (Az (λ_ _ _=>Am Value.bool (C3 (by (first|lia|omega):(c:Int)> 0))) Bp)) (λH M C=>⟨[H (20+h)],[C 20,C 26],rfl,rfl,rfl,rfl,?_⟩) (by rcases l with rfl|rfl|rfl <;> rfl);have I: ∀g i,DO ((H9 h A d b a g i m).take c)=((List.range h).map λk=>Value.str (sf (A (a k))) (d (a k))).take c:=λg i=>by
  unfold DO H9;rw[List.map_take,BZ];rfl
 rw[I];rfl
section
noncomputable abbrev MW:Stmt:=AB (AN (DX 19)) 2
noncomputable abbrev MX(f co cm cg:Nat):Env:={scope:=EH (DX 19),locals:=f,globals:=3,cells:=[(GO,cg),(yJ,cm),(yM,co)],qual:=⟨⟨[95,108,97,119,95,99,111,100,101,46,60,108,111,99,97,108,115,62,46]⟩⟩,func:=some 317,code:=.ref 316,frame:=some f,builtins:=0}
noncomputable abbrev MY(o:Nat→Nat):Obj:=li [.int 0 (o 0),.int 1 (o 1),.int 1 (o 2),.int 0 (o 3),.int 1 (o 4),.int 0 (o 5),.int 0 (o 6),.int 1 (o 7)] 0
noncomputable def EB:List (List Int):=[[],[0,1,2,3,4,5,6,7],[1,3,5,7],[0,2,4,6],[2,3,6,7],[0,1,4,5],[1,2,5,6],[0,3,4,7],[4,5,6,7],[0,1,2,3],[1,3,4,6],[0,2,5,7],[2,3,4,5],[0,1,6,7],[1,2,4,7],[0,3,5,6]]
noncomputable def Hd(y:Nat):List Int:=EB.getD (2*y) []
noncomputable def MZ(y:Nat):List Int:=EB.getD (2*y+1) []
noncomputable def M0(y i:Nat):Bool:=decide ((i:Int)∈Hd y)
noncomputable abbrev Pf(a:List Int)(g:Nat→Nat):List Value:=a.map λn=>.int n (g n.toNat)
section
variable (w:Aa)(f co cm cg od cd it y k:Nat)(o:Nat→Nat)(v1 v2:Option Value)(vs:List Value)
noncomputable abbrev Pg(j:Nat):Ae:=[(f,fr [Ad w Hx y (.ref cd)] 1),(co,Aw od),(cm,ce v1),(cg,ce v2),(od,MY o),(cd,li vs k),(it,Bb j (8-j))]
variable (j:Nat)
noncomputable def oU:List (List Nat→List Nat→List Obj→Ak):=[λb a _=>KF (tk b 2) (Pf (Hd j) λn=>tk a (4*n+4)) (Hd j).length (Hd j),λ_ a _=>CQ cd vs k (.str (BX (Hd j)) (tk a 36))]++((List.range 8).map λ (i:Nat) b a _=>Kp (tk b 2) (Pf (Hd j) λn=>tk a (4*n+4)) (Hd j).length i (tk a (40+2*i)) (M0 j i))++
 [λb a _=>KF (tk b 8) (Pf (MZ j) λn=>tk a (40+2*n)) (MZ j).length (MZ j),λ_ a _=>CQ cd (vs++[.str (BX (Hd j)) (tk a 36)]) (k+1) (.str (BX (MZ j)) (tk a 56))]
noncomputable abbrev Ia:Prop:=AI w 883 (BS MW it (MX f co cm cg)) (Pg w f co cm cg od cd it y k o v1 v2 vs j) (Cc 9 7++[3,3,0,0]++Cc 6 8++[1,8,8,8,8,9,9,0]++((List.range 8).flatMap λi=>Cc 9 9++[0,11,11,2,11,3,5,5,5,5,5,1]++cond (M0 j i) [11,10,10,10,10] [])++[9,9,9,9,9,13,11,11,11,4,4,1,6,6,6,6,0,4,0,1,6,6,6,6,0,0,0]++Cc 6 14++[1,14,14,14,14,15,15,0]++((List.range 8).flatMap λi=>Cc 9 15++[0,17,17,17,4,10,10]++cond (M0 j i) [] [17,16,16,16,16])++[15,15,15,15,15,19,17,17,17,0]) (AE ([(39+(Hd j).length,[9]),(0,[5]),(6,[9])]++((List.range 7).map λi=>(cond (M0 j i) 1 2,[9]))++[(cond (M0 j 7) 1 2,[15]),(0,[5])]) (oU cd k vs j)) [] 0 490 2700 [0,1,2,3,4,5,6]
   (λb a c=>.again (BS MW it (MX f co cm cg))) (λb a c=>Pg w f co cm cg od cd it y (k+1+1) o (some (.int j (a 0))) (some (.ref (b 2))) (vs++[.str (BX (Hd j)) (a 36)]++[.str (BX (MZ j)) (a 56)]) (j+1)) 57
theorem oV:Ia w f co cm cg od cd it y k o v1 v2 vs 0:=by
 kernel_rfl
theorem oW:Ia w f co cm cg od cd it y k o v1 v2 vs 1:=by
 kernel_rfl
theorem oX:Ia w f co cm cg od cd it y k o v1 v2 vs 2:=by
 kernel_rfl
theorem oY:Ia w f co cm cg od cd it y k o v1 v2 vs 3:=by
 kernel_rfl
theorem oZ:Ia w f co cm cg od cd it y k o v1 v2 vs 4:=by
 kernel_rfl
theorem pB:Ia w f co cm cg od cd it y k o v1 v2 vs 5:=by
 kernel_rfl
theorem pC:Ia w f co cm cg od cd it y k o v1 v2 vs 6:=by
 kernel_rfl
theorem pD:Ia w f co cm cg od cd it y k o v1 v2 vs 7:=by
 kernel_rfl
theorem pF: ∀j,j<8→Ia w f co cm cg od cd it y k o v1 v2 vs j
 |0,_=>oV w f co cm cg od cd it y k o v1 v2 vs
 |1,_=>oW w f co cm cg od cd it y k o v1 v2 vs
 |2,_=>oX w f co cm cg od cd it y k o v1 v2 vs
 |3,_=>oY w f co cm cg od cd it y k o v1 v2 vs
 |4,_=>oZ w f co cm cg od cd it y k o v1 v2 vs
 |5,_=>pB w f co cm cg od cd it y k o v1 v2 vs
 |6,_=>pC w f co cm cg od cd it y k o v1 v2 vs
 |7,_=>pD w f co cm cg od cd it y k o v1 v2 vs
 |_+8,h=>absurd h (by (first|lia|omega))
end
end
noncomputable def WG(P:Aj)(f e i j a b k y:Nat)(o:Nat→Nat)(T:List Nat→List Value):Ak:=
 {d:=490,u:=2700,h:=none,c:=BS MW k (MX f e i j),idx:=[],pre:=[(f,fr [Ap P Hx y (.ref b)] 1),(e,Aw a),(i,ce none),(j,ce none),(a,MY o),(b,li [] 0),(k,Bb 0 8)],na:=0,nt:=16,no:=3,r:=λ_ _=>.ok .next,
  outs:=λ_ t g=>[fr [Ap P Hx y (.ref b)] 1,Aw a,g.getD 0 default,g.getD 1 default,MY o,li (T t) 16,g.getD 2 default],news:=λ_ _ _=>[]}
theorem pG(w:Aa)(f b c d a:Nat):
  AI w 21 (BS MW a (MX f b c d)) ([(a,Bb 8 0)]) [1,1,1,1,1,3] [] [] 1 490 2700 [0]
   (λe g h=>.done .next) (λe g h=>[(a,fi Ex [.int 8 0,.int 0 0,.int 1 0])]) 0:=by
 kernel_rfl
noncomputable abbrev Lb(a:Nat→Nat):=[a 12,a 13,a 14,a 15,a 16,a 17,a 18,a 19,a 20,a 21,a 22,a 23,a 24,a 25,a 26,a 27]
theorem pI(w:Aa)(T:List Nat→List Value):
  AI w 82 (.call (.ref 317) ⟨[],[]⟩) ([]) (dg 9 0x10e4f82e521c8999e5b8) (AE [(4,[0,1,2,3,4,5,7])] ([λa c g=>WG w.2 (tk a 0) (tk a 1) (tk a 2) (tk a 3) (tk a 4) (tk a 5) (tk a 7) (tk c 8) (λi=>tk c i) T])) [] 1 470 2500 [5]
   (λb d e=>.done (.ret (.ref (b 5)))) (λb d e=>[(b 5,li (T (Lb d)) 16)]) 28:=by
 kernel_rfl
noncomputable def JW(t:Nat→Nat)(n:Nat):List Value:=(List.range n).map λi=>.str (BX (EB.getD i [])) (t i)
noncomputable abbrev Cm(t:List Nat):List Value:=JW (λi=>t.getD i 0) 16
theorem WH{a:List Nat}{n x:Nat}(h:a.length=n):JW (λi=>(a++[x]).getD i 0) (n+1)=JW (λi=>a.getD i 0) n++[.str (BX (EB.getD n [])) x]:=by
 unfold JW;rw[Kb,BC];congr 1
 ·refine DU λi b=> ?_
  have:=List.mem_range.mp b;simp only[List.getD_eq_getElem?_getD,J6 (h▸this)]
 ·subst h
  (first|((repeat(first|exact .head _|apply List.mem_cons_of_mem));done)|simp)
theorem Ph(g:Nat→Nat): ∀a:List Int,AX (Pf a g) a
 |[]=>.nil
 |n::a=>.cons n _ (Ph g a)
theorem WI{w:Aa}{A:Al}(m:A.handled=none)(s:A.depth≤490)(t:A.units≤2700){f co cm cg od cd it y:Nat}{o:Nat→Nat}: ∀(k j:Nat),j+k=8→ ∀(a:List Nat) (b c:Option Value),a.length=2*j→
  RunsW w A (BS MW it (MX f co cm cg)) (Pg w f co cm cg od cd it y (2*j) o b c (JW (λi=>a.getD i 0) (2*j)) j) λr L g=>r= .ok .next∧g.length=2*k∧B5 λb c=>L=[(f,fr [Ad w Hx y (.ref cd)] 1),(co,Aw od),(cm,ce b),(cg,ce c),(od,MY o),(cd,li (Cm (a++g)) 16),(it,KD)]
 |0,j,h,a,b,c,u=>by
  obtain rfl:j=8:=h;refine Gj [(f,fr [Ad w Hx y (.ref cd)] 1),(co,Aw od),(cm,ce b),(cg,ce c),(od,MY o),(cd,li (Cm a) 16)] (L1:=[(it,Bb 8 0)]) (ED (l₁:=[(it,Bb 8 0)])) (Bf (pG w f co cm cg it) [] m s t AR Ar (Φ:=λr C g=>g=[]∧r= .ok .next∧C=[(it,KD)]) λv d G=>⟨rfl,rfl,rfl⟩) λr C g hz=> ?_;obtain⟨D,B,l⟩:=hz;exact⟨_,l▸ED (l₁:=[(it,_)]),B,D▸rfl,b,c,by rw[D,BV,l];rfl⟩
 |k+1,j,h,a,b,c,u=>by
  have E: ∀{x:Value} {F:List Value} {n:Nat},F.length≤16→Av w (CQ cd F n x):=λh=>EN (Ay h (by decide));have H:(JW (λi=>a.getD i 0) (2*j)).length=2*j:=(BY _).trans F9;refine EZ (pF w f co cm cg od cd it y (2*j) o b c _ j (by (first|lia|omega))) [36,56] m s t (AD _ _ (HD (HD (Ah (λ_ _ _=>ON (Ph _ _)) (Ah (λ_ _ _=>E (by (first|lia|omega))) AC)) (Vp (λ_ _ _ _=>Mb (Ph _ _) rfl) _)) (Ah (λ_ _ _=>ON (Ph _ _)) (Ah (λ_ _ _=>E (by rw[EX,H];refine (?_:2*j+1≤16);(first|lia|omega))) AC)))) Ar λv d G=> ?_;have l1:(a++[d 36]).length=2*j+1:=List.length_append.trans (Am (· +1) u);have e:=(WH (x:=d 56) l1).trans (Am (· ++_) (WH u));have z:=WI m s t k (j+1) (by (first|lia|omega)) (a++[d 36]++[d 56]) (some (.int j (d 0))) (some (.ref (v 2))) (List.length_append.trans (Am (· +1) l1)) (f:=f) (co:=co) (cm:=cm) (cg:=cg) (od:=od) (cd:=cd) (it:=it) (y:=y) (o:=o) (w:=w);have z:RunsW w A _ (Pg w f co cm cg od cd it y (2*j+1+1) o (some (.int j (d 0))) (some (.ref (v 2))) (JW (λi=>(a++[d 36]++[d 56]).getD i 0) (2*j+1+1)) (j+1)) _:=z;rw[e]at z;refine z.mono λr L g hz=> ?_;obtain⟨B,l,b,c,I⟩:=hz;exact⟨B,Am (· +1+1) l,b,c,by rw[I,Dr,Dr];rfl⟩
theorem pJ{w:Aa}{f a b c d e g y:Nat}{o:Nat→Nat}:Av w (WG w.2 f a b c d e g y o Cm):=by
 refine Ba.ext λA h i j=>(WI j h i 8 0 rfl [] none none rfl).mono λr L t hz=> ?_;obtain⟨k,l,m,n,s⟩:=hz;exact⟨[],[ce m,ce n,KD],rfl,l,rfl,k,s⟩
noncomputable def WJ:Ak:=
 {d:=470,u:=2500,h:=none,c:=.call (.ref 317) ⟨[],[]⟩,idx:=[],pre:=[],na:=1,nt:=16,r:=λa _=>.ok (.ret (.ref (a.getD 0 0))),outs:=λ_ _ _=>[],news:=λ_ t _=>[li (Cm t) 16]}
theorem pK{w:Aa}:Av w WJ:=by
 refine Ba.ext λA a b c=> ?_;exact Bf (pI w Cm) [12,13,14,15,16,17,18,19,20,21,22,23,24,25,26,27] c a b (AD _ _ (Ah (λ_ _ _=>pJ) AC)) Ar λd e g=>⟨[d 5],[],rfl,rfl,rfl,rfl,rfl⟩
theorem pL(w:Aa)(a n:Nat)(c:List Value):
  AI w 18 (.call (.builtin LZ) ⟨[.ref a],[]⟩) ([(a,li c n)]) [1,1,1,1,2] [] [] 1 620 4000 [0,1,2]
   (λb d e=>.again (.builtin T9 ⟨[.ref (b 0),.ref (b 1),rawInt 0,rawInt 0],[]⟩)) (λb d e=>[(a,li c n),(b 0,fi Bo [.ref a,.int 0 0]),(b 1,li [Bu (d 0)] 0)]) 1:=by
 kernel_rfl
theorem WK{c:List Value}{b:List Int}(h:AX c b): ∀i (a:i<b.length),∃t,c[i]? =some (.int b[i] t):=by
 induction h with
 |nil=>intro i a;simp at a
 |cons n t _ d=>
  intro i a;cases i with
  |zero=>exact⟨t,rfl⟩
  |succ i=>exact d i (by simpa using a)
theorem pN{w:Aa}{A:Al}{R:Result→Ab→Prop}(O:A.in1.handled=none)(P:A.in1.depth≤520)(T:A.in1.units≤3000){j a S n:Nat}{d:List Value}{c:List Int}(U:AX d c):
  ∀(k i:Nat),i+k=c.length→ ∀(b:Int) (t kk:Nat) (l:Int) (s:Ab),l=0∨l=2→An (kt w) s [(j,liO a i),(a,li d n),(S,li [.int b t] kk)]→
  (∀v G,Ag (kt w) s v [(j,liO a i),(a,li d n),(S,li [.int b t] kk)] [(a,li d n)]→R (.ok (.ret (.int (b+(c.drop i).sum) G))) v)→
  codeAny (model pw w) A (.builtin "sum.loop" ⟨[.ref j,.ref S,rawInt l,rawInt 0],[]⟩) R s:=by
 intro k
 induction k with
 |zero=>
  intro i V b t kk l s W St M;obtain rfl:i=c.length:=by (first|lia|omega)
  have hS:=St.mem (S,li [.int b t] kk) (by (first|((repeat(first|exact .head _|apply List.mem_cons_of_mem));done)|simp));refine EG F.entry_sum_loop ?_;rw[EE F.plain_sum_loop _];refine (?_:wpAny _ A.in1 (seqItems? (.ref S)>>=_) _ _ s);refine Af (C1 hS rfl ?_);refine (?_:wpAny _ A.in1 (tryCatch (pyNext (.ref j)) _>>=_) _ _ s);refine Af (wpAny_tryCatch (O8 O P T (i:=c.length) (n:=n) (vs:=d) (rs:=a) (by rw[Je];rw[G0 U];exact A7 _) (F:=[(S,li [.int b t] kk)]) (by exact AW _) St λs1 o=> ?_));refine Aq ?_;have m:Ag (kt w) s s1 [(j,liO a c.length),(a,li d n),(S,li [.int b t] kk)] [(a,li d n)]:=o.subs (by exact(List.Sublist.cons_cons _ (List.nil_sublist _)).cons _);have:=M s1 t m;rwa[List.drop_length,List.sum_nil,Int.add_zero]at this
 |succ k ih=>
  intro i V b t kk l s W St M;have L:i<c.length:=by (first|lia|omega)
  obtain⟨u,hv⟩:=WK U i L;have hS:=St.mem (S,li [.int b t] kk) (by (first|((repeat(first|exact .head _|apply List.mem_cons_of_mem));done)|simp));have N:(c.drop i).sum=c[i]+(c.drop (i+1)).sum:=by rw[NA L,List.sum_cons]
  have X: ∀(s1:Ab) (g:Int) (G H:Nat),g=0∨g=2→Ag (kt w) s s1 [(j,liO a i),(a,li d n),(S,li [.int b t] kk)] [(j,liO a (i+1)),(a,li d n),(S,li [.int (b+c[i]) G] H)]→
    codeAny (model pw w) A (.builtin "sum.loop" ⟨[.ref j,.ref S,rawInt g,rawInt 0],[]⟩) R s1:=λs1 g G H h J=>
   ih (i+1) (by (first|lia|omega)) (b+c[i]) G H g s1 h J.sat λs2 C m=>by
    have:=M s2 C (J.trans m);rwa[N,←Int.add_assoc]at this
  have put: ∀{s1:Ab} {z:Int} {I C D:Nat} {Q:Unit→Ab→Prop} {E:Value→Ab→Prop},An (kt w) s1 [(j,liO a (i+1)),(a,li d n),(S,li [.int z I] D)]→ ∀K:Int,(∀s2,Ag (kt w) s1 s2 [(j,liO a (i+1)),(a,li d n),(S,li [.int z I] D)] [(j,liO a (i+1)),(a,li d n),(S,li [.int K C] D)]→Q () s2)→
    wpAny (model pw w) A.in1 (updateSeq S (λ_=> #[.int K C])) Q E s1:=λ {s1 z I C D Q E} Y K h=>by
   have Z:=Y.mem (S,li [.int z I] D) (by (first|((repeat(first|exact .head _|apply List.mem_cons_of_mem));done)|simp));have J:=Y.set (i:=2) rfl (f:=Obj.mapSeq λ_=> #[.int K C]) (p:=(S,li [.int z I] D)) rfl;exact wpAny_updateSeq Z rfl (h _ J)
  refine EG F.entry_sum_loop ?_;rw[EE F.plain_sum_loop _];refine (?_:wpAny _ A.in1 (seqItems? (.ref S)>>=_) _ _ s);refine Af (C1 hS rfl ?_);refine (?_:wpAny _ A.in1 (tryCatch (pyNext (.ref j)) _>>=_) _ _ s);refine Af (wpAny_tryCatch (MK O P T (i:=i) (n:=n) (vs:=d) (rs:=a) hv (F:=[(S,li [.int b t] kk)]) (by exact AW _) St λs1 o=> ?_));have o:Ag (kt w) s s1 [(j,liO a i),(a,li d n),(S,li [.int b t] kk)] [(j,liO a (i+1)),(a,li d n),(S,li [.int b t] kk)]:=o;have y:wpAny (model pw w) A.in1 ((holding [.int c[i] u] (binaryOp .Add (.int b t) (.int c[i] u))).attempt>>=λr=>match r with
    | .ok r=>updateSeq S (λ_=> #[r])>>=λ_=>letGo [.int b t,.int c[i] u]>>=λ_=>updateSeq S (λ_=> #[r])>>=λ_=>again (.builtin "sum.loop" ⟨[.ref j,.ref S,rawInt 2,rawInt 0],[]⟩)
    | .error e=>updateSeq S (λ_=> #[])>>=λ_=>letGo [.int b t,.int c[i] u] [e]>>=λ_=>throw e) (λfin v=>match fin with| .done f=>R (.ok f) v| .again c'=>c'.quiet=true∧codeAny (model pw w) A c' R v) (λe v=>R (.error e) v) s1:=by
   refine Af (wpAny_attempt (Di (wpAny_add_int ?_)));dsimp only;have m:=o.trans o.sat.tok;refine Af (put m.sat (b+c[i]) λs2 B=> ?_);refine Af (wpAny_letGo ?_);refine Af (put B.sat (b+c[i]) λs3 aa=> ?_);exact Aq ⟨plainId_quiet F.plain_sum_loop _,X _ 2 _ _ (.inr rfl) ((m.trans B).trans aa)⟩
  refine wpAny_ite_split (λ_=>y) (λ_=> ?_);refine wpAny_ite_split (λ_=> ?_) (λ_=>Af (FH y));refine Af (wpAny_mkInt ?_);have m:=o.trans o.sat.tok;refine Af (put m.sat (b+c[i]) λs2 B=> ?_);exact Aq ⟨plainId_quiet F.plain_sum_loop _,X _ 0 _ _ (.inl rfl) (m.trans B)⟩
noncomputable def RP(a n:Nat)(b:List Value)(z:Int):Ak:=
 {d:=510,u:=2900,h:=none,c:=.call (.builtin LZ) ⟨[.ref a],[]⟩,idx:=[],pre:=[(a,li b n)],na:=0,nt:=0,no:=1,r:=λ_ _=>.ok .next,rx:=λo _=>.ok (.ret (.int z (Ao o 0))),outs:=λ_ _ _=>[li b n],news:=λ_ _ _=>[]}
theorem WL{w:Aa}{a n:Nat}{b:List Value}{d:List Int}(k:AX b d){z:Int}(hz:d.sum=z):Av w (RP a n b z):=by
 refine Ba.ext λA g h i=> ?_;refine EZ (pL w a n b) [] i (Ay g (show 510≤620 by decide)) (Ay h (show 2900≤4000 by decide)) AR Ar λc e m=>λs S=> ?_;have p:([(a,li b n),(c 0,fi Bo [.ref a,.int 0 0]),(c 1,li [Bu (e 0)] 0)]:Ae).Perm [(c 0,liO a 0),(a,li b n),(c 1,li [.int 0 (e 0)] 0)]:=List.Perm.swap _ _ _;rw[qO];refine pN (w:=w) (A:=A) (n:=n) (a:=a) i (Ay (show A.in1.depth≤510 from g) (by decide)) (Ay (JS h) (show 2900+1≤3000 by decide)) k d.length 0 (by (first|lia|omega)) 0 (e 0) 0 0 s (.inl rfl) (S.perm p) λo l j=> ?_;rw[List.drop_zero,Int.zero_add,hz]at*;exact⟨_,[],⟨[],[Ac l],rfl,rfl,rfl,rfl,rfl⟩,j.permL p.symm,j.toks⟩
noncomputable abbrev RR:Expr:=sk (AB (AN (DX 22)) 0) 0 []
noncomputable abbrev Na:=[108,97,119,46,60,108,111,99,97,108,115,62,46]
noncomputable abbrev WM(f a b:Nat):Env:={scope:={Fq RR with names:=[(Hw,.local),(DC,.local),(HB,.globalImplicit),(P7,.cell)]},locals:=b,globals:=3,cells:=[(P7,a)],qual:=⟨⟨Na⟩⟩,func:=none,code:=.ref 331,frame:=some f,builtins:=0}
noncomputable abbrev RS(f b c d a:Nat):Code:=.compLoop RR 0 (.ref d) (.ref a) (WM f b c)
theorem pO(w:Aa)(f h e a j g i n m t v r:Nat)(y z:Int)(s u k:List Value)(b q:Bool):
  AI w 49 (RS f h j e a) ([(h,Aw g),(g,li s r),(e,Bb i (n+1)),(a,li k m),(j,Gm w.2 t v y b)]) ([3,0,5,5,0,0,1,5,2,2,2,1]++cond q [5] []) (AE ([(0,[2]),(0,[1,5]),(0,[6])]++cond q [(2,[3])] []) ([λd c l=>Fu e i n,λd c l=>ET g (tk d 0) s r (.int i (tk c 0)) .none (.int 8 (tk c 2)) u,λd c l=>RP (tk d 1) 0 u z]++cond q [λd c l=>CQ a k m (.int i (tk c 0))] [])) (Bh [1] [λd c l=>(.bool (decide (z.fmod 2=1)),.bool q)]) 0 480 2600 (.range 5)
   (λA o B=>.again (RS f h j e a)) (λA o B=>[(h,Aw g),(g,li s r),(e,Bb (i+1) n),(a,li (cond q (k++[.int i (o 0)]) k) (cond q (m+1) m)),(j,Gm w.2 (cond b t (o 1)) (o 0) i true)]) 6:=by
 revert b q;exact P2 (by kernel_rfl)
theorem pP(w:Aa)(f c a b d i:Nat):
  AI w 20 (RS f c d a b) ([(a,Bb i 0)]) [1,1,1,1,1,3] [] [] 0 480 2600 [0]
   (λe g h=>.done .next) (λe g h=>[(a,OF i)]) 0:=by
 kernel_rfl
structure RT(xs:List Value)(Y:Nat→List Value)(Z:Nat→Int)(p:Nat→Bool):Prop where
 le:xs.length≤1000
 nums: ∀i,i<8→ ∃ms,AX (Y i) ms∧ms.sum=Z i
 pick: ∀i:Nat,i<8→slicePick ⟨xs⟩ (some (i:Int)) none (some 8)=⟨Y i⟩
 odd: ∀i,i<8→decide ((Z i).fmod 2=1)=p i
noncomputable abbrev WN(P:Aj)(f a e b c d g:Nat)(h:List Value)(p:Nat→Bool):Ak:=
 OR [(a,Aw d),(d,li h g)] e b c p P 480 2600 RR (WM f a c)
theorem pQ{w:Aa}{f b c a d k l:Nat}{g:List Value}{Y:Nat→List Value}{Z:Nat→Int}{p:Nat→Bool}(H:RT g Y Z p):Av w (WN w.2 f b c a d k l g p):=by
 refine QI (by kernel_rfl) λA o r s=>⟨Bf (pP w f b c a d 8) [] o r s AR Ar λu h v=>⟨rfl,rfl⟩,λF i n m y z B e C t D K=> ?_⟩
 have j:i<8:=CM (GF i n) t;obtain⟨G,E,hz⟩:=H.nums i j;exact EZ (pO w f b c a d k i n m y z l B (Z i) g (Y i) C e (p i)) [] o r s (AD _ _ (HD (Ah (λ_ _ _=>JH t) (Ah (λ_ _ _=>H3 (.int _ _) .none (.int 8 _) (by decide) H.le (H.pick i j)) (Ah (λ_ _ _=>WL E hz) AC))) (OO (Ah (λ_ _ _=>EN (Ay D (by decide))) AC))))
  (Bi _ _ (Az (λ_ _ _=>Am Value.bool (H.odd i j)) Bp)) λu h v=>K (h 0) (h 1)
theorem pS: ∀{a:List Value},(∀v∈a,B5 λn t=>v= .int n t)→ ∃b,AX a b:=by
 intro a
 induction a with
 |nil=>exact λ_=>⟨[],.nil⟩
 |cons v a c=>
  intro h;obtain⟨n,t,rfl⟩:=h v Bj;obtain⟨b,d⟩:=c λw e=>h w (BB _ e);exact⟨n::b,.cons n t d⟩
theorem pU{a:List Value}{d e g:Option Int}: ∀v∈(slicePick ⟨a⟩ d e g).toList,v∈a:=by
 intro v b;unfold slicePick at b;dsimp only at b;obtain⟨j,_,c⟩:=List.mem_filterMap.mp b;have c:a[j]? =some v:=by simpa using c
 exact List.mem_of_getElem? c
theorem pV{a:List Value}{c:List Int}(h:AX a c)(j:c.length≤63):Ei λY Z p=>RT a Y Z p:=by
 classical
 have d: ∀v∈a,B5 λn t=>v=Value.int n t:=Qi h;have b: ∀i:Nat,∃e,AX (slicePick ⟨a⟩ (some (i:Int)) none (some 8)).toList e:=λi=>pS λv g=>d v (pU v g);refine⟨λi=>(slicePick ⟨a⟩ (some (i:Int)) none (some 8)).toList,λi=>(Classical.choose (b i)).sum,λi=>decide ((Classical.choose (b i)).sum.fmod 2=1),?_,λi _=>⟨_,Classical.choose_spec (b i),rfl⟩,λi _=>by (first|((repeat(first|exact .head _|apply List.mem_cons_of_mem));done)|simp),λi _=>rfl⟩;rw[G0 h];(first|lia|omega)
set_option maxHeartbeats 4000000
noncomputable abbrev Pi:List Stmt:=AN (DX 22)
noncomputable abbrev lw(i:Nat):Stmt:=AB Pi i
noncomputable abbrev Bv(f a b:Nat):Env:={scope:=EH (DX 22),locals:=f,globals:=3,cells:=[(GO,b),(P7,a)],qual:=⟨⟨Na⟩⟩,func:=some 332,code:=.ref 331,frame:=some f,builtins:=0}
noncomputable def trw0(f a b:Nat):Sem AA:=execs [lw 0,lw 1,lw 2,lw 3,lw 4,lw 5] (Bv f a b)>>=λv=>pure (.done v)
noncomputable def trwL(f a b:Nat):Sem AA:=eval (A9 (Br (sk (lw 6) 0 [])) 1) (Bv f a b)>>=λv=>pure (.done (.ret v))
noncomputable def trw6(f a b:Nat):Sem AA:=exec (lw 6) (Bv f a b)>>=λv=>pure (.done v)
noncomputable def trw7(f a b:Nat):Sem AA:=execs [lw 7,lw 8] (Bv f a b)>>=λv=>pure (.done v)
lay_quick trw0 trwL trw6 trw7
set_option maxHeartbeats 400000
noncomputable abbrev I4(a:Nat→Nat)(b c d e f g h i:Nat):=(a 49,li [.ref b,.ref c,.ref d,.ref e,.ref f,.ref g,.ref h,.ref i] 0)
noncomputable abbrev Cq(a:Nat):Value:=(.int 7 a)
noncomputable abbrev Cr(a:Nat):Value:=(.int 6 a)
noncomputable abbrev Cs(a:Nat):Value:=(.int 5 a)
noncomputable abbrev Ct(a:Nat):Value:=(.int 4 a)
noncomputable abbrev Cu(a:Nat):Value:=(.int 3 a)
noncomputable abbrev Cv(a:Nat):Value:=(.int 2 a)
theorem pW(w:Aa)(g n m tp:Nat)(c:List Value):
  AI w 2240 (.call (.ref 322) ⟨[.ref g,.int 0 tp],[]⟩) ([(g,li c n)]) (rl 816 0x7dba6e14f7705ba8578b71c47e74ca439cd5dc5bafc6555541936af8933aba403c00a9775bc619938b9db32729e822f2cfda6763a747a05a5596016445612428b2da846f360b297b32cb0754f6312a3d25b428ee4a96d941a7ceee90fa7d50bafca59ecfba76510098ca7e785d4fb42c4a3dfdf13ca88263c1cbe6bab0db47adf42f57662779793f3f2b29fbbc69b7fd1750ef7600c01d03a10b41ec200b840271a45b36af6fd67a14891796d3529822d38752337d8a44e454ae2d5115b111089dac0080380dda97c4e85eec700d169d0776ade46af57240cdab25077fad8b0756b29ba544945ed9ea247513655f8a1d29adf7faff17e7ddf783bce5c1b36f3c9f7bb64fdd48bc46868cb85299299655b0823001f525a553b6b5ff37d8fa34676ab68c6c2fca24aa8074d046a396de5e78322e8ef2ace18c87e78a52278df467c216265282556aa7c74f2ec4675c735005502ccb72fe291) (AE [(0,[0])] ([λd e h=>Dd g c n m])) (Bh [1] [λd e h=>(.bool (decide ((m:Int).fmod 2=1)),.bool true)]) 1 470 2500 [0,50,48,13,14,15,20,21,26,27]
   (λb a i=>.done (.ret (.ref (b 49)))) (λb a i=>[(g,li c n),I4 b (b 47) (b 12) (b 13) (b 14) (b 19) (b 20) (b 25) (b 26),(b 47,li [.int 0 tp] 0),(b 12,li [Dk (a 42),Cv (a 48),Cu (a 53)] 0),(b 13,li [Dk (a 42),Ct (a 58),Cs (a 63)] 0),(b 14,li [Dk (a 42),Cr (a 68),Cq (a 73)] 0),(b 19,li [Cv (a 78),Ct (a 88),Cr (a 93)] 0),(b 20,li [Cv (a 78),Cs (a 94),Cq (a 99)] 0),(b 25,li [Cu (a 108),Ct (a 114),Cq (a 119)] 0),(b 26,li [Cu (a 108),Cs (a 120),Cr (a 125)] 0)]) 183:=by
 kernel_rfl
theorem pX(w:Aa)(g n m tp:Nat)(c:List Value):
  AI w 2240 (.call (.ref 322) ⟨[.ref g,.int 1 tp],[]⟩) ([(g,li c n)]) (rl 816 0x7dba6e14f7705ba8578b71c47e74ca439cd5dc5bafc6555541936af8933aba403c00a9775bc619938b9a94b26f4bdfc115dc9b775d19da2947914f7025bf1ba0332ec1c8ec5745a0f94c2d3ee752e332136e25e1d41089e9d5382bc6a4bc824bd25af8a759d52e9b5386d5388581eb4e8281c592de5bab3c8add07db92a5ec78ea3e720c5895f8ddce56bac17c84eedc28d27233178b2b4f2169559bf5366b398271b99270e6da6f65fdc3bf8b83e88fd510f1d343a644f97e03f8d8877b8d5c2c8d1ad97888c9058f006043ca3476e3f844efb409ddb6addd44acf90f8a4f2cc0894a8997e22b61c4ce78a39ad1522322bdb79ee89eabdc9ed2fa93468686612f7bb64fdd48bc46868cb85299299655b0823001f525a553b6b5ff37d8fa34676ab68c6c2fca24aa8074d046a396de5e78322e8ef2ace18c87e78a52278df467c216265282556aa7c74f2ec4675c735005502ccb72fe291) (AE [(0,[0])] ([λd e h=>Dd g c n m])) (Bh [1] [λd e h=>(.bool (decide ((m:Int).fmod 2=1)),.bool true)]) 1 470 2500 [0,50,48,9,10,11,20,21,26,27]
   (λb a i=>.done (.ret (.ref (b 49)))) (λb a i=>[(g,li c n),I4 b (b 47) (b 8) (b 9) (b 10) (b 19) (b 20) (b 25) (b 26),(b 47,li [.int 1 tp] 0),(b 8,li [Bu (a 8),Cv (a 18),Cu (a 23)] 0),(b 9,li [Bu (a 8),Ct (a 28),Cs (a 33)] 0),(b 10,li [Bu (a 8),Cr (a 38),Cq (a 43)] 0),(b 19,li [Cv (a 78),Ct (a 88),Cq (a 93)] 0),(b 20,li [Cv (a 78),Cs (a 94),Cr (a 99)] 0),(b 25,li [Cu (a 108),Ct (a 114),Cr (a 119)] 0),(b 26,li [Cu (a 108),Cs (a 120),Cq (a 125)] 0)]) 183:=by
 kernel_rfl
theorem pY(w:Aa)(g n m tp:Nat)(c:List Value):
  AI w 2240 (.call (.ref 322) ⟨[.ref g,.int 2 tp],[]⟩) ([(g,li c n)]) (rl 816 0x7dba6e14f7705ba8578b71c47e74ca439cd5dc5bafc6555541936af8933aba403c00a9735980c5e8626ef836552e20323fa2993dc036a8b0f619d0c145021e127238ddfad4a4d37e12ab57e250137e6aaecf735419dbfe588c65a3c152e622d4403de6e528c735e89bfedfb79200aa055b836e6dbd19041020202621b76c88cccc4f3697cf280f6cc17d2da30a8d91f5cb396626eafc7eb96de35c7b85fc24938b7d590e47b8c8d8023fe7cef5299366ac1cc6202e0766cd192791c58d5803d3d31d1272324ed0bc3d03d97f1e9175b372e2d1414f48084a65ceb64b32ba19bfce347e1987632b10ae0bbea8596b3e71872bb84a15ba9ea926ea88f4c89b744cf41be6eeac6b6004bbfd59b4e739a8d29293b254d04bdac8b9ef374e20b099e19bc845013976d4aa8074d046a396de5e78322e8ef2ace18c87e78a52278df467c216265282556aa7c74f2ec4675c735005502ccb72fe291) (AE [(0,[0])] ([λd e h=>Dd g c n m])) (Bh [1] [λd e h=>(.bool (decide ((m:Int).fmod 2=1)),.bool true)]) 1 470 2500 [0,50,48,9,10,11,16,17,26,27]
   (λb a i=>.done (.ret (.ref (b 49)))) (λb a i=>[(g,li c n),I4 b (b 47) (b 8) (b 9) (b 10) (b 15) (b 16) (b 25) (b 26),(b 47,li [.int 2 tp] 0),(b 8,li [Bu (a 8),Dk (a 14),Cu (a 19)] 0),(b 9,li [Bu (a 8),Ct (a 28),Cr (a 33)] 0),(b 10,li [Bu (a 8),Cs (a 34),Cq (a 39)] 0),(b 15,li [Dk (a 48),Ct (a 62),Cq (a 67)] 0),(b 16,li [Dk (a 48),Cs (a 68),Cr (a 73)] 0),(b 25,li [Cu (a 108),Ct (a 114),Cs (a 119)] 0),(b 26,li [Cu (a 108),Cr (a 124),Cq (a 129)] 0)]) 183:=by
 kernel_rfl
theorem rA(w:Aa)(g n m tp:Nat)(c:List Value):
  AI w 2240 (.call (.ref 322) ⟨[.ref g,.int 3 tp],[]⟩) ([(g,li c n)]) (rl 816 0x7dba6e14f7705ba8578b71c47e74ca439cd5dc5bafc6555541936af8933aba403c00a9735980c5e8626ef836552e20323fa2993dc036a8b0f619d0c145021e127238ddfad4a4d37e12ab57e250137e6aaecf735419dbfe588c65a3c152e622d4403de6e528c735e89bfedfb79200aa055b836e6dbd19041020202621b76c88cccc4f3697cf280f6cc17d2da30a8d91f5cb396626eafc7eb96de35c7b85fc24938b7d590e47b8c8814ef47547eb3a1f14afebe4ebcb8601028f382a19c3e139852017ca508ef550b87735647c4a9dad4f8824822b9c685e7a1bf34bbbde3a55ecc254a96d428831c2109a8326f333cb1c3da19487e8f4202f9aa62eb333eeb6c87fd0000fdb9634a5836f08f046970c0ab0daa12837e355d0f03d54f502947ccc15f34cb38f773a2a6274d046a396de5e78322e8ef2ace18c87e78a52278df467c216265282556aa7c74f2ec4675c735005502ccb72fe291) (AE [(0,[0])] ([λd e h=>Dd g c n m])) (Bh [1] [λd e h=>(.bool (decide ((m:Int).fmod 2=1)),.bool true)]) 1 470 2500 [0,50,48,9,10,11,16,17,22,23]
   (λb a i=>.done (.ret (.ref (b 49)))) (λb a i=>[(g,li c n),I4 b (b 47) (b 8) (b 9) (b 10) (b 15) (b 16) (b 21) (b 22),(b 47,li [.int 3 tp] 0),(b 8,li [Bu (a 8),Dk (a 14),Cv (a 19)] 0),(b 9,li [Bu (a 8),Ct (a 28),Cq (a 33)] 0),(b 10,li [Bu (a 8),Cs (a 34),Cr (a 39)] 0),(b 15,li [Dk (a 48),Ct (a 62),Cr (a 67)] 0),(b 16,li [Dk (a 48),Cs (a 68),Cq (a 73)] 0),(b 21,li [Cv (a 82),Ct (a 92),Cs (a 97)] 0),(b 22,li [Cv (a 82),Cr (a 102),Cq (a 107)] 0)]) 183:=by
 kernel_rfl
theorem rB(w:Aa)(g n m tp:Nat)(c:List Value):
  AI w 2240 (.call (.ref 322) ⟨[.ref g,.int 4 tp],[]⟩) ([(g,li c n)]) (rl 816 0x7dba6e14f7705ba8578b71c47e74ca439cd5dc5bafc6555541936af8933aba403c00a9735980c5e8626ef83655157895552d8fa114f27782dc13a8d3f4714a324c3da7b5b0926e48038100c200cbdb4c205199aa9adf597a515562206f9495b434c4af125ac9f5dcc66d27465d6f46edabc673712d770f1b0e059850991ac6a5479ea4e2dd1e8b9946bd546f209866bd98a9b4e3570682aa68a062251994f01fe37ec8c76ff8180e281bee4ec19315659ef7bb91cd9bd1d9e77765c44740feaece132af01ab9afdafbab5cb07d34b36d09546959797e4b0df2b02a7fa71c8f57e0f276aafe2fc81725a5727f57fa3728561b8daa06f63a793f15093e7790bef4af62ce6b0cdd55cfc8c126a43dc02c64e7abe3bacaedc48814f2195e3dcb3946c120ef84ba0b074a426a7099f8fec02f836482a2721f78160a203b4552fc2d0d9166265282556aa7c74f2ec4675c735005502ccb72fe291) (AE [(0,[0])] ([λd e h=>Dd g c n m])) (Bh [1] [λd e h=>(.bool (decide ((m:Int).fmod 2=1)),.bool true)]) 1 470 2500 [0,50,48,9,10,11,16,17,22,35]
   (λb a i=>.done (.ret (.ref (b 49)))) (λb a i=>[(g,li c n),I4 b (b 47) (b 8) (b 9) (b 10) (b 15) (b 16) (b 21) (b 34),(b 47,li [.int 4 tp] 0),(b 8,li [Bu (a 8),Dk (a 14),Cs (a 19)] 0),(b 9,li [Bu (a 8),Cv (a 20),Cr (a 25)] 0),(b 10,li [Bu (a 8),Cu (a 26),Cq (a 31)] 0),(b 15,li [Dk (a 48),Cv (a 54),Cq (a 59)] 0),(b 16,li [Dk (a 48),Cu (a 60),Cr (a 65)] 0),(b 21,li [Cv (a 82),Cu (a 88),Cs (a 93)] 0),(b 34,li [Cs (a 150),Cr (a 156),Cq (a 161)] 0)]) 183:=by
 kernel_rfl
theorem rC(w:Aa)(g n m tp:Nat)(c:List Value):
  AI w 2240 (.call (.ref 322) ⟨[.ref g,.int 5 tp],[]⟩) ([(g,li c n)]) (rl 816 0x7dba6e14f7705ba8578b71c47e74ca439cd5dc5bafc6555541936af8933aba403c00a9735980c5e8626ef83655157895552d8fa114f27782dc13a8d3f4714a324c3da7b5b0926e48038100c200cbdb4c205199aa9adf597a515562206f9495b434c4af125ac9f5dcc66d27465d6f46edabc673712d770f1b0e059850991ac6a5479ea4e2dd1e8b9946bd546f209866bd98a9b4e3570682aa68a062251994f01fe37ec8c76ff8180e281bee4ec19315659ef7bb91cd9bd1d9e77765c44740feaece132af01ab9afdafbab5cb07d34b36d09546959797e4b0df2b02a7fa71c8f57e0f276aafe2fc81725a5727f57fa3728561b8daa06f63a793f15093e779057ac4058c27d6151a91d7333cc2ed3e0d97aff651c0fe53f6494f32e2ee3c23a3b8665c385574ae4db38753e190b0ca411f2d732f6c4d179b18c87e78a52278df467c216265282556aa7c74f2ec4675c735005502ccb72fe291) (AE [(0,[0])] ([λd e h=>Dd g c n m])) (Bh [1] [λd e h=>(.bool (decide ((m:Int).fmod 2=1)),.bool true)]) 1 470 2500 [0,50,48,9,10,11,16,17,22,31]
   (λb a i=>.done (.ret (.ref (b 49)))) (λb a i=>[(g,li c n),I4 b (b 47) (b 8) (b 9) (b 10) (b 15) (b 16) (b 21) (b 30),(b 47,li [.int 5 tp] 0),(b 8,li [Bu (a 8),Dk (a 14),Ct (a 19)] 0),(b 9,li [Bu (a 8),Cv (a 20),Cq (a 25)] 0),(b 10,li [Bu (a 8),Cu (a 26),Cr (a 31)] 0),(b 15,li [Dk (a 48),Cv (a 54),Cr (a 59)] 0),(b 16,li [Dk (a 48),Cu (a 60),Cq (a 65)] 0),(b 21,li [Cv (a 82),Cu (a 88),Ct (a 93)] 0),(b 30,li [Ct (a 132),Cr (a 142),Cq (a 147)] 0)]) 183:=by
 kernel_rfl
noncomputable abbrev WO:=(rl 816 0x7dba6e14f7705ba8578b71c47e74ca439cd5dc5bafc6555541936af8933aba403c00a9735980c5e8626ef83655157895552d8fa114f27782dc13a8d3f4714a324c3da7b5b0926e48038100c200cbdb4c205199aa9adf597a515562206f9495b434c4af125ac9f5dcc66d27465d6f46edabc673712d770f1b0e059850991ac6a5479ea4e2dd1e8b9946bd546f209866bd98a9b4e3570682aa68a062251994f01fe37ec8c76ff8180e281bee4ec19315659ef7bb91cd9bd1d9e77765c44740feaece132af01ab9afdafbab5cb07d34b36d09546959797e4b0df2b02a7fa71c8f57e0f276aafe2fc81725a5727f57fa3728561b8daa06f63a78ba54a36f9eca2f53c3cbaee4ae57aa3c306ef19878f13375251d4dca82a7a03b6d4b6de29ab44bd194d6093af45447143736548057c94b957689d743d179b18c87e78a52278df467c216265282556aa7c74f2ec4675c735005502ccb72fe291)
theorem rD(w:Aa)(g n m tp:Nat)(c:List Value):
  AI w 2240 (.call (.ref 322) ⟨[.ref g,.int 6 tp],[]⟩) ([(g,li c n)]) WO (AE [(0,[0])] ([λd e h=>Dd g c n m])) (Bh [1] [λd e h=>(.bool (decide ((m:Int).fmod 2=1)),.bool true)]) 1 470 2500 [0,50,48,9,10,11,16,17,22,31]
   (λb a i=>.done (.ret (.ref (b 49)))) (λb a i=>[(g,li c n),I4 b (b 47) (b 8) (b 9) (b 10) (b 15) (b 16) (b 21) (b 30),(b 47,li [.int 6 tp] 0),(b 8,li [Bu (a 8),Dk (a 14),Cq (a 19)] 0),(b 9,li [Bu (a 8),Cv (a 20),Ct (a 25)] 0),(b 10,li [Bu (a 8),Cu (a 26),Cs (a 31)] 0),(b 15,li [Dk (a 48),Cv (a 54),Cs (a 59)] 0),(b 16,li [Dk (a 48),Cu (a 60),Ct (a 65)] 0),(b 21,li [Cv (a 82),Cu (a 88),Cq (a 93)] 0),(b 30,li [Ct (a 132),Cs (a 138),Cq (a 143)] 0)]) 183:=by
 kernel_rfl
theorem rE(w:Aa)(g n m tp:Nat)(c:List Value):
  AI w 2240 (.call (.ref 322) ⟨[.ref g,.int 7 tp],[]⟩) ([(g,li c n)]) WO (AE [(0,[0])] ([λd e h=>Dd g c n m])) (Bh [1] [λd e h=>(.bool (decide ((m:Int).fmod 2=1)),.bool true)]) 1 470 2500 [0,50,48,9,10,11,16,17,22,31]
   (λb a i=>.done (.ret (.ref (b 49)))) (λb a i=>[(g,li c n),I4 b (b 47) (b 8) (b 9) (b 10) (b 15) (b 16) (b 21) (b 30),(b 47,li [.int 7 tp] 0),(b 8,li [Bu (a 8),Dk (a 14),Cr (a 19)] 0),(b 9,li [Bu (a 8),Cv (a 20),Cs (a 25)] 0),(b 10,li [Bu (a 8),Cu (a 26),Ct (a 31)] 0),(b 15,li [Dk (a 48),Cv (a 54),Ct (a 59)] 0),(b 16,li [Dk (a 48),Cu (a 60),Cs (a 65)] 0),(b 21,li [Cv (a 82),Cu (a 88),Cr (a 93)] 0),(b 30,li [Ct (a 132),Cs (a 138),Cr (a 143)] 0)]) 183:=by
 kernel_rfl
theorem rF(w:Aa)(g n m tp:Nat)(b:List Value):
  AI w 54 (.call (.ref 322) ⟨[.ref g,.int 0 tp],[]⟩) ([(g,li b n)]) (dg 4 1085214877) (AE [(0,[0])] ([λc d e=>Dd g b n m])) (Bh [1] [λc d e=>(.bool (decide ((m:Int).fmod 2=1)),.bool false)]) 1 470 2500 [0,4,3]
   (λa h i=>.done (.ret (.ref (a 3)))) (λa h i=>[(g,li b n),(a 3,li [.ref (a 2)] 0),(a 2,li [] 0)]) 6:=by
 kernel_rfl
noncomputable abbrev rG(a:Nat→Nat)(b c d e:Nat):=(a 4,li [.ref b,.ref c,.ref d,.ref e] 4)
noncomputable abbrev JX(a:Nat)(b:List Value)(c:Nat)(d:Nat→Nat)(e f g h i:Nat)(j k l m n o p:Value):=[(a,li b c),rG d e f g h,(d 6,li [Bu i,j] 0),(d 7,li [k,l] 0),(d 8,li [m,n] 0),(d 9,li [o,p] 0)]
theorem rH(w:Aa)(g n m tp:Nat)(c:List Value):
  AI w 493 (.call (.ref 322) ⟨[.ref g,.int 1 tp],[]⟩) ([(g,li c n)]) (rl 224 0x51242948748ddc68eff330634ffec6c15d6e76ed5826d1b2d9ad26b59500d07fb02cee80e0b0b4974f5c317981aa655253e89e5cfc84afcfb83339ae1a703b221785cb54b53) (AE [(0,[0])] ([λd e h=>Dd g c n m])) (Bh [1] [λd e h=>(.bool (decide ((m:Int).fmod 2=1)),.bool false)]) 1 470 2500 [0,5,7,8,9,10]
   (λb a i=>.done (.ret (.ref (b 4)))) (λb a i=>(JX g c n b (b 6) (b 7) (b 8) (b 9) (a 9) (.int 1 (a 12)) (Cv (a 16)) (Cu (a 19)) (Ct (a 23)) (Cs (a 26)) (Cr (a 30)) (Cq (a 33)))) 37:=by
 kernel_rfl
theorem rI(w:Aa)(g n m tp:Nat)(c:List Value):
  AI w 493 (.call (.ref 322) ⟨[.ref g,.int 2 tp],[]⟩) ([(g,li c n)]) (rl 224 0x51242948748ddc68eff330634ffec6c15d6e76ed5826d1b2d9ad26b596b1a88d5da8f47583e8f6aadfaa2c0278760f1993e89e5cfc84e63f337c74766ca1e398e785cb54b53) (AE [(0,[0])] ([λd e h=>Dd g c n m])) (Bh [1] [λd e h=>(.bool (decide ((m:Int).fmod 2=1)),.bool false)]) 1 470 2500 [0,5,7,8,9,10]
   (λb a i=>.done (.ret (.ref (b 4)))) (λb a i=>(JX g c n b (b 6) (b 7) (b 8) (b 9) (a 9) (Cv (a 12)) (.int 1 (a 13)) (Cu (a 16)) (Ct (a 23)) (Cr (a 26)) (Cs (a 27)) (Cq (a 30)))) 37:=by
 kernel_rfl
theorem rJ(w:Aa)(g n m tp:Nat)(c:List Value):
  AI w 493 (.call (.ref 322) ⟨[.ref g,.int 3 tp],[]⟩) ([(g,li c n)]) (rl 224 0x51242948748ddc68eff330634ffec6c15d6e76ed5826d1b2d9ad26b596b1a88d5da8f47583e8f6aadfaa2c0278760f1993e89e5cfc84e63f337c74766ca1e398e785cb54b53) (AE [(0,[0])] ([λd e h=>Dd g c n m])) (Bh [1] [λd e h=>(.bool (decide ((m:Int).fmod 2=1)),.bool false)]) 1 470 2500 [0,5,7,8,9,10]
   (λb a i=>.done (.ret (.ref (b 4)))) (λb a i=>(JX g c n b (b 6) (b 7) (b 8) (b 9) (a 9) (Cu (a 12)) (.int 1 (a 13)) (Cv (a 16)) (Ct (a 23)) (Cq (a 26)) (Cs (a 27)) (Cr (a 30)))) 37:=by
 kernel_rfl
noncomputable abbrev Pj:=(rl 224 0x51242948748ddc68eff330634ffec6c15d6e76ed5826d1b2d9ad26b596b1a88d5da8f47588d4a9b95a0d9ed5bb71054f91e9b155969b090737d80a971001e398e785cb54b53)
theorem rK(w:Aa)(g n m tp:Nat)(c:List Value):
  AI w 493 (.call (.ref 322) ⟨[.ref g,.int 4 tp],[]⟩) ([(g,li c n)]) Pj (AE [(0,[0])] ([λd e h=>Dd g c n m])) (Bh [1] [λd e h=>(.bool (decide ((m:Int).fmod 2=1)),.bool false)]) 1 470 2500 [0,5,7,8,9,10]
   (λb a i=>.done (.ret (.ref (b 4)))) (λb a i=>(JX g c n b (b 6) (b 7) (b 8) (b 9) (a 9) (Ct (a 12)) (.int 1 (a 13)) (Cs (a 16)) (Cv (a 17)) (Cr (a 20)) (Cu (a 21)) (Cq (a 24)))) 37:=by
 kernel_rfl
theorem rL(w:Aa)(g n m tp:Nat)(c:List Value):
  AI w 493 (.call (.ref 322) ⟨[.ref g,.int 5 tp],[]⟩) ([(g,li c n)]) Pj (AE [(0,[0])] ([λd e h=>Dd g c n m])) (Bh [1] [λd e h=>(.bool (decide ((m:Int).fmod 2=1)),.bool false)]) 1 470 2500 [0,5,7,8,9,10]
   (λb a i=>.done (.ret (.ref (b 4)))) (λb a i=>(JX g c n b (b 6) (b 7) (b 8) (b 9) (a 9) (Cs (a 12)) (.int 1 (a 13)) (Ct (a 16)) (Cv (a 17)) (Cq (a 20)) (Cu (a 21)) (Cr (a 24)))) 37:=by
 kernel_rfl
theorem rM(w:Aa)(g n m tp:Nat)(c:List Value):
  AI w 493 (.call (.ref 322) ⟨[.ref g,.int 6 tp],[]⟩) ([(g,li c n)]) Pj (AE [(0,[0])] ([λd e h=>Dd g c n m])) (Bh [1] [λd e h=>(.bool (decide ((m:Int).fmod 2=1)),.bool false)]) 1 470 2500 [0,5,7,8,9,10]
   (λb a i=>.done (.ret (.ref (b 4)))) (λb a i=>(JX g c n b (b 6) (b 7) (b 8) (b 9) (a 9) (Cr (a 12)) (.int 1 (a 13)) (Cq (a 16)) (Cv (a 17)) (Ct (a 20)) (Cu (a 21)) (Cs (a 24)))) 37:=by
 kernel_rfl
theorem rN(w:Aa)(g n m tp:Nat)(c:List Value):
  AI w 493 (.call (.ref 322) ⟨[.ref g,.int 7 tp],[]⟩) ([(g,li c n)]) Pj (AE [(0,[0])] ([λd e h=>Dd g c n m])) (Bh [1] [λd e h=>(.bool (decide ((m:Int).fmod 2=1)),.bool false)]) 1 470 2500 [0,5,7,8,9,10]
   (λb a i=>.done (.ret (.ref (b 4)))) (λb a i=>(JX g c n b (b 6) (b 7) (b 8) (b 9) (a 9) (Cq (a 12)) (.int 1 (a 13)) (Cr (a 16)) (Cv (a 17)) (Cs (a 20)) (Cu (a 21)) (Ct (a 24)))) 37:=by
 kernel_rfl
noncomputable def I5(b:Bool)(a:Nat):List (List Int):=
 if b then[Int.ofNat a]::(List.range 8).flatMap λ (i:Nat)=>((List.range' (i+1) (7-i)).filter λ (j:Nat)=>decide (j<Nat.xor (Nat.xor i j) a)).map λ (j:Nat)=>[Int.ofNat i,Int.ofNat j,Int.ofNat (Nat.xor (Nat.xor i j) a)]
 else if a=0 then[[]]else((List.range 8).filter λ (k:Nat)=>decide (k<Nat.xor k a)).map λ (k:Nat)=>[Int.ofNat k,Int.ofNat (Nat.xor k a)]
noncomputable def Ib(g n e tp:Nat)(b:List Value)(h:Nat)(F:List (List Int)):Ak:=
 {d:=470,u:=2500,h:=none,c:=.call (.ref 322) ⟨[.ref g,.int e tp],[]⟩,idx:=[],pre:=[(g,li b n)],na:=1+h,nt:=0,no:=1+3*h,r:=λa _=>.ok (.ret (.ref (a.getD 0 0))),outs:=λ_ _ _=>[li b n],
  news:=λa _ o=>li ((List.range h).map λj=>.ref (a.getD (1+j) 0)) (Ao o 0)::(List.range h).map λj=>li (BD (F.getD j []) λi=>Ao o (1+3*j+i)) 0}
theorem rO{w:Aa}{g n m c tp:Nat}{d:List Value}(h:d.length=m)(o:m≤8)(e:m%2=1)(r:c<8):Av w (Ib g n c tp d 8 (I5 true c)):=by
 have e:decide ((m:Int).fmod 2=1)=true:=C3 (by rw[Ny _ (by decide)];(first|lia|omega));refine Ba.ext λA i j k=> ?_;have:c=0∨c=1∨c=2∨c=3∨c=4∨c=5∨c=6∨c=7:=by (first|lia|omega)
 rcases this with rfl|rfl|rfl|rfl|rfl|rfl|rfl|rfl
 ·exact Bf (pW w g n m tp d) [] k i j (AD _ _ (Ah (λ_ _ _=>DG h (by (first|lia|omega))) AC)) (Bi _ _ (Az (λ_ _ _=>by rw[e]) Bp)) λb a l=>⟨[b 49,b 47,b 12,b 13,b 14,b 19,b 20,b 25,b 26],[Ac 0,Ac tp,Ac 0,Ac 0,Ac (a 42),Ac (a 48),Ac (a 53),Ac (a 42),Ac (a 58),Ac (a 63),Ac (a 42),Ac (a 68),Ac (a 73),Ac (a 78),Ac (a 88),Ac (a 93),Ac (a 78),Ac (a 94),Ac (a 99),Ac (a 108),Ac (a 114),Ac (a 119),Ac (a 108),Ac (a 120),Ac (a 125)],rfl,rfl,rfl,rfl,by kernel_rfl⟩
 ·exact Bf (pX w g n m tp d) [] k i j (AD _ _ (Ah (λ_ _ _=>DG h (by (first|lia|omega))) AC)) (Bi _ _ (Az (λ_ _ _=>by rw[e]) Bp)) λb a l=>⟨[b 49,b 47,b 8,b 9,b 10,b 19,b 20,b 25,b 26],[Ac 0,Ac tp,Ac 0,Ac 0,Ac (a 8),Ac (a 18),Ac (a 23),Ac (a 8),Ac (a 28),Ac (a 33),Ac (a 8),Ac (a 38),Ac (a 43),Ac (a 78),Ac (a 88),Ac (a 93),Ac (a 78),Ac (a 94),Ac (a 99),Ac (a 108),Ac (a 114),Ac (a 119),Ac (a 108),Ac (a 120),Ac (a 125)],rfl,rfl,rfl,rfl,by kernel_rfl⟩
 ·exact Bf (pY w g n m tp d) [] k i j (AD _ _ (Ah (λ_ _ _=>DG h (by (first|lia|omega))) AC)) (Bi _ _ (Az (λ_ _ _=>by rw[e]) Bp)) λb a l=>⟨[b 49,b 47,b 8,b 9,b 10,b 15,b 16,b 25,b 26],[Ac 0,Ac tp,Ac 0,Ac 0,Ac (a 8),Ac (a 14),Ac (a 19),Ac (a 8),Ac (a 28),Ac (a 33),Ac (a 8),Ac (a 34),Ac (a 39),Ac (a 48),Ac (a 62),Ac (a 67),Ac (a 48),Ac (a 68),Ac (a 73),Ac (a 108),Ac (a 114),Ac (a 119),Ac (a 108),Ac (a 124),Ac (a 129)],rfl,rfl,rfl,rfl,by kernel_rfl⟩
 ·exact Bf (rA w g n m tp d) [] k i j (AD _ _ (Ah (λ_ _ _=>DG h (by (first|lia|omega))) AC)) (Bi _ _ (Az (λ_ _ _=>by rw[e]) Bp)) λb a l=>⟨[b 49,b 47,b 8,b 9,b 10,b 15,b 16,b 21,b 22],[Ac 0,Ac tp,Ac 0,Ac 0,Ac (a 8),Ac (a 14),Ac (a 19),Ac (a 8),Ac (a 28),Ac (a 33),Ac (a 8),Ac (a 34),Ac (a 39),Ac (a 48),Ac (a 62),Ac (a 67),Ac (a 48),Ac (a 68),Ac (a 73),Ac (a 82),Ac (a 92),Ac (a 97),Ac (a 82),Ac (a 102),Ac (a 107)],rfl,rfl,rfl,rfl,by kernel_rfl⟩
 ·exact Bf (rB w g n m tp d) [] k i j (AD _ _ (Ah (λ_ _ _=>DG h (by (first|lia|omega))) AC)) (Bi _ _ (Az (λ_ _ _=>by rw[e]) Bp)) λb a l=>⟨[b 49,b 47,b 8,b 9,b 10,b 15,b 16,b 21,b 34],[Ac 0,Ac tp,Ac 0,Ac 0,Ac (a 8),Ac (a 14),Ac (a 19),Ac (a 8),Ac (a 20),Ac (a 25),Ac (a 8),Ac (a 26),Ac (a 31),Ac (a 48),Ac (a 54),Ac (a 59),Ac (a 48),Ac (a 60),Ac (a 65),Ac (a 82),Ac (a 88),Ac (a 93),Ac (a 150),Ac (a 156),Ac (a 161)],rfl,rfl,rfl,rfl,by kernel_rfl⟩
 ·exact Bf (rC w g n m tp d) [] k i j (AD _ _ (Ah (λ_ _ _=>DG h (by (first|lia|omega))) AC)) (Bi _ _ (Az (λ_ _ _=>by rw[e]) Bp)) λb a l=>⟨[b 49,b 47,b 8,b 9,b 10,b 15,b 16,b 21,b 30],[Ac 0,Ac tp,Ac 0,Ac 0,Ac (a 8),Ac (a 14),Ac (a 19),Ac (a 8),Ac (a 20),Ac (a 25),Ac (a 8),Ac (a 26),Ac (a 31),Ac (a 48),Ac (a 54),Ac (a 59),Ac (a 48),Ac (a 60),Ac (a 65),Ac (a 82),Ac (a 88),Ac (a 93),Ac (a 132),Ac (a 142),Ac (a 147)],rfl,rfl,rfl,rfl,by kernel_rfl⟩
 ·exact Bf (rD w g n m tp d) [] k i j (AD _ _ (Ah (λ_ _ _=>DG h (by (first|lia|omega))) AC)) (Bi _ _ (Az (λ_ _ _=>by rw[e]) Bp)) λb a l=>⟨[b 49,b 47,b 8,b 9,b 10,b 15,b 16,b 21,b 30],[Ac 0,Ac tp,Ac 0,Ac 0,Ac (a 8),Ac (a 14),Ac (a 19),Ac (a 8),Ac (a 20),Ac (a 25),Ac (a 8),Ac (a 26),Ac (a 31),Ac (a 48),Ac (a 54),Ac (a 59),Ac (a 48),Ac (a 60),Ac (a 65),Ac (a 82),Ac (a 88),Ac (a 93),Ac (a 132),Ac (a 138),Ac (a 143)],rfl,rfl,rfl,rfl,by kernel_rfl⟩
 ·exact Bf (rE w g n m tp d) [] k i j (AD _ _ (Ah (λ_ _ _=>DG h (by (first|lia|omega))) AC)) (Bi _ _ (Az (λ_ _ _=>by rw[e]) Bp)) λb a l=>⟨[b 49,b 47,b 8,b 9,b 10,b 15,b 16,b 21,b 30],[Ac 0,Ac tp,Ac 0,Ac 0,Ac (a 8),Ac (a 14),Ac (a 19),Ac (a 8),Ac (a 20),Ac (a 25),Ac (a 8),Ac (a 26),Ac (a 31),Ac (a 48),Ac (a 54),Ac (a 59),Ac (a 48),Ac (a 60),Ac (a 65),Ac (a 82),Ac (a 88),Ac (a 93),Ac (a 132),Ac (a 138),Ac (a 143)],rfl,rfl,rfl,rfl,by kernel_rfl⟩
theorem rP{w:Aa}{g n m tp:Nat}{a:List Value}(d:a.length=m)(j:m≤8)(b:m%2=0):Av w (Ib g n 0 tp a 1 (I5 false 0)):=by
 have b:decide ((m:Int).fmod 2=1)=false:=BQ (by rw[Ny _ (by decide)];(first|lia|omega));refine Ba.ext λA e h i=> ?_;exact Bf (rF w g n m tp a) [] i e h (AD _ _ (Ah (λ_ _ _=>DG d (by (first|lia|omega))) AC)) (Bi _ _ (Az (λ_ _ _=>by rw[b]) Bp)) λc k l=>⟨[c 3,c 2],[Ac 0,Ac 0,Ac 0,Ac 0],rfl,rfl,rfl,rfl,by kernel_rfl⟩
theorem rQ{w:Aa}{g n m c tp:Nat}{d:List Value}(h:d.length=m)(o:m≤8)(e:m%2=0)(r:0<c)(s:c<8):Av w (Ib g n c tp d 4 (I5 false c)):=by
 have e:decide ((m:Int).fmod 2=1)=false:=BQ (by rw[Ny _ (by decide)];(first|lia|omega));refine Ba.ext λA i j k=> ?_;have:c=1∨c=2∨c=3∨c=4∨c=5∨c=6∨c=7:=by (first|lia|omega)
 rcases this with rfl|rfl|rfl|rfl|rfl|rfl|rfl
 ·exact Bf (rH w g n m tp d) [] k i j (AD _ _ (Ah (λ_ _ _=>DG h (by (first|lia|omega))) AC)) (Bi _ _ (Az (λ_ _ _=>by rw[e]) Bp)) λb a l=>⟨[b 4,b 6,b 7,b 8,b 9],[Ac 4,Ac (a 9),Ac (a 12),Ac 0,Ac (a 16),Ac (a 19),Ac 0,Ac (a 23),Ac (a 26),Ac 0,Ac (a 30),Ac (a 33),Ac 0],rfl,rfl,rfl,rfl,by kernel_rfl⟩
 ·exact Bf (rI w g n m tp d) [] k i j (AD _ _ (Ah (λ_ _ _=>DG h (by (first|lia|omega))) AC)) (Bi _ _ (Az (λ_ _ _=>by rw[e]) Bp)) λb a l=>⟨[b 4,b 6,b 7,b 8,b 9],[Ac 4,Ac (a 9),Ac (a 12),Ac 0,Ac (a 13),Ac (a 16),Ac 0,Ac (a 23),Ac (a 26),Ac 0,Ac (a 27),Ac (a 30),Ac 0],rfl,rfl,rfl,rfl,by kernel_rfl⟩
 ·exact Bf (rJ w g n m tp d) [] k i j (AD _ _ (Ah (λ_ _ _=>DG h (by (first|lia|omega))) AC)) (Bi _ _ (Az (λ_ _ _=>by rw[e]) Bp)) λb a l=>⟨[b 4,b 6,b 7,b 8,b 9],[Ac 4,Ac (a 9),Ac (a 12),Ac 0,Ac (a 13),Ac (a 16),Ac 0,Ac (a 23),Ac (a 26),Ac 0,Ac (a 27),Ac (a 30),Ac 0],rfl,rfl,rfl,rfl,by kernel_rfl⟩
 ·exact Bf (rK w g n m tp d) [] k i j (AD _ _ (Ah (λ_ _ _=>DG h (by (first|lia|omega))) AC)) (Bi _ _ (Az (λ_ _ _=>by rw[e]) Bp)) λb a l=>⟨[b 4,b 6,b 7,b 8,b 9],[Ac 4,Ac (a 9),Ac (a 12),Ac 0,Ac (a 13),Ac (a 16),Ac 0,Ac (a 17),Ac (a 20),Ac 0,Ac (a 21),Ac (a 24),Ac 0],rfl,rfl,rfl,rfl,by kernel_rfl⟩
 ·exact Bf (rL w g n m tp d) [] k i j (AD _ _ (Ah (λ_ _ _=>DG h (by (first|lia|omega))) AC)) (Bi _ _ (Az (λ_ _ _=>by rw[e]) Bp)) λb a l=>⟨[b 4,b 6,b 7,b 8,b 9],[Ac 4,Ac (a 9),Ac (a 12),Ac 0,Ac (a 13),Ac (a 16),Ac 0,Ac (a 17),Ac (a 20),Ac 0,Ac (a 21),Ac (a 24),Ac 0],rfl,rfl,rfl,rfl,by kernel_rfl⟩
 ·exact Bf (rM w g n m tp d) [] k i j (AD _ _ (Ah (λ_ _ _=>DG h (by (first|lia|omega))) AC)) (Bi _ _ (Az (λ_ _ _=>by rw[e]) Bp)) λb a l=>⟨[b 4,b 6,b 7,b 8,b 9],[Ac 4,Ac (a 9),Ac (a 12),Ac 0,Ac (a 13),Ac (a 16),Ac 0,Ac (a 17),Ac (a 20),Ac 0,Ac (a 21),Ac (a 24),Ac 0],rfl,rfl,rfl,rfl,by kernel_rfl⟩
 ·exact Bf (rN w g n m tp d) [] k i j (AD _ _ (Ah (λ_ _ _=>DG h (by (first|lia|omega))) AC)) (Bi _ _ (Az (λ_ _ _=>by rw[e]) Bp)) λb a l=>⟨[b 4,b 6,b 7,b 8,b 9],[Ac 4,Ac (a 9),Ac (a 12),Ac 0,Ac (a 13),Ac (a 16),Ac 0,Ac (a 17),Ac (a 20),Ac 0,Ac (a 21),Ac (a 24),Ac 0],rfl,rfl,rfl,rfl,by kernel_rfl⟩
noncomputable abbrev RW:Expr:=sk (lw 7) 0 []
noncomputable abbrev WQ(f a b:Nat):Env:={scope:={Fq RW with names:=[(Hw,.local),(DB,.local),(yI,.globalImplicit),(xR,.globalImplicit),(xS,.globalImplicit),(GO,.cell)]},locals:=b,globals:=3,cells:=[(GO,a)],qual:=⟨⟨Na⟩⟩,func:=none,code:=.ref 331,frame:=some f,builtins:=0}
noncomputable abbrev Nb(f b c d a:Nat):Code:=.compLoop RW 0 (.ref d) (.ref a) (WQ f b c)
noncomputable abbrev WR(P:Aj)(y:Nat)(v:Value)(z:Bool):Obj:=di (cond z [Ap P DB y v] []) (cond z 1 0)
theorem rR(w:Aa)(f r l d s n A o B i k e t m c y:Nat)(G:Value)(C D E u:List Value)(a b:List Int)(z:Bool):
  AI w 51 (Nb f r s l d) ([(r,Aw n),(n,li E A),(l,liO o i),(o,li C B),(d,li D k),(s,WR w.2 y G z),(e,li u t)]) (dg 7 982453861745) (AE [(0,[2,3]),(0,[6]),(1,[1,6]),(0,[7]),(0,[4])] ([λg h j=>Ez l o i C B (.ref e),λg h j=>Dd e u t m,λg h j=>QM n e A t E u a b,λg h j=>KF (tk g 0) (BD (DM a b 8) λi=>Ao j (3+i)) (DM a b 8).length (DM a b 8),λg h j=>CQ d D k (.ref (tk g 1))])) (Bh [0] [λg h j=>(.int ((8:Int)-(m:Nat)) (tk h 3),.int (c:Nat) (tk h 3))]) 0 450 2200 (zr 7 [8])
   (λF v H=>.again (Nb f r s l d)) (λF v H=>[(r,Aw n),(n,li E A),(l,liO o (i+1)),(o,li C B),(d,li (D++[.ref (F 1)]) (k+1)),(s,di [Ad w DB (cond z y (v 0)) (.ref e)] 1),(e,li u t),(F 1,tu [.int c (v 3),.str (BX (DM a b 8)) (v 4),.ref e] 0)]) 5:=by
 revert z;exact Ek (by kernel_rfl)
theorem rS(w:Aa)(f g a e h b i c:Nat)(d:List Value):
  AI w 10 (Nb f g h a e) (Gn a b i d c) [1,4] (JQ a b i d c) [] 0 450 2200 [0,1]
   (λj k l=>.done .next) (λj k l=>(JR a i b d c)) 0:=by
 kernel_rfl
structure FE where
 A:Nat
 F:List Int
 g:Nat→Nat
noncomputable def FW(L:List FE):Ae:=L.map λe=>(e.A,li (BD e.F e.g) 0)
structure TE where
 T:Nat
 c:Nat
 ct:Nat
 s:Str
 st:Nat
 fj:Nat
noncomputable def CF(e:TE):Obj:=tu [.int e.c e.ct,.str e.s e.st,.ref e.fj] 0
noncomputable def TL(L:List TE):Ae:=L.map λe=>(e.T,CF e)
noncomputable abbrev AL(L:List TE):List Value:=L.map λe=>Value.ref e.T
noncomputable abbrev Fe(L:List FE):List Value:=L.map λe=>Value.ref e.A
structure WS(a:List Int)(L:List FE)(i:Nat)(R:List TE):Prop where
 len:R.length=i
 at': ∀j (h:j<i) (h1:j<R.length) (h2:j<L.length),R[j].c=8-L[j].F.length∧R[j].s=BX (DM a L[j].F 8)∧R[j].fj=L[j].A
inductive Ic (P:Aj) (L:List FE):Nat→Obj→Prop
 |a:Ic P L 0 (di [] 0)
 |b (i y:Nat) (h:i<L.length):Ic P L (i+1) (di [Ap P DB y (.ref L[i].A)] 1)
theorem Ic.shape{P:Aj}{L:List FE}{i:Nat}{d:Obj}(h:Ic P L i d):Ei λy v z=>d=WR P y v z:=by
 cases h with
 |a=>exact⟨0,.none,false,rfl⟩
 |b i y h=>exact⟨y,_,true,rfl⟩
inductive WT (w:Aa) (cg it acc cl gt gn fs fn:Nat) (xs:List Value) (a:List Int) (L:List FE) (r:Result) (L':Ae) (ts:List Nat):Prop
 |mk (hr:r= .ok .next) (ht:ts=[]) (R':List TE) (oc:Obj) (h1:WS a L L.length R') (h2:Ic w.2 L L.length oc) (hL:L'=[(cg,ce (some (.ref gt))),(gt,li xs gn),(it,fi Bo [.none,.int (L.length:Int) 0]),(fs,li (Fe L) fn),(acc,li (AL R') L.length),(cl,oc)]++FW L++TL R')
theorem rT{w:Aa}{A:Al}(E:A.handled=none)(G:A.depth≤450)(H:A.units≤2200){f cg it acc cl gt gn fs fn:Nat}{h:List Value}{a:List Int}(N:AX h a){L:List FE}(hl:L.length≤900)(O: ∀e∈L,e.F.length≤8):
  ∀(k i:Nat),i+k=L.length→ ∀(d:Obj) (R:List TE),Ic w.2 L i d→WS a L i R→
  RunsW w A (Nb f cg cl it acc) ([(cg,Aw gt),(gt,li h gn),(it,liO fs i),(fs,li (Fe L) fn),(acc,li (AL R) i),(cl,d)]++FW L++TL R)
   (WT w cg it acc cl gt gn fs fn h a L):=by
 intro k
 induction k with
 |zero=>
  intro i P d R B o;obtain rfl:i=L.length:=by (first|lia|omega)
  refine Gj ([(cg,Aw gt),(gt,li h gn),(acc,li (AL R) L.length),(cl,d)]++FW L++TL R) (L1:=[(it,liO fs L.length),(fs,li (Fe L) fn)]) ?_
   (Bf (rS w f cg it acc cl fs L.length fn (Fe L)) [] E G H (AD _ _ (Ah (λ_ _ _=>IQ (by simp[Fe])) AC)) Ar (Φ:=λr Q c=>c=[]∧r= .ok .next∧Q=[(it,fi Bo [.none,.int (L.length:Int) 0]),(fs,li (Fe L) fn)]) λS U V=>⟨rfl,rfl,rfl⟩) λr L0 c ⟨Y,M,D⟩=>⟨_,?_,M,Y,R,d,o,B,rfl⟩
  ·exact AO [_,_] [_,_,_,_,_,_] [0,2,1,3,0,7,0,4,5,7,9,11,2,4] [0,9,0,6,5,7,1,3,9,11,2,4]
  ·rw[D]
   exact AO [_,_] [_,_,_,_,_,_] [0,2,1,3,0,7,0,4,5,7,9,11,2,4] [0,9,0,6,5,7,1,3,9,11,2,4]
 |succ k Z=>
  intro i P d R B o;have s:i<L.length:=by (first|lia|omega)
  have gv:(Fe L)[i]? =some (.ref L[i].A):=by simp[Fe,s]
  have rl:=o.len;have ul:(AL R).length≤1000:=by simp[AL];(first|lia|omega)
  have aa:=O L[i] (C0 s);have I:=JM L[i].F L[i].g;have X:DD w [λm c n=>Ez it fs i (Fe L) fn (.ref L[i].A),λm c n=>Dd L[i].A (BD L[i].F L[i].g) 0 L[i].F.length,λm c n=>QM gt L[i].A gn 0 h (BD L[i].F L[i].g) a L[i].F,λm c n=>KF (tk m 0) (BD (DM a L[i].F 8) λi=>Ao n (3+i)) (DM a L[i].F 8).length (DM a L[i].F 8),λm c n=>CQ acc (AL R) i (.ref (tk m 1))]:=
   Ah (λ_ _ _=>HJ gv) (Ah (λ_ _ _=>DG (G0 I) (by (first|lia|omega))) (Ah (λ_ _ _=>uP N I) (Ah (λ_ _ _=>ON (JM _ _)) (Ah (λ_ _ _=>EN ul) AC))))
  have W:E8 [λm c n=>(.int ((8:Int)-(L[i].F.length:Nat)) (tk c 3),.int (8-L[i].F.length:Nat) (tk c 3))]:=Az (λ_ _ _=>by rw[show((8:Int)-(L[i].F.length:Nat))=((8-L[i].F.length:Nat):Int) by (first|lia|omega)]) Bp;have J:(FW L).Perm ((L[i].A,li (BD L[i].F L[i].g) 0)::FW (L.eraseIdx i)):=(MR L i s).symm.map λe:FE=>(e.A,li (BD e.F e.g) 0)
  have pr: ∀o1 o2 o3 o4 C l:Obj,([(cg,o1),(gt,o2),(it,o3),(fs,o4),(acc,C),(cl,l),(L[i].A,li (BD L[i].F L[i].g) 0)]++(FW (L.eraseIdx i)++TL R)).Perm ([(cg,o1),(gt,o2),(it,o3),(fs,o4),(acc,C),(cl,l)]++FW L++TL R):=λo1 o2 o3 o4 C l=>by
   exact(AO [_,_] [_,_,_,_,_,_,_] [0,7,1,3,5,7,9,11,13,0,1,2,4] [0,2,13,2,1,3,5,7,9,11,0,1,4]).trans ((FF _ J.symm).trans (AO [_,_] [_,_,_,_,_,_] [0,1,2,1,3,5,7,9,11,0,1,4] [0,9,0,6,1,3,5,7,9,11,2,4]))
  have fin: ∀{l:Obj} {T t u:Nat},Ic w.2 L (i+1) l→ ∃K,([(cg,Aw gt),(gt,li h gn),(it,liO fs (i+1)),(fs,li (Fe L) fn),(acc,li (AL R++[.ref T]) (i+1)),(cl,l),(L[i].A,li (BD L[i].F L[i].g) 0),(T,tu [.int (8-L[i].F.length:Nat) t,.str (BX (DM a L[i].F 8)) u,.ref L[i].A] 0)]++(FW (L.eraseIdx i)++TL R)).Perm K∧
    RunsW w A (Nb f cg cl it acc) K (WT w cg it acc cl gt gn fs fn h a L):=λ {l T t u} h6=>by
   let e:TE:=⟨T,8-L[i].F.length,t,BX (DM a L[i].F 8),u,L[i].A⟩
   refine⟨[(cg,Aw gt),(gt,li h gn),(it,liO fs (i+1)),(fs,li (Fe L) fn),(acc,li (AL (R++[e])) (i+1)),(cl,l)]++FW L++TL (R++[e]),?_,Z (i+1) (by (first|lia|omega)) l (R++[e]) h6 ⟨by simp[rl],λj hj M D=> ?_⟩⟩
   ·have e1:AL R++[.ref T]=AL (R++[e]):=by simp[AL,e]
    have e2:TL (R++[e])=TL R++[(T,tu [.int (8-L[i].F.length:Nat) t,.str (BX (DM a L[i].F 8)) u,.ref L[i].A] 0)]:=by simp[TL,CF,e]
    rw[e1,e2];exact(AO [_,_] [_,_,_,_,_,_,_,_] [0,8,1,3,5,7,9,11,13,15,0,1,2,4] [0,2,13,2,1,3,5,7,9,11,15,0,1,4]).trans ((FF _ J.symm).trans (AO [_,_] [_,_,_,_,_,_,_] [0,1,2,1,3,5,7,9,11,13,0,1,4] [0,9,0,6,1,3,5,7,9,11,2,0,1,4,13]))
   ·by_cases q:j<i
    ·have:=o.at' j q (by (first|lia|omega)) D
     rw[List.getElem_append_left (by (first|lia|omega))];exact this
    ·obtain rfl:i=j:=by (first|lia|omega)
     have e3:(R++[e])[i]=e:=by rw[List.getElem_append_right (by (first|lia|omega))];simp[rl]
     rw[e3];exact⟨rfl,rfl,rfl⟩
  obtain⟨y,v,z,rfl⟩:=B.shape;exact EO (rR w f cg it acc cl gt gn fs fn i i L[i].A 0 L[i].F.length (8-L[i].F.length) y v (Fe L) (AL R) h (BD L[i].F L[i].g) a L[i].F z) (FW (L.eraseIdx i)++TL R) (pr _ _ _ _ _ _) [] E G H (AD _ _ X) (Bi _ _ W) λS U V=>fin (.b i _ s)
noncomputable def Gw(h:Nat)(a:Nat→Nat)(F:Nat→List Int)(g:Nat→Nat→Nat):List FE:=(List.range h).map λj=>⟨a j,F j,g j⟩
noncomputable def Ie(P:Aj)(f k l e m i n s t h:Nat)(v:List Value)(a:List Int)(b:Nat→Nat)(F:Nat→List Int)(g:Nat→Nat→Nat):Ak:=
 {d:=450,u:=2200,h:=none,c:=.compStart RW 0 (.ref l) (.ref e) (WQ f k m),idx:=[],pre:=[(k,Aw i),(i,li v n),(l,liO s 0),(s,li ((List.range h).map λj=>.ref (b j)) t),(e,li [] 0),(m,di [] 0)]++(List.range h).map λj=>(b j,li (BD (F j) (g j)) 0),na:=h,nt:=0,no:=2+2*h,r:=λ_ _=>.ok .next,
  outs:=λw _ o=>[Aw i,li v n,o.getD 0 default,li ((List.range h).map λj=>.ref (b j)) t,li ((List.range h).map λj=>.ref (w.getD j 0)) h,di [Ap P DB (Ao o 1) (.ref (b (h-1)))] 1]++(List.range h).map λj=>li (BD (F j) (g j)) 0,
  news:=λ_ _ o=>(List.range h).map λj=>tu [.int (8-(F j).length:Nat) (Ao o (2+2*j)),.str (BX (DM a (F j) 8)) (Ao o (3+2*j)),.ref (b j)] 0}
noncomputable def two{a:Type}(f g:Nat→a):Nat→List a
 |0=>[]
 |n+1=>two f g n++[f n,g n]
theorem RX{a:Type}(f g:Nat→a): ∀n,(two f g n).length=2*n
 |0=>rfl
 |n+1=>by rw[two,EX,RX f g n];refine (?_:2*n+2=_);(first|lia|omega)
theorem rU{a:Type}(f g:Nat→a)(z:a): ∀n j,j<n→(two f g n).getD (2*j) z=f j∧(two f g n).getD (2*j+1) z=g j:=by
 intro n
 induction n with
 |zero=>intro j h;(first|lia|omega)
 |succ n b=>
  intro j h;have l:=RX f g n;unfold two
  by_cases q:j<n
  ·have:=b j q
   simp only[List.getD]at this⊢;rw[J6 (by (first|lia|omega)),J6 (by (first|lia|omega))];exact this
  ·obtain rfl:n=j:=by (first|lia|omega)
   simp only[List.getD];rw[Nx (by (first|lia|omega)),Nx (by (first|lia|omega)),l];have e:2*n+1-2*n=1:=by (first|lia|omega)
   rw[Nat.sub_self,e];exact⟨rfl,rfl⟩
theorem Ic.inv{P:Aj}{L:List FE}{n:Nat}{c:Obj}(h:Ic P L n c)(e:0<n): ∃(y:Nat) (g:n-1<L.length),c=di [Ap P DB y (.ref L[n-1].A)] 1:=by
 cases h with
 |a=>(first|lia|omega)
 |b i y d=>exact⟨y,d,rfl⟩
theorem RY{w:Aa}{f B C i D m n s u h:Nat}{v:List Value}{a:List Int}{d:Nat→Nat}{F:Nat→List Int}{g:Nat→Nat→Nat}(S:AX v a)(U:0<h)(V:h≤900)(W: ∀j,j<h→(F j).length≤8):Av w (Ie w.2 f B C i D m n s u h v a d F g):=by
 have E:(Gw h d F g).length=h:=by simp[Gw]
 have M:Fe (Gw h d F g)=(List.range h).map λj=>.ref (d j):=by unfold Fe Gw;rw[BZ];rfl
 have N:FW (Gw h d F g)=(List.range h).map λj=>(d j,li (BD (F j) (g j)) 0):=by unfold FW Gw;rw[BZ];rfl
 refine Ba.ext λA X Y Z=> ?_;refine IC 1 (o:=liO s 0) ?_ (by simp[Ie]) (by kernel_rfl) (by kernel_rfl);have key:=rT (w:=w) (A:=A) Z X Y (f:=f) (cg:=B) (it:=C) (acc:=i) (cl:=D) (gt:=m) (gn:=n) (fs:=s) (fn:=u) S (L:=Gw h d F g) (by rw[E];exact V) (λe he=>by
  obtain⟨j,c,rfl⟩:=List.mem_map.mp he;exact W j (List.mem_range.mp c)) h 0 (by rw[E];(first|lia|omega)) (di [] 0) [] .a ⟨rfl,λj c=>absurd c (Ka j)⟩
 rw[M,N]at key;rw[show TL []=[]from rfl,BV]at key;refine Ba.mono key λr L' ts hz=> ?_;obtain⟨h1,h2,R,oc,G,O,H⟩:=hz;rw[E]at G O H;rw[M,N]at H;subst h2;have rl:R.length=h:=G.len;obtain⟨y,rfl⟩: ∃y,oc=di [Ad w DB y (.ref (d (h-1)))] 1:=by
  obtain⟨y,hn,e⟩:=O.inv U;refine⟨y,?_⟩;rw[e];have:(Gw h d F g)[h-1].A=d (h-1):=by simp[Gw]
  rw[this]
 let z:TE:=⟨0,0,0,⟨⟨[]⟩⟩,0,0⟩
 have P: ∀j (c:j<h),R.getD j z=R[j]'(by (first|lia|omega)):=λj c=>by simp[List.getD,show j<R.length by (first|lia|omega)]
 refine⟨R.map TE.T,[fi Bo [.none,.int (h:Int) 0],Ac y]++two (λj=>Ac (R.getD j z).ct) (λj=>Ac (R.getD j z).st) h,by simp[Ie,rl],rfl,by simp[Ie,RX];(first|lia|omega),h1,?_⟩;have I: ∀j,j<h→Ao ([fi Bo [.none,.int (h:Int) 0],Ac y]++two (λj=>Ac (R.getD j z).ct) (λj=>Ac (R.getD j z).st) h) (2+2*j)=(R.getD j z).ct∧Ao ([fi Bo [.none,.int (h:Int) 0],Ac y]++two (λj=>Ac (R.getD j z).ct) (λj=>Ac (R.getD j z).st) h) (3+2*j)=(R.getD j z).st:=λj c=>by
  have t:=rU (λj=>Ac (R.getD j z).ct) (λj=>Ac (R.getD j z).st) default h j c;have Q: ∀(l:List Obj) (a b:Obj) (k:Nat),Ao ([a,b]++l) (2+k)=BP (l.getD k default):=λl a b k=>by rw[Nat.add_comm];rfl
  rw[show 3+2*j=2+(2*j+1) by (first|lia|omega),Q,Q,t.1,t.2];exact⟨rfl,rfl⟩
 have o0:([fi Bo [.none,.int (h:Int) 0],Ac y]++two (λj=>Ac (R.getD j z).ct) (λj=>Ac (R.getD j z).st) h).getD 0 default=fi Bo [.none,.int (h:Int) 0]:=rfl;have o1:Ao ([fi Bo [.none,.int (h:Int) 0],Ac y]++two (λj=>Ac (R.getD j z).ct) (λj=>Ac (R.getD j z).st) h) 1=y:=rfl;generalize [fi Bo [.none,.int (h:Int) 0],Ac y]++two (λj=>Ac (R.getD j z).ct) (λj=>Ac (R.getD j z).st) h=os at I o0 o1;have J:R=(List.range h).map λj=>R.getD j z:=by rw[←rl];exact(O2 R z).symm
 have eT:R.map TE.T=(List.range h).map λj=>(R.getD j z).T:=by
  conv=>lhs;rw[J]
  rw[BZ];rfl
 have eN:(Ie w.2 f B C i D m n s u h v a d F g).news (R.map TE.T) [] os=(List.range h).map λj=>CF (R.getD j z):=by
  show(List.range h).map _=_;refine DU λj c=> ?_;have c:=List.mem_range.mp c;have q:=G.at' j c (by (first|lia|omega)) (by rw[E];exact c);rw[←P j c]at q;have eA:(Gw h d F g)[j]'(by rw[E];exact c)=⟨d j,F j,g j⟩:=by simp[Gw]
  rw[eA]at q;unfold CF;rw[q.1,q.2.1,q.2.2,(I j c).1,(I j c).2]
 have e2:BH (R.map TE.T) ((List.range h).map λj=>CF (R.getD j z))=TL R:=by
  rw[eT,Rl];conv=>rhs;rw[J]
  unfold TL;rw[BZ];rfl
 have K:AL R=(List.range h).map λj=>.ref ((R.map TE.T).getD j 0):=by
  conv=>lhs;rw[J]
  unfold AL;rw[BZ];refine DU λj c=> ?_;have c:=List.mem_range.mp c;refine (?_:Value.ref (R.getD j z).T=_);rw[P j c];simp[List.getD,show j<R.length by (first|lia|omega)]
 have e1:(Ie w.2 f B C i D m n s u h v a d F g).outs (R.map TE.T) [] os=[Aw m,li v n,fi Bo [.none,.int (h:Int) 0],li ((List.range h).map λj=>.ref (d j)) u,li (AL R) h,di [Ad w DB y (.ref (d (h-1)))] 1]++((List.range h).map λj=>(d j,li (BD (F j) (g j)) 0)).map (·.2):=by
  show[Aw m,li v n,os.getD 0 default,_,_,di [Ad w DB (Ao os 1) _] 1]++_=_;rw[o0,o1,K,BZ];rfl
 rw[eN,e1,e2,H];refine (?_:_=Bk ([(B,Aw m),(m,li v n),(C,liO s 0),(s,li ((List.range h).map λj=>.ref (d j)) u),(i,li [] 0),(D,di [] 0)]++(List.range h).map λj=>(d j,li (BD (F j) (g j)) 0)) _++TL R);rw[Wo _ _ _ rfl];rfl
theorem rV{w:Aa}{A:Al}{E:Value→Ab→Prop}{s:Ab}{a b:Int}{t u:Tok}{Q:Bool→Ab→Prop}(h:Q (decide (a<b)) s):wpAny (model pw w) A (oneLt' true (.int a t) (.int b u)) Q E s:=by
 rw[oneLt'_eq];simp only[if_true];refine Af (wpAny_cRoomFor_byValue rfl ?_);refine Af (wpAny_callSpecialIfBound?_slot (typeIs_int s a t) slot_int_lt ?_);refine wpAny_call_entry slot_int_lt (typeIs_int s a t) entry_int_lt ?_ (args_int_lt _ _);refine (?_:wpAny _ _ (ret (.bool (decide (a<b)))) _ _ s);exact Aq ⟨_,rfl,wpAny_truthy_bool h⟩
noncomputable def I6(x y:TE):Bool:=K0 x.c x.s y.c y.s
theorem rW{w:Aa}{A:Al}{E:Value→Ab→Prop}{s:Ab}{x y:TE}(c:x.s≠y.s)(d:s.heap.get? x.T=some (CF x))(g:s.heap.get? y.T=some (CF y)){Q:Bool→Ab→Prop}(a:Q (I6 y x) s):
  wpAny (model pw w) A (keyLt' (tuples' true) (.ref x.T) (.ref y.T)) Q E s:=by
 refine kat_lt d rfl g rfl ?_;have h:EqAt A s (.str x.s x.st) (.str y.s y.st) false:=by
  have:=EqAt.str_str (A:=A) (s:=s) x.s x.st y.s y.st;rwa[beq_eq_false_iff_ne.mpr c]at this
 refine kat_cons (EqAt.int_int (A:=A) (s:=s) (x.c:Int) x.ct (y.c:Int) y.ct pw w _ _ (kat_go (λe=>kat_yes ?_) λe=>kat_no ?_))
 ·refine kat_cons (h pw w _ _ (kat_no (kat_one _ _ (P.lt_str ?_))))
  have b:x.c=y.c:=by have:=eq_of_beq e;(first|lia|omega)
  refine (?_:Q _ s);unfold I6 K0 at a;rw[b]at a;simpa using a
 ·refine rV ?_
  have b: ¬x.c=y.c:=λq=>by rw[q]at e;simp at e
  have i:decide ((x.c:Int)<(y.c:Int))=I6 y x:=by
   unfold I6 K0;have:(y.c==x.c)=false:=beq_eq_false_iff_ne.mpr λq=>b q.symm;rw[this,Bool.false_and,Lw]
   by_cases z:x.c<y.c
   ·rw[C3 z,C3 (by (first|lia|omega))]
   ·rw[BQ z,BQ (by (first|lia|omega))]
  rw[i];exact a
theorem WU{h:Heap}: ∀{X:List TE},(∀e∈X,h.get? e.T=some (CF e))→KatTups h (AL X) (X.map λe=>.int e.c e.ct)
 |[],_=>trivial
 |e::X,a=>⟨⟨e.T,CF e,_,0,rfl,a e Bj,rfl,rfl,rfl⟩,WU λx b=>a x (BB _ b)⟩
theorem rX{w:Aa}{A:Al}{E:Value→Ab→Prop}{s:Ab}{X:List TE}(a:0<X.length)(b: ∀e∈X,s.heap.get? e.T=some (CF e)){Q:SortKind→Ab→Prop}(c:Q (tuples' true) s):wpAny (model pw w) A (keyKind' (AL X).toArray) Q E s:=by
 refine kat_kind (T:=.type "int") (WU b) (by simpa using a) (λv d=> ?_) (by rfl) c;obtain⟨e,_,rfl⟩:=List.mem_map.mp d;exact .now
noncomputable def tz:TE:=⟨0,0,0,⟨⟨[]⟩⟩,0,0⟩
theorem RZ(X:List TE){i:Nat}(a:i<X.length):(AL X).getD i .none= .ref (X.getD i tz).T:=by
 simp[AL,a]
structure Nc(Y:List TE)(f:TE→Nat):Prop where
 down:Y.Pairwise λa b=>f b<f a
 gt: ∀x∈Y,∀y∈Y,f x≠f y→x.s≠y.s∧I6 y x=decide (f x<f y)
theorem rY{w:Aa}{A:Al}{E:Value→Ab→Prop}{a n:Nat}{X Y:List TE}{f:TE→Nat}(v:X.Perm Y)(K:Nc Y f)(U:2≤X.length)(N:X.length<64){s:Ab}(S:An (kt w) s ((a,li (AL X) n)::TL Y)){P:AA→Ab→Prop}
  (h: ∀l,Ag (kt w) s l ((a,li (AL X) n)::TL Y) ((a,li (AL Y) (n+2))::TL Y)→P (.done (.ret .none)) l):wpAny (model pw w) A (EQ a true) P E s:=by
 have t:(AL X).length=X.length:=by simp[AL]
 have O:katRev true (AL X)=AL X.reverse:=by simp[katRev,AL]
 have y: ∀{i},i<X.length→X.reverse.getD i tz∈Y:=λ {i} c=>by
  have o:i<X.reverse.length:=by simpa using c
  rw[show X.reverse.getD i tz=X.reverse[i] by simp[List.getD,c]];exact v.mem_iff.mp (List.mem_reverse.mp (C0 o))
 have V:X.reverse.Perm Y.reverse:=(GD X).trans (v.trans (GD Y).symm);have I:X.reverse.Pairwise (λa b=>f a≠f b):=by
  have:Y.Pairwise (λa b=>f a≠f b):=K.down.imp λh=>Ne.symm (CN h);exact(((GD X).trans v).pairwise_iff λ {a b} h=>Ne.symm h).mpr this
 have z: ∀i j,i<X.length→j<X.length→f (X.reverse.getD i tz)=f (X.reverse.getD j tz)→i=j:=λi j c k J=>by
  rw[F6]at I;have o:i<X.reverse.length:=by simpa using c
  have D:j<X.reverse.length:=by simpa using k
  rw[show X.reverse.getD i tz=X.reverse[i] by simp[List.getD,c],show X.reverse.getD j tz=X.reverse[j] by simp[List.getD,k]]at J;rcases Jh i j with h|h|h
  ·exact absurd J (I i j o D h)
  ·exact h
  ·exact absurd J.symm (I j i D o h)
 have L: ∀{s:Ab} {n:Nat} {R:List Value},An (kt w) s ((a,li R n)::TL Y)→ ∀e∈Y,s.heap.get? e.T=some (CF e):=λ {s n R} m e M=>m.mem (e.T,CF e) (BB _ (List.mem_map.mpr ⟨e,M,rfl⟩));refine OS (κ:=tuples' true) (F:=TL Y) (r:=λi=>f (X.reverse.getD i tz)) (by rw[t];exact U) (by rw[t];exact N) (λi j c k e=>z i j (t▸c) (t▸k) e) (λl Q m W=> ?_) (λi j l C c k T m Z=> ?_) S λl p u G H=> ?_
 ·exact rX (by (first|lia|omega)) (λe M=>L m e (v.mem_iff.mp M)) W
 ·rw[t]at c k
  rw[O,RZ _ (by simpa using c),RZ _ (by simpa using k)];have ne:f (X.reverse.getD i tz)≠f (X.reverse.getD j tz):=λe=>T (z i j c k e);have g:=K.gt _ (y c) _ (y k) ne;refine rW g.1 (L m _ (y c)) (L m _ (y k)) ?_;rw[g.2];exact Z l (.refl m)
 ·rw[t]at u G
  have key:=OU (d:=tz) (f:=f) (B:=X.reverse) (B':=Y.reverse) (by (first|((repeat(first|exact .head _|apply List.mem_cons_of_mem));done)|simp)) u G V.symm (by rw[List.pairwise_reverse];exact K.down);have em:katRev true (p.toList.map λi=>(katRev true (AL X)).getD i .none)=AL Y:=by
   have:AL Y.reverse=(p.toList.map λi=>X.reverse.getD i tz).map λe=>Value.ref e.T:=by rw[key]
   rw[O];have e2:(p.toList.map λi=>(AL X.reverse).getD i .none)=AL Y.reverse:=by
    rw[this,BZ];apply DU;intro i c;exact RZ _ (by simpa using List.mem_range.mp (u.mem_iff.mp c))
   rw[e2];simp[katRev,AL]
  rw[em]at H;exact h l H
theorem rZ(a:Value):argsOk "sorted" ⟨[a],[(G4,.bool true)]⟩:=by unfold argsOk;kernel_rfl
noncomputable def sA(b n:Nat)(X Y:List TE):Ak:=
 {d:=500,u:=2800,h:=none,c:=.call (.builtin Kn) ⟨[.ref b],[(G4,.bool true)]⟩,idx:=[],pre:=[(b,li (AL X) n)]++TL Y,na:=1,nt:=0,r:=λa _=>.ok (.ret (.ref (a.getD 0 0))),outs:=λ_ _ _=>[li (AL X) n]++Y.map CF,news:=λ_ _ _=>[li (AL Y) 2]}
theorem Pk: ∀X:List TE,Bk (TL X) (X.map CF)=TL X
 |[]=>rfl
 |e::X=>Am (_:: ·) (Pk X)
theorem sB{w:Aa}{A:Al}{E:Value→Ab→Prop}{s:Ab}{a:Nat}{x:TE}{X Y:List TE}(i:X=[x])(j:Y=[x])(k:A.handled=none)(l:A.depth≤590)(m:A.units≤3700)(S:An (kt w) s ((a,li (AL X) 0)::TL Y)){P:AA→Ab→Prop}
  (h: ∀d,Ag (kt w) s d ((a,li (AL X) 0)::TL Y) ((a,li (AL Y) 2)::TL Y)→P (.done (.ret .none)) d):wpAny (model pw w) A (EQ a true) P E s:=by
 subst i j;refine Bq (WC w _ x.T) MS (Ai te8237150286054735562 _) [] k l m AR Ar (S.part (TL [x]) (La:=[(_,li (AL [x]) 0)]) (AW _)) λn o r d e g _ b=> ?_;have b:MS e= .ret .none:=b;cases e with
 |again c=>cases b
 |done f=>
  obtain rfl:f= .ret .none:=b;exact h d (Ag.part (TL [x]) S (La:=[(_,li (AL [x]) 0)]) (AW _) g)
theorem sC{w:Aa}{rs n:Nat}{X Y:List TE}{f:TE→Nat}(a:X.Perm Y)(K:Nc Y f)(o:0<X.length)(b:X.length<64):Av w (sA rs n X Y):=by
 intro A i j k s S _;have l:A.in1.in1.handled=none:=k;have c:A.in1.units≤2801:=Cz j 1;refine Rr (ws:=AL Y) (rZ _) (λD=>Wt _) (λD=>Wr D true) (by simp[AL];(first|lia|omega)) S (λ {D d P E} S h=> ?_) λd D e=>⟨[D],[],[],rfl,rfl,rfl,rfl,?_,e.toks⟩
 ·by_cases m:2≤X.length
  ·exact rY a K m b S h
  ·obtain⟨x,g⟩: ∃x,X=[x]:=List.length_eq_one_iff.mp (by (first|lia|omega))
   exact sB g (List.perm_singleton.mp (g▸a).symm) l (Ay (show A.in1.in1.depth≤500 from i) (by decide)) (Ay (Cz c 1) (by decide)) S h
 ·refine (?_:Ag (kt w) s d ([(rs,li (AL X) n)]++TL Y) ((rs,_)::Bk (TL Y) (Y.map CF)++[(D,_)]))
  rw[Pk];exact e
noncomputable def Nd(a b:Nat)(e g i:List Value)(n k:Nat):Ak:=
 {d:=900,u:=9000,h:=none,c:=.call (.builtin Qd) ⟨[.ref a,.ref b],[]⟩,idx:=[],pre:=[(a,li e n),(b,li g k)],na:=1,nt:=0,r:=λa _=>.ok (.ret (.ref (a.getD 0 0))),outs:=λ_ _ _=>[li e n,li g k],news:=λ_ _ _=>[li i 0]}
theorem WV{w:Aa}{a b n k:Nat}{c d j:List Value}(m:c.length+d.length≤1000)(hz:c++d=j):Av w (Nd a b c d j n k):=by
 subst hz;refine GR λA s t u v S R r=> ?_;have i:=S.mem (a,li c n) (by simp[Nd]);have g:=S.mem (b,li d k) (by simp[Nd]);rw[BW]at i g;refine (?_:codeAny _ _ (.call (.builtin Qd) _) _ s);rw[qL];refine DT F.slot_list_add.plain F.entry_list_add (F.slot_list_add.check _ _ _ _ _ _ _ _ ⟨_,i,rfl⟩ (F.args_list_add_2 _ _) ?_);unfold Builtin.«list.__add__»;refine Af (GH (show slotArgs "__add__" 1 ⟨[.ref a,.ref b],[]⟩=pure (.ref a,[.ref b])from rfl) ?_);dsimp only;refine Af (wpAny_isInstance (T:="list") ⟨_,g,rfl⟩ AutoSeq1.sub_list_list ?_);rw[AH (by (first|((repeat(first|exact .head _|apply List.mem_cons_of_mem));done)|simp))];refine Af (listItems_at i rfl ?_);refine Af (listItems_at g rfl ?_);have h:=S.push (o:=li (c++d) 0) rfl;have l:(li (c++d) 0:Obj)={cls:=.type "list",data:=.seq ((⟨c⟩:Array Value)++⟨d⟩)}:=by
  rw[BW];congr 2;(first|((repeat(first|exact .head _|apply List.mem_cons_of_mem));done)|simp)
 rw[l]at h;refine Af (wpAny_newObj_type (Aq (r _ [s.heap.objs.size] [] [] rfl rfl rfl ?_ (A7 _))) ?_)
 ·refine (?_:Ag (kt w) s _ [(a,li c n),(b,li d k)] [(a,li c n),(b,li d k),(s.heap.objs.size,li (c++d) 0)])
  rw[l];exact h
 ·have e:((⟨c⟩:Array Value)++⟨d⟩).size=c.length+d.length:=by (first|((repeat(first|exact .head _|apply List.mem_cons_of_mem));done)|simp)
  show((⟨c⟩:Array Value)++⟨d⟩).size≤sizeLine;rw[e];exact Ay m (by decide)
noncomputable def Cw(a i:Nat):Nat→Nat:=chOf (EB.getD ((i+a)%16) [])
noncomputable def De(a:Nat)(T:List Nat)(i:Nat):Nat:=T.getD ((i+a)%16) 0
noncomputable def R0(c:Bool)(d n g t e:Nat)(A:Nat→Nat→Nat)(a b i:Nat→Nat)(h:Nat):Ak:=
 {RO d n g t e A a b i h with pre:=(match c with|true=>[]|false=>[(0,li [] 0),(0,li [] 0)])++[(d,li (B9 A a 16) n),(248,AP [])],outs:=λ_ _ o=>(match c with|true=>[]|false=>[li [] 0,li [] 0])++[li (B9 A a 16) n,AP (MJ (o.getD 0 default))]}
theorem sD(w:Aa)(f r t j l m s c:Nat)(S:Int)(n:List Value)(p:Nat→Bool)(u:Nat→Nat)(h:Nat):
  AF w 183 (tw14873425280484609581 f r t) ([(f,fr [] 0),(r,Aw j),(t,ce none),(j,li n l),(248,AP [])]) (dg 15 0x4b0f39c9a573305593427a70f4806842f4e2475e4afcdef7ccf3bee093085) (AE [(4,[1,3,6,7,8]),(0,[3]),(2,[3]),(1,[]),(0,[9,10]),(0,[9,12]),(0,[11,13]),(0,[7]),(0,[14,4])] ([λb a d=>WN w.2 f r (tk b 1) (tk b 2) (tk b 3) j l n p,λb a d=>Dd j n l m,λb a d=>RP j l n S,λb a d=>WJ,λb a d=>ET (tk b 4) (tk b 5) (Cm ((a.drop 12).take 16)) 16 (.int c (tk a 10)) .none .none ((Cm ((a.drop 12).take 16)).drop c),λb a d=>ET (tk b 4) (tk b 7) (Cm ((a.drop 12).take 16)) 16 .none (.int c (tk a 10)) .none ((Cm ((a.drop 12).take 16)).take c),λb a d=>Nd (tk b 6) (tk b 8) ((Cm ((a.drop 12).take 16)).drop c) ((Cm ((a.drop 12).take 16)).take c) (B9 (Cw c) (De c ((a.drop 12).take 16)) 16) 0 0,λb a d=>KF (tk b 2) (BD (Bz p 8) λi=>Ao (d.take 11) (3+i)) (Bz p 8).length (Bz p 8),λb a d=>R0 (Nat.ble 31 a.length) (tk b 9) 0 s (tk a 30) (tk a 7) (Cw c) (De c ((a.drop 12).take 16)) (chOf (Bz p 8)) u h])) (Bh [4,0,0] [λb a d=>(.int ((m:Int).fmod 9) (tk a 6),.int (m%9:Nat) (tk a 6)),λb a d=>(.int ((9:Int)-(m%9:Nat)) (tk a 7),.int (s:Nat) (tk a 7)),λb a d=>(.int (S.fmod 16) (tk a 10),.int (c:Nat) (tk a 10))]) 440 2000 (zr 5 [7,9,14,15])
   (λg e o=>.done .next) (λg e o=>[(f,fr [Ad w Om (e 8) (.int s (e 7)),Ad w Ol (e 11) (.int c (e 10)),Ad w Oj (e 28) (.ref (g 4)),Ad w Hx (e 29) (.ref (g 9)),Ad w Ok (e 31) (.ref (g 10))] 5),(r,Aw j),(t,Aw (g 2)),(j,li n l),(248,AP (MJ (o 12))),(g 2,li (BD (Bz p 8) λi=>Ao (Ms o) (3+i)) (Bz p 8).length),(g 4,li (Cm (Lb e)) 16),(g 9,li (B9 (Cw c) (De c (Lb e)) 16) 0),(g 10,li (((List.range h).map λk=>.str (sf (Cw c (u k))) (De c (Lb e) (u k))).take s) (Ao [o 12,o 13] 1))]) 32:=by
 kernel_rfl
noncomputable def Nf(b n:Nat)(X:List TE)(e:List Nat):Ak:=
 {d:=500,u:=2800,h:=none,c:=.call (.builtin Kn) ⟨[.ref b],[(G4,.bool true)]⟩,idx:=[],pre:=[(b,li (AL X) n)]++TL X,na:=1,nt:=0,r:=λa _=>.ok (.ret (.ref (a.getD 0 0))),outs:=λ_ _ _=>[li (AL X) n]++X.map CF,news:=λ_ _ _=>[li (e.map λj=>.ref (X.getD j tz).T) 2]}
theorem sE{w:Aa}{c n:Nat}{X:List TE}{b:List Nat}{f:TE→Nat}(g:b.Perm (List.range X.length))(K:Nc (b.map λj=>X.getD j tz) f)(l:0<X.length)(h:X.length<64):Av w (Nf c n X b):=by
 have i:X.Perm (b.map λj=>X.getD j tz):=by
  have:=(g.map λj=>X.getD j tz).symm;rwa[O2]at this
 have e:(TL X).Perm (TL (b.map λj=>X.getD j tz)):=i.map _;have m:AL (b.map λj=>X.getD j tz)=b.map λj=>.ref (X.getD j tz).T:=by unfold AL;rw[BZ];rfl
 intro A u v y s S G;have S:An (kt w) s ([(c,li (AL X) n)]++TL X):=S;refine B4 (sC (w:=w) (rs:=c) (n:=n) i K l h A u v y s (S.perm (e.append_left _)) G) ?_;rintro r k ⟨a,t,o,z,B,C,D,d,E⟩;refine⟨a,t,o,z,B,C,D,?_,E⟩;have d:Ag (kt w) s k ([(c,li (AL X) n)]++TL (b.map λj=>X.getD j tz)) (((c,li (AL X) n)::Bk (TL (b.map λj=>X.getD j tz)) ((b.map λj=>X.getD j tz).map CF))++BH a [li (AL (b.map λj=>X.getD j tz)) 2]):=d;rw[Pk,m]at d;refine (?_:Ag (kt w) s k ([(c,li (AL X) n)]++TL X) (((c,li (AL X) n)::Bk (TL X) (X.map CF))++BH a [li (b.map λj=>.ref (X.getD j tz).T) 2]));rw[Pk];refine(d.permL (e.symm.append_left _)).permR ?_;exact(AO [_,_] [_] [0,2,1,2,4] [0,1,2,1,0,1,4]).trans ((FF _ e.symm).trans (AO [_,_] [_] [0,1,2,1,0,1,4] [0,2,1,2,4]))
noncomputable abbrev R4:Expr:=A9 (Br (sk (lw 6) 0 [])) 1
noncomputable def Ff(a:Nat):Obj:=⟨xP,none,.func {name:=⟨⟨[60,108,97,109,98,100,97,62]⟩⟩,qualname:=⟨⟨[108,97,119,46,60,108,111,99,97,108,115,62,46,60,108,97,109,98,100,97,62]⟩⟩,params:=XS R4,body:=.expr (eE R4 0),scope:=Fq R4,globals:=3,closure:=[],defaults:=.none,kwdefaults:=.none,doc:=.none,pyModule:=.str ⟨⟨[108,97,119,95,111,104,48,49,50,48,95,48,49]⟩⟩ 772,annotations:=none,code:=.ref a,closureTuple:=.none,builtins:=0},⟨[]⟩⟩
noncomputable abbrev JZ:Stmt:=AB (AN (DX 13)).reverse 1
noncomputable abbrev J0(f:Nat):Env:={scope:=EH (DX 13),locals:=f,globals:=3,cells:=[],qual:=⟨⟨[114,101,100,117,99,101,46,60,108,111,99,97,108,115,62,46]⟩⟩,func:=some 295,code:=.ref 294,frame:=some f,builtins:=0}
noncomputable abbrev He(P:Aj)(e:Nat→Nat)(a g b c v t:Nat)(x:List DictEntry)(m:Nat):Obj:=fr ([Ap P yB (e 0) (.ref a),Ap P yQ (e 1) (.ref g),Ap P yC (e 2) (.int 0 c),Ap P DY (e 3) (.ref b),Ap P yT (e 4) (.int v t)]++x) m
noncomputable abbrev sF:Value:=.type s5856160107412720595x4
noncomputable abbrev Fg(q u:Nat→Nat):Obj:=fi sF [.str ⟨⟨[60,108,97,109,98,100,97,62]⟩⟩ (u 0),.str ⟨⟨[108,97,119,46,60,108,111,99,97,108,115,62,46,60,108,97,109,98,100,97,62]⟩⟩ (u 1),.str ⟨⟨[47,99,108,97,105,109,47,99,117,116,46,112,121]⟩⟩ (u 2),.int 628 0,.int 2 0,.int 0 0,.int 0 0,.int 19 0,.ref (q 0),.bool true,.int 316 0,.ref (q 1),.none,.ref (q 2),.ref (q 3),.ref (q 4),.int (u 3) 0,.int 628 0,.str ⟨⟨[47,99,108,97,105,109,47,99,117,116,46,112,121]⟩⟩ (u 4)]
noncomputable def sH:Obj→List DictEntry
 |⟨_,_,.dict a _,_⟩=>a.toList
 |_=>[]
noncomputable def WX(P:Aj)(e:Nat→Nat)(f b g n a i j:Nat)(q z:Nat→Nat)(k:List Value)(v:Nat):Ak:=
 {d:=480,u:=2600,h:=none,c:=BS JZ b (J0 f),idx:=[],pre:=[(f,He P e a g b j 0 j [] 5),(b,liO g 0),(g,li k n),(a,Ff i),(i,Fg q z)],na:=0,nt:=0,no:=4,r:=λ_ _=>.ok .next,
  outs:=λ_ _ o=>[He P e a g b j v (Ao o 0) (sH (o.getD 1 default)) (Ao o 2),o.getD 3 default,li k n,Ff i,Fg q z],news:=λ_ _ _=>[]}
theorem sJ(w:Aa)(f a g n i b c l v t k u y:Nat)(A:Value)(e q z:Nat→Nat)(d:List Value):
  AI w 58 (BS JZ a (J0 f)) ([(f,He w.2 e b g a l v t [] 5),(a,liO g i),(g,li d n),(b,Ff c),(c,Fg q z)]) (dg 7 0x1e9a10ea97fd4fe2c) (AE [(0,[1,2])] ([λm h o=>Ez a g i d n (.int k u)])) (Bh [0] [λm h o=>(.int (Builtin.bitXor (v:Int) (k:Int)) (tk h 3),.int (Nat.xor v k:Nat) (tk h 3))]) 0 480 2600 (.range 5)
   (λr j s=>.again (BS JZ a (J0 f))) (λr j s=>[(f,He w.2 e b g a l (Nat.xor v k) (j 3) [Ad w Of (j 0) (.int k u)] 6),(a,liO g (i+1)),(g,li d n),(b,Ff c),(c,Fg q z)]) 5:=by
 kernel_rfl
theorem sK(w:Aa)(f a g n i b c j v t k u y:Nat)(m:Value)(e q z:Nat→Nat)(d:List Value):
  AI w 58 (BS JZ a (J0 f)) ([(f,He w.2 e b g a j v t [Ad w Of y m] 6),(a,liO g i),(g,li d n),(b,Ff c),(c,Fg q z)]) (dg 7 0x1e9a10ea97fd4fe2c) (AE [(0,[1,2])] ([λo h r=>Ez a g i d n (.int k u)])) (Bh [0] [λo h r=>(.int (Builtin.bitXor (v:Int) (k:Int)) (tk h 3),.int (Nat.xor v k:Nat) (tk h 3))]) 0 480 2600 (.range 5)
   (λs l A=>.again (BS JZ a (J0 f))) (λs l A=>[(f,He w.2 e b g a j (Nat.xor v k) (l 3) [Ad w Of y (.int k u)] 6),(a,liO g (i+1)),(g,li d n),(b,Ff c),(c,Fg q z)]) 5:=by
 kernel_rfl
theorem sL(w:Aa)(f a g n i:Nat)(o:Obj)(b:List Value):
  AI w 11 (BS JZ a (J0 f)) (Gn a g i b n) [1,4] (JQ a g i b n) [] 1 480 2600 [0,1]
   (λc d e=>.done .next) (λc d e=>(JR a i g b n)) 0:=by
 kernel_rfl
theorem sM(w:Aa)(g n a b h v:Nat)(q z:Nat→Nat)(e:List Value):
  AI w 86 (.call (.ref 295) ⟨[.ref a,.ref g,.int 0 h],[]⟩) ([(g,li e n),(a,Ff b),(b,Fg q z)]) (dg 6 0x4b0854ef15714f71cc29b75de) (AE [(3,[3,4,0,1,2])] ([λj c m=>WX w.2 (λi=>[tk c 0,tk c 1,tk c 2,tk c 4,tk c 5].getD i 0) (tk j 0) (tk j 1) g n a b h q z e v])) [] 1 460 2400 [0,1,2]
   (λk l d=>.done (.ret (.int (↑v) (Ao [d 0,d 1,d 2,d 3] 0)))) (λk l d=>[(g,li e n),(a,Ff b),(b,Fg q z)]) 6:=by
 kernel_rfl
theorem WY{v k:Nat}(a:v<8)(b:k<8):Builtin.bitXor (v:Int) (k:Int)=((Nat.xor v k:Nat):Int)∧Nat.xor v k<8:=by
 have h: ∀v:Fin 8,∀k:Fin 8,Builtin.bitXor (v.val:Int) (k.val:Int)=((Nat.xor v.val k.val:Nat):Int)∧Nat.xor v.val k.val<8:=by decide+kernel
 exact h ⟨v,a⟩ ⟨k,b⟩
inductive R5 (P:Aj):Nat→List DictEntry→Prop
 |a:R5 P 5 []
 |b (y:Nat) (v:Value):R5 P 6 [Ap P Of y v]
theorem sN{w:Aa}{A:Al}(H:A.handled=none)(I:A.depth≤480)(J:A.units≤2600){f d g n h s C:Nat}{e q z:Nat→Nat}{l:List Value}{c:List Nat}(M:AX l (c.map Int.ofNat))(N: ∀k∈c,k<8):
  ∀(j i:Nat),i+j=c.length→ ∀(v t m:Nat) (x:List DictEntry),v<8→R5 w.2 m x→
   RunsW w A (BS JZ d (J0 f)) [(f,He w.2 e h g d C v t x m),(d,liO g i),(g,li l n),(h,Ff s),(s,Fg q z)]
    λr K B=>r= .ok .next∧B=[]∧Ke λ (S T:Nat) (U:List DictEntry) (o:Obj)=>K=[(f,He w.2 e h g d C ((c.drop i).foldl Nat.xor v) S U T),(d,o),(g,li l n),(h,Ff s),(s,Fg q z)]:=by
 intro j
 induction j with
 |zero=>
  intro i V v t m x L F;obtain rfl:i=c.length:=by (first|lia|omega)
  rw[List.drop_length];refine Gj [(f,He w.2 e h g d C v t x m),(h,Ff s),(s,Fg q z)] (L1:=[(d,liO g c.length),(g,li l n)]) (by exact(EF (l₁:=[(d,liO g c.length),(g,li l n)])))
   (Bf (sL w f d g n c.length default l) [] H I J (AD _ _ (Ah (λ_ _ _=>IQ (by rw[Je];rw[G0 M,BY];exact A7 _)) AC)) Ar (Φ:=λr K B=>B=[]∧r= .ok .next∧K=[(d,fi Bo [.none,.int (c.length:Int) 0]),(g,li l n)]) λO P Q=>⟨rfl,rfl,rfl⟩) λr L0 B ⟨Y,h1,h2⟩=>⟨[(f,He w.2 e h g d C v t x m),(d,fi Bo [.none,.int (c.length:Int) 0]),(g,li l n),(h,Ff s),(s,Fg q z)],?_,h1,Y,t,m,x,_,rfl⟩
  rw[h2];exact(EF (l₁:=[(d,fi Bo [.none,.int (c.length:Int) 0]),(g,li l n)]))
 |succ j R=>
  intro i V v t m x L F;have D:i<c.length:=by (first|lia|omega)
  obtain⟨u,E⟩:=WK M i (by rw[BY];exact D);rw[J9]at E;have E:l[i]? =some (.int (c[i]:Int) u):=E;have Z:(c.drop i).foldl Nat.xor v=(c.drop (i+1)).foldl Nat.xor (Nat.xor v c[i]):=by rw[NA D];rfl
  rw[Z];have X:DD w [λas B gh=>Ez d g i l n (.int (c[i]:Int) u)]:=Ah (λ_ _ _=>HJ E) AC;have W:E8 [λas B gh=>(.int (Builtin.bitXor (v:Int) (c[i]:Int)) (tk B 3),.int (Nat.xor v c[i]:Nat) (tk B 3))]:=Az (λ_ _ _=>by rw[(WY L (N _ (C0 D))).1]) Bp;have G:=(WY L (N _ (C0 D))).2;cases F with
  |a=>exact EZ (sJ w f d g n i h s C v t c[i] u 0 .none e q z l) [] H I J (AD _ _ X) (Bi _ _ W) λO P Q=>R (i+1) (by (first|lia|omega)) _ _ _ _ G (.b _ _)
  |b y v9=>exact EZ (sK w f d g n i h s C v t c[i] u y v9 e q z l) [] H I J (AD _ _ X) (Bi _ _ W) λO P Q=>R (i+1) (by (first|lia|omega)) _ _ _ _ G (.b _ _)
theorem sO{w:Aa}{e:Nat→Nat}{f i g n c j d:Nat}{q z:Nat→Nat}{h:List Value}{b:List Nat}(l:AX h (b.map Int.ofNat))(m: ∀k∈b,k<8):Av w (WX w.2 e f i g n c j d q z h (b.foldl Nat.xor 0)):=by
 refine Ba.ext λA s t u=> ?_;refine(sN u s t l m b.length 0 (by (first|lia|omega)) 0 d 5 [] (by decide) .a).mono λr F G hz=> ?_;obtain⟨v,y,B,C,D,o,E⟩:=hz;subst y;refine⟨[],[Ac B,⟨.none,none,.dict ⟨D⟩ 0,#[]⟩,Ac C,o],rfl,rfl,rfl,v,?_⟩;rw[E,List.drop_zero];rfl
noncomputable def WZ(g n a b i v:Nat)(q z:Nat→Nat)(e:List Value):Ak:=
 {d:=460,u:=2400,h:=none,c:=.call (.ref 295) ⟨[.ref a,.ref g,.int 0 i],[]⟩,idx:=[],pre:=[(g,li e n),(a,Ff b),(b,Fg q z)],na:=0,nt:=0,no:=1,r:=λ_ _=>.ok .next,rx:=λo _=>.ok (.ret (.int v (Ao o 0))),outs:=λ_ _ _=>[li e n,Ff b,Fg q z],news:=λ_ _ _=>[]}
theorem sQ{w:Aa}{g n a c d:Nat}{q z:Nat→Nat}{b:List Value}{ks:List Nat}(e:AX b (ks.map Int.ofNat))(h: ∀k∈ks,k<8):Av w (WZ g n a c d (ks.foldl Nat.xor 0) q z b):=by
 refine Ba.ext λA i j l=> ?_;exact Bf (sM w g n a c d (ks.foldl Nat.xor 0) q z b) [] l i j (AD _ _ (Ah (λ_ _ _=>sO e h) AC)) Ar λo r m=>⟨[],[m 0],rfl,rfl,rfl,rfl,rfl⟩
noncomputable abbrev EC(P:Aj)(y:Nat→Nat)(a b c d e g h:Nat)(x:List DictEntry)(n:Nat):Obj:=fr ([Ap P Om (y 0) (.int a b),Ap P Ol (y 1) (.int c d),Ap P Oj (y 2) (.ref e),Ap P Hx (y 3) (.ref g),Ap P Ok (y 4) (.ref h)]++x) n
noncomputable def Cx(h:Nat)(T b:Nat→Nat)(F:Nat→List Int)(a:List Int)(o:List Obj):List TE:=(List.range h).map λj=>⟨T j,8-(F j).length,Ao o (2+2*j),BX (DM a (F j) 8),Ao o (3+2*j),b j⟩
theorem sR(w:Aa)(f c d j b e k l m n o r s v:Nat)(y:Nat→Nat)(g:List Value):
  AF w 45 (tw9550894505775361806 f c d) ([(f,EC w.2 y k l m n o r s [] 5),(c,Aw j),(d,Aw b),(b,li g e),(329,AP [])]) (dg 6 80539270711) (AE [(0,[3,11,10])] ([λh a A=>WZ b e (tk h 6) (tk h 5) (tk a 7) v (λi=>tk h i) (λi=>[tk a 0,tk a 1,tk a 2,tk a 5,tk a 6].getD i 0) g])) [] 440 2000 (.range 5)
   (λt u z=>.done .next) (λt u z=>[(f,fr [Ad w Om (y 0) (AV k l),Ad w Ol (y 1) (AV m n),Ad w Oj (y 2) (.ref o),Ad w Hx (y 3) (.ref r),Ad w Ok (y 4) (.ref s),Ad w Fs (u 8) (.int (↑v) (Ao [z 0] 0))] 6),(c,Aw j),(d,Aw b),(b,li g e),(329,fi .none [.int 628 0,.int 19 0,.ref (t 5)])]) 9:=by
 kernel_rfl
theorem sS(w:Aa)(f o k z g l h r A B C D E v s G:Nat)(y:Nat→Nat)(m:List Value)(a:List Int)(F:List (List Int))(n:List Nat):
  AF w 72 (tw5837675800663238876 f o k) ([(f,EC w.2 y h r A B C D E [Ad w Fs G (.int v s)] 6),(o,Aw z),(k,Aw g),(g,li m l)]) (dg 12 0x326032f029721ec0b4dd94d) (AE [(0,[3]),(1,[2,3,6,4,7,8,5]),(0,[7,9]),(0,[10,11])] ([λb t e=>Ib g l v s m 1 F,λb t e=>Ie w.2 f k (tk b 2) (tk b 3) (tk b 4) g l (tk b 0) (Ao e 0) 1 m a (λj=>tk b (1+j)) (λj=>F.getD j []) (λj i=>Ao (e.take 4) (1+3*j+i)),λb t e=>Nf (tk b 3) 1 (Cx 1 (λj=>tk b (5+j)) (λj=>tk b (1+j)) (λj=>F.getD j []) a ((e.drop 4).take 4)) n,λb t e=>ET (tk b 6) (tk b 7) (n.map λj=>.ref ((Cx 1 (λj=>tk b (5+j)) (λj=>tk b (1+j)) (λj=>F.getD j []) a ((e.drop 4).take 4)).getD j tz).T) 2 .none (.int h r) .none ((n.map λj=>.ref ((Cx 1 (λj=>tk b (5+j)) (λj=>tk b (1+j)) (λj=>F.getD j []) a ((e.drop 4).take 4)).getD j tz).T).take h)])) [] 440 2000 [0,1,2,3,12,5,9]
   (λd u c=>.done .next) (λd u c=>[(f,EC w.2 y h r A B C D E [Ad w Fs G (.int v s),Ad w LY (u 0) (.ref (d 3)),Ad w LW (u 1) (.ref (d 8))] 8),(o,Aw z),(k,Aw g),(g,li m l),(d 8,li ((n.map λj=>.ref ((Cx 1 (λj=>d (5+j)) (λj=>d (1+j)) (λj=>F.getD j []) a [c 4,c 5,c 6,c 7]).getD j tz).T).take h) 0)]++((List.range 1).map λj=>(d (1+j),li (BD (F.getD j []) λi=>Ao [c 0,c 1,c 2,c 3] (1+3*j+i)) 0))++TL (Cx 1 (λj=>d (5+j)) (λj=>d (1+j)) (λj=>F.getD j []) a [c 4,c 5,c 6,c 7])) 2:=by
 kernel_rfl
noncomputable abbrev R6(a:Nat→Obj):=[a 13,a 14,a 15,a 16,a 17,a 18,a 19,a 20,a 21,a 22]
theorem sU(w:Aa)(f o k z g l h r A B C D E v s G:Nat)(y:Nat→Nat)(m:List Value)(a:List Int)(F:List (List Int))(n:List Nat):
  AF w 72 (tw5837675800663238876 f o k) ([(f,EC w.2 y h r A B C D E [Ad w Fs G (.int v s)] 6),(o,Aw z),(k,Aw g),(g,li m l)]) (dg 18 0x132e8e926b610ed381c0ed24e4b) (AE [(0,[3]),(1,[2,3,9,4,10,11,5,6,7,8]),(0,[10,12,13,14,15]),(0,[16,17])] ([λb t e=>Ib g l v s m 4 F,λb t e=>Ie w.2 f k (tk b 5) (tk b 6) (tk b 7) g l (tk b 0) (Ao e 0) 4 m a (λj=>tk b (1+j)) (λj=>F.getD j []) (λj i=>Ao (e.take 13) (1+3*j+i)),λb t e=>Nf (tk b 6) 4 (Cx 4 (λj=>tk b (8+j)) (λj=>tk b (1+j)) (λj=>F.getD j []) a ((e.drop 13).take 10)) n,λb t e=>ET (tk b 12) (tk b 13) (n.map λj=>.ref ((Cx 4 (λj=>tk b (8+j)) (λj=>tk b (1+j)) (λj=>F.getD j []) a ((e.drop 13).take 10)).getD j tz).T) 2 .none (.int h r) .none ((n.map λj=>.ref ((Cx 4 (λj=>tk b (8+j)) (λj=>tk b (1+j)) (λj=>F.getD j []) a ((e.drop 13).take 10)).getD j tz).T).take h)])) [] 440 2000 [0,1,2,3,18,5,6,7,8,12,13,14,15]
   (λd u c=>.done .next) (λd u c=>[(f,EC w.2 y h r A B C D E [Ad w Fs G (.int v s),Ad w LY (u 0) (.ref (d 6)),Ad w LW (u 1) (.ref (d 14))] 8),(o,Aw z),(k,Aw g),(g,li m l),(d 14,li ((n.map λj=>.ref ((Cx 4 (λj=>d (8+j)) (λj=>d (1+j)) (λj=>F.getD j []) a (R6 c)).getD j tz).T).take h) 0)]++((List.range 4).map λj=>(d (1+j),li (BD (F.getD j []) λi=>Ao [c 0,c 1,c 2,c 3,c 4,c 5,c 6,c 7,c 8,c 9,c 10,c 11,c 12] (1+3*j+i)) 0))++TL (Cx 4 (λj=>d (8+j)) (λj=>d (1+j)) (λj=>F.getD j []) a (R6 c))) 2:=by
 kernel_rfl
noncomputable abbrev R7(a:Nat→Obj):=[a 25,a 26,a 27,a 28,a 29,a 30,a 31,a 32,a 33,a 34,a 35,a 36,a 37,a 38,a 39,a 40,a 41,a 42]
noncomputable abbrev W1(a:Nat→Obj):=[a 0,a 1,a 2,a 3,a 4,a 5,a 6,a 7,a 8,a 9,a 10,a 11,a 12,a 13,a 14,a 15,a 16,a 17,a 18,a 19,a 20,a 21,a 22,a 23,a 24]
theorem sV(w:Aa)(f o h z e k g r A B C D E v s G:Nat)(y:Nat→Nat)(l:List Value)(a:List Int)(F:List (List Int))(m:List Nat):
  AF w 72 (tw5837675800663238876 f o h) ([(f,EC w.2 y g r A B C D E [Ad w Fs G (.int v s)] 6),(o,Aw z),(h,Aw e),(e,li l k)]) (dg 26 0x2dce53d36ad726175fa95e3b0e6a73) (AE [(0,[3]),(1,dg 16 82143342635817660),(0,[14,16,17,18,19,20,21,22,23]),(0,[24,25])] ([λb t d=>Ib e k v s l 8 F,λb t d=>Ie w.2 f h (tk b 9) (tk b 10) (tk b 11) e k (tk b 0) (Ao d 0) 8 l a (λj=>tk b (1+j)) (λj=>F.getD j []) (λj i=>Ao (d.take 25) (1+3*j+i)),λb t d=>Nf (tk b 10) 8 (Cx 8 (λj=>tk b (12+j)) (λj=>tk b (1+j)) (λj=>F.getD j []) a ((d.drop 25).take 18)) m,λb t d=>ET (tk b 20) (tk b 21) (m.map λj=>.ref ((Cx 8 (λj=>tk b (12+j)) (λj=>tk b (1+j)) (λj=>F.getD j []) a ((d.drop 25).take 18)).getD j tz).T) 2 .none (.int g r) .none ((m.map λj=>.ref ((Cx 8 (λj=>tk b (12+j)) (λj=>tk b (1+j)) (λj=>F.getD j []) a ((d.drop 25).take 18)).getD j tz).T).take g)])) [] 440 2000 (dg 27 0xe77c0e0b4cc48ed3a21b9cce3)
   (λc u n=>.done .next) (λc u n=>[(f,EC w.2 y g r A B C D E [Ad w Fs G (.int v s),Ad w LY (u 0) (.ref (c 10)),Ad w LW (u 1) (.ref (c 22))] 8),(o,Aw z),(h,Aw e),(e,li l k),(c 22,li ((m.map λj=>.ref ((Cx 8 (λj=>c (12+j)) (λj=>c (1+j)) (λj=>F.getD j []) a (R7 n)).getD j tz).T).take g) 0)]++((List.range 8).map λj=>(c (1+j),li (BD (F.getD j []) λi=>Ao (W1 n) (1+3*j+i)) 0))++TL (Cx 8 (λj=>c (12+j)) (λj=>c (1+j)) (λj=>F.getD j []) a (R7 n))) 2:=by
 kernel_rfl
theorem sW(w:Aa)(b:Nat):
  AI w 14 (.call (.ref 332) ⟨[.ref b],[]⟩) ([]) [0,0,2,2,0,1] [] [] 0 420 1900 [0,1,2]
   (λa c d=>.again (.func Pi (Bv (a 0) (a 1) (a 2)))) (λa c d=>[(a 0,fr [] 0),(a 1,Aw b),(a 2,ce none)]) 0:=by
 kernel_rfl
set_option maxHeartbeats 4000000
noncomputable abbrev Gx:Stmt:=AB (AN (lw 10)) 1
noncomputable abbrev J1:Stmt:=AB (AN (lw 10)) 0
noncomputable abbrev EU:Expr:=sk J1 0 []
noncomputable def trw9L(f a b:Nat):Sem AA:=eval (A9 ((Br (sT (lw 9)))) 0) (Bv f a b)>>=λv=>pure (.done (.ret v))
noncomputable def trw9R(f a b:Nat):Sem AA:=eval (A9 ((Br (sT (lw 9)))) 1) (Bv f a b)>>=λv=>pure (.done (.ret v))
noncomputable def trwI(f a b:Nat):Sem AA:=(eval (Ev (lw 10)) (Bv f a b)>>=λv=>foldedSetIterable (Ev (lw 10)) (Bv f a b) v>>=λx=>standAt (Ev (lw 10)).pos>>=λ_=>holding [x] (pyIter x))>>=λv=>pure (.done (.ret v))
noncomputable def trwA(f a b x:Nat):Sem AA:=assign ((sT (lw 10))) (Bv f a b) (.ref x)>>=λ_=>pure (.done .next)
noncomputable def trwF(f a b:Nat):Sem AA:=eval (A9 (Br EU) 0) (Bv f a b)>>=λv=>pure (.done (.ret v))
noncomputable def trwa(f a b:Nat):Sem AA:=eval (A9 (Br EU) 1) (Bv f a b)>>=λv=>pure (.done (.ret v))
noncomputable def trwb(f a b:Nat):Sem AA:=eval (A9 (Br EU) 2) (Bv f a b)>>=λv=>pure (.done (.ret v))
noncomputable def trwS(f a b x:Nat):Sem AA:=assignAll (.ref x) ((assignEach [sk J1 1 []] (Bv f a b)).map (·.2))>>=λ_=>pure (.done .next)
noncomputable def trwX(f a b:Nat):Sem AA:=eval (A9 (Br (sT Gx)) 0) (Bv f a b)>>=λv=>pure (.done (.ret v))
noncomputable def trwY(f a b:Nat):Sem AA:=eval (A9 (Br (sT Gx)) 1) (Bv f a b)>>=λv=>pure (.done (.ret v))
noncomputable def trwJ(f a b:Nat):Sem AA:=eval (A9 (Br ((sk (lw 11) 0 []))) 0) (Bv f a b)>>=λv=>pure (.done (.ret v))
noncomputable def trwK(f a b:Nat):Sem AA:=eval (A9 (Br ((sk (lw 11) 0 []))) 1) (Bv f a b)>>=λv=>pure (.done (.ret v))
lay_quick trw9L trw9R trwI trwA trwF trwa trwb trwS trwX trwY trwJ trwK
set_option maxHeartbeats 400000
noncomputable abbrev R8:Expr:=A9 ((Br (sT (lw 9)))) 1
noncomputable abbrev W2(f a:Nat):Env:={scope:=Fq R8,locals:=a,globals:=3,cells:=[],qual:=⟨⟨Na⟩⟩,func:=none,code:=.ref 331,frame:=some f,builtins:=0}
noncomputable abbrev Pl(f b c a:Nat):Code:=.compLoop R8 0 (.ref c) (.ref a) (W2 f b)
noncomputable abbrev Pm(m:Nat):Expr:=A9 (Br (A9 (Br (sT Gx)) 1)) m
noncomputable abbrev R9(m f a b:Nat):Env:={scope:={Fq (Pm m)with names:=[(Hw,.local),(DC,.local),(GO,.cell)]},locals:=b,globals:=3,cells:=[(GO,a)],qual:=⟨⟨Na⟩⟩,func:=none,code:=.ref 331,frame:=some f,builtins:=0}
noncomputable abbrev Pn(m f b c d a:Nat):Code:=.compLoop (Pm m) 0 (.ref d) (.ref a) (R9 m f b c)
noncomputable abbrev W3(P:Aj)(a c d:Nat)(e g h:Value)(b:Bool):Obj:=di (cond b [Ap P Hy a e,Ap P Gg c g,Ap P DB d h] []) (cond b 3 0)
theorem sZ(w:Aa)(f d a h e l i k T c m g n t u v:Nat)(s:Str)(y z A:Value)(o r:List Value)(b:Bool):
  AI w 90 (Pl f h d a) ([(d,liO e i),(e,li o l),(a,li r k),(h,W3 w.2 t u v y z A b),(T,tu [.int c m,.str s g,.ref n] 0)]) (dg 9 0x23dc0a811a433e03b60277f91e980651587b46) (AE [(0,[0,1]),(5,[2])] ([λB C D=>Ez d e i o l (.ref T),λB C D=>CQ a r k (.str s g)])) [] 0 450 2200 (.range 5)
   (λE j F=>.again (Pl f h d a)) (λE j F=>[(d,fi Bo [.ref e,.int (↑(i+1)) 0]),(e,li o l),(a,li (r++[Value.str s g]) k.succ),(h,di [Ad w Hy (cond b t (j 0)) (.int c m),Ad w Gg (cond b u (j 1)) (.str s g),Ad w DB (cond b v (j 2)) (.ref n)] 3),(T,tu [AV c m,.str s g,.ref n] 0)]) 3:=by
 revert b;exact Ek (by kernel_rfl)
theorem tA(w:Aa)(f a e g b c i:Nat)(d:List Value):
  AI w 10 (Pl f g a e) (Gn a b i d c) [1,4] (JQ a b i d c) [] 0 450 2200 [0,1]
   (λh j k=>.done .next) (λh j k=>(JR a i b d c)) 0:=by
 kernel_rfl
noncomputable abbrev kO(P:Aj)(y:Nat)(v:Value)(b:Bool):Obj:=di (cond b [Ap P DC y v] []) (cond b 1 0)
theorem tC(w:Aa)(f g c a h d l e n i k tp y:Nat)(p:Int)(z:Value)(o j r:List Value)(m b q:Bool):
  AI w 27 (Pn (cond m 1 0) f g h c a) ([(g,Aw d),(d,li r l),(c,liO e i),(e,li o n),(a,li j k),(h,kO w.2 y z b)]) ([3,0,6,6,6,1,2,2]++cond (q==m) [6] []) (AE ([(0,[2,3]),(0,[1])]++cond (q==m) [(0,[4])] []) ([λs t u=>Ez c e i o n (.int p tp),λs t u=>Kp d r l p tp q]++cond (q==m) [λs t u=>CQ a j k (.int p tp)] [])) [] 0 450 2200 (.range 6)
   (λA v B=>.again (Pn (cond m 1 0) f g h c a)) (λA v B=>[(g,Aw d),(d,li r l),(c,liO e (i+1)),(e,li o n),(a,li (cond (q==m) (j++[.int p tp]) j) (cond (q==m) (k+1) k)),(h,kO w.2 (cond b y (v 0)) (.int p tp) true)]) 1:=by
 revert m b q;exact Ob (by kernel_rfl)
theorem tD(w:Aa)(f g a e h b c i:Nat)(d:List Value)(m:Bool):
  AI w 10 (Pn (cond m 1 0) f g h a e) (Gn a b i d c) [1,4] (JQ a b i d c) [] 0 450 2200 [0,1]
   (λj k l=>.done .next) (λj k l=>(JR a i b d c)) 0:=by
 revert m;exact Ek (by kernel_rfl)
noncomputable def pk(m:Nat)(a:List Int):Value→Bool
 | .int p _=>if m=0 then !decide (p∈a)else decide (p∈a)
 |_=>false
noncomputable def DP(D:List TE):List Value:=D.map λe=>.str e.s e.st
noncomputable def Hf:TE:=⟨0,0,0,⟨⟨[]⟩⟩,0,0⟩
inductive I7 (P:Aj) (ys:List Value):Nat→Obj→Prop
 |a:I7 P ys 0 (di [] 0)
 |b (i y:Nat) (v:Value) (h:ys[i]? =some v):I7 P ys (i+1) (di [Ap P DC y v] 1)
inductive I8 (P:Aj) (D:List TE):Nat→Obj→Prop
 |a:I8 P D 0 (di [] 0)
 |b (i z0 z1 z2:Nat) (h:i<D.length):I8 P D (i+1) (di [Ap P Hy z0 (.int D[i].c D[i].ct),Ap P Gg z1 (.str D[i].s D[i].st),Ap P DB z2 (.ref D[i].fj)] 3)
theorem I8.shape{P:Aj}{D:List TE}{i:Nat}{d:Obj}(h:I8 P D i d):SB λc e g j k l b=>d=W3 P c e g j k l b:=by
 cases h with
 |a=>exact⟨0,0,0,.none,.none,.none,false,rfl⟩
 |b i c e g h=>exact⟨c,e,g,_,_,_,true,rfl⟩
theorem tE{a:List Value}{F:List Int}(h:AX a F){i:Nat}(b:i<a.length):B5 λp t=>a[i]? =some (.int p t):=by
 have c:a[i]∈a:=C0 b;obtain⟨p,t,e⟩:=Qi h _ c;exact⟨p,t,by rw[Et b,e]⟩
theorem tF{a:Type}(p:a→Bool){l:List a}{i:Nat}{x:a}(h:l[i]? =some x):(l.take (i+1)).filter p=cond (p x) ((l.take i).filter p++[x]) ((l.take i).filter p):=by
 rw[Ji,h,List.filter_append];refine (?_:_++List.filter p [x]=_);cases b:p x
 ·rw[ND (by rw[b];exact Fm)];exact BV _
 ·rw[NC b];rfl
inductive KP (w:Aa) (m cg it acc cl gt gn fj fk:Nat) (xs ys:List Value) (a:List Int) (r:Result) (L':Ae) (ts:List Nat):Prop
 |mk (hr:r= .ok .next) (ht:ts=[]) (oi oc:Obj) (hc:I7 w.2 ys ys.length oc) (hL:L'=[(cg,ce (some (.ref gt))),(gt,li xs gn),(it,oi),(fj,li ys fk),(acc,li (ys.filter (pk m a)) (ys.filter (pk m a)).length),(cl,oc)])
theorem I7.shape{P:Aj}{c:List Value}{i:Nat}{d:Obj}(h:I7 P c i d):Ei λy v b=>d=kO P y v b:=by
 cases h with
 |a=>exact⟨0,.none,false,rfl⟩
 |b i y v h=>exact⟨y,v,true,rfl⟩
noncomputable abbrev EV:=[1,3,5,7,9,11]
theorem W4{w:Aa}{A:Al}(H:A.handled=none)(I:A.depth≤450)(J:A.units≤2200){f n l g o s C j t:Nat}{B c:List Value}{a F:List Int}(m:Bool)(M:AX B a)(N:AX c F)(O:c.length≤900):
  ∀(k i:Nat),i+k=c.length→ ∀d:Obj,I7 w.2 c i d→
  RunsW w A (Pn (cond m 1 0) f n o l g) [(n,Aw s),(s,li B C),(l,liO j i),(j,li c t),(g,li ((c.take i).filter (pk (cond m 1 0) a)) ((c.take i).filter (pk (cond m 1 0) a)).length),(o,d)]
   (KP w (cond m 1 0) n l g o s C j t B c a):=by
 intro k
 induction k with
 |zero=>
  intro i D d E;obtain rfl:i=c.length:=D;rw[NL];refine Gj [(n,Aw s),(s,li B C),(g,li (c.filter (pk (cond m 1 0) a)) (c.filter (pk (cond m 1 0) a)).length),(o,d)] (L1:=[(l,liO j c.length),(j,li c t)]) (AO [] [_,_,_,_,_,_] [5,7,1,3,9,11] EV)
   (Bf (tD w f n l g o j t c.length c m) [] H I J (AD _ _ (Ah (λ_ _ _=>IQ (Je (A7 _))) AC)) Ar (Φ:=λr P K=>r= .ok .next∧K=[]∧P=[(l,fi Bo [.none,.int (c.length:Int) 0]),(j,li c t)]) λQ R S=>⟨rfl,rfl,rfl⟩) λr X K h=>⟨_,h.2.2▸AO [] [_,_,_,_,_,_] EV [5,7,1,3,9,11],h.1,h.2.1,fi Bo [.none,.int (c.length:Int) 0],d,E,rfl⟩
 |succ k T=>
  intro i D d E;have U:i<c.length:=DV (Lh (Gb k)) (Jp D);obtain⟨p,tp,G⟩:=tE N U;have e:pk (cond m 1 0) a (.int p tp)=(decide (p∈a)==m):=by
   cases m
   ·show(!decide (p∈a))=_
    cases decide (p∈a) <;> rfl
   ·refine (?_:decide (p∈a)=_)
    cases decide (p∈a) <;> rfl
  have V:((c.take i).filter (pk (cond m 1 0) a)).length≤1000:=Ay (List.length_filter_le _ _) (Ay (List.length_take_le' _ _) (Ay O (by decide)));have L:=tF (pk (cond m 1 0) a) G;rw[e]at L;generalize (c.take i).filter (pk (cond m 1 0) a)=u at*;have z:=λy=>T (i+1) (by (first|lia|omega)) _ (.b i y _ G);rw[L]at z;have W:(cond (decide (p∈a)==m) (u++[.int p tp]) u).length=cond (decide (p∈a)==m) (u.length+1) u.length:=by cases(decide (p∈a)==m);rfl;exact EX
  rw[W]at z;obtain⟨y,v,b,rfl⟩:=E.shape;exact EZ (tC w f n l g o s C j t i u.length tp y p v c u B m b (decide (p∈a))) [] H I J (AD _ _ (HD (Ah (λ_ _ _=>HJ G) (Ah (λ_ _ _=>Mb M rfl) AC)) (OO (Ah (λ_ _ _=>EN V) AC)))) Ar λQ R S=>z _
inductive tG (w:Aa) (it acc cl du dn:Nat) (D:List TE) (r:Result) (L':Ae) (ts:List Nat):Prop
 |mk (hr:r= .ok .next) (ht:ts=[]) (oi oc:Obj) (hc:I8 w.2 D D.length oc) (hL:L'=[(it,oi),(du,li (AL D) dn),(acc,li (DP D) D.length),(cl,oc)]++TL D)
theorem tH{w:Aa}{A:Al}(o:A.handled=none)(t:A.depth≤450)(u:A.units≤2200){f it acc cl du dn:Nat}{D:List TE}(R:D.length≤900):
  ∀(k i:Nat),i+k=D.length→ ∀d:Obj,I8 w.2 D i d→
  RunsW w A (Pl f cl it acc) ([(it,liO du i),(du,li (AL D) dn),(acc,li (DP (D.take i)) i),(cl,d)]++TL D)
   (tG w it acc cl du dn D):=by
 intro k
 induction k with
 |zero=>
  intro i z d n;obtain rfl:i=D.length:=by (first|lia|omega)
  rw[NL];refine Gj ([(acc,li (DP D) D.length),(cl,d)]++TL D) (L1:=[(it,liO du D.length),(du,li (AL D) dn)]) (AO [TL D] [_,_,_,_] [1,3,5,7,2] [1,3,5,7,2])
   (Bf (tA w f it acc cl du dn D.length (AL D)) [] o t u (AD _ _ (Ah (λ_ _ _=>IQ (by simp[AL])) AC)) Ar (Φ:=λr B j=>j=[]∧r= .ok .next∧B=[(it,fi Bo [.none,.int (D.length:Int) 0]),(du,li (AL D) dn)]) λC E F=>⟨rfl,rfl,rfl⟩) λr S j ⟨G,h1,h2⟩=>⟨_,?_,h1,G,fi Bo [.none,.int (D.length:Int) 0],d,n,rfl⟩
  rw[h2];exact AO [TL D] [_,_,_,_] [1,3,5,7,2] [1,3,5,7,2]
 |succ k H=>
  intro i z d n;have l:i<D.length:=by (first|lia|omega)
  have I:(AL D)[i]? =some (.ref D[i].T):=by simp[AL,l]
  have J:DP (D.take (i+1))=DP (D.take i)++[.str D[i].s D[i].st]:=by rw[Ji,Et l];unfold DP;rw[BC];rfl
  have K:(DP (D.take i)).length≤1000:=by simp[DP];(first|lia|omega)
  have L:(TL D).Perm ((D[i].T,CF D[i])::TL (D.eraseIdx i)):=(MR D i l).symm.map λe:TE=>(e.T,CF e)
  have X:DD w [λM j N=>Ez it du i (AL D) dn (.ref D[i].T),λM j N=>CQ acc (DP (D.take i)) i (.str D[i].s D[i].st)]:=Ah (λ_ _ _=>HJ I) (Ah (λ_ _ _=>EN K) AC);have v: ∀o1 o2 o3 o4:Obj,([(it,o1),(du,o2),(acc,o3),(cl,o4),(D[i].T,CF D[i])]++TL (D.eraseIdx i)).Perm ([(it,o1),(du,o2),(acc,o3),(cl,o4)]++TL D):=λo1 o2 o3 o4=>List.Perm.append_left [(it,o1),(du,o2),(acc,o3),(cl,o4)] L.symm;have y: ∀m a g h,m=di [Ad w Hy a (.int D[i].c D[i].ct),Ad w Gg g (.str D[i].s D[i].st),Ad w DB h (.ref D[i].fj)] 3→_:=λm a g h (e:m=di [Ad w Hy a (.int D[i].c D[i].ct),Ad w Gg g (.str D[i].s D[i].st),Ad w DB h (.ref D[i].fj)] 3)=>H (i+1) (by (first|lia|omega)) m (by rw[e];exact .b i a g h l);rw[J]at y;obtain⟨a,g,h,O,P,Q,b,rfl⟩:=n.shape;exact GY (sZ w f it acc cl du dn i i D[i].T D[i].c D[i].ct D[i].st D[i].fj a g h D[i].s O P Q (AL D) (DP (D.take i)) b) (TL (D.eraseIdx i)) (v _ _ _ _) o t u (AD _ _ X) Ar λC E F=>Kx (v _ _ _ _) (y _ _ _ _ rfl)
noncomputable def kX(P:Aj)(z m f i j e k g l n s:Nat)(t b:List Value)(a:List Int)(v:List Obj→Obj):Ak:=
 {d:=450,u:=2200,h:=none,c:=.compStart (Pm m) 0 (.ref j) (.ref e) (R9 m f i k),idx:=[],pre:=[(i,Aw g),(g,li t l),(j,liO n 0),(n,li b s),(e,li [] 0),(k,di [] 0)],na:=0,nt:=0,no:=2,r:=λ_ _=>.ok .next,
  outs:=λ_ _ o=>[Aw g,li t l,o.getD 0 default,li b s,li (b.filter (pk m a)) (b.filter (pk m a)).length,v o],news:=λ_ _ _=>[]}
noncomputable abbrev Sb(P:Aj)(m f c d b e g h i j:Nat)(k:List Value)(a:List Int):Ak:=kX P 0 m f c d b e g h i j k [] a λ_=>di [] 0
noncomputable abbrev Sc(P:Aj)(m f d e c g h i j k:Nat)(l b:List Value)(a:List Int):Ak:=kX P 1 m f d e c g h i j k l b a λo=>di [Ap P DC (Ao o 1) (b.getD (b.length-1) .none)] 1
theorem W5{w:Aa}{A:Al}(k:A.handled=none)(l:A.depth≤450)(n:A.units≤2200){m f e g c h i r d s:Nat}{j b:List Value}{a F:List Int}(y:m<2)(t:AX j a)(u:AX b F)(v:b.length≤900):RunsW w A (.compStart (Pm m) 0 (.ref g) (.ref c) (R9 m f e h)) [(e,Aw i),(i,li j r),(g,liO d 0),(d,li b s),(c,li [] 0),(h,di [] 0)] (KP w m e g c h i r d s j b a):=by
 match m,y with
 |0,_=>exact IC 1 (o:=liO d 0) (W4 k l n false t u v b.length 0 (Ga _) (di [] 0) .a) (by (first|((repeat(first|exact .head _|apply List.mem_cons_of_mem));done)|simp)) (by kernel_rfl) (by kernel_rfl)
 |1,_=>exact IC 1 (o:=liO d 0) (W4 k l n true t u v b.length 0 (Ga _) (di [] 0) .a) (by (first|((repeat(first|exact .head _|apply List.mem_cons_of_mem));done)|simp)) (by kernel_rfl) (by kernel_rfl)
theorem W6{w:Aa}{m f d e b g h i j k:Nat}{c:List Value}{a:List Int}(l:m<2)(n:AX c a):Av w (Sb w.2 m f d e b g h i j k c a):=by
 refine Ba.ext λA o s t=> ?_;refine Ba.mono (W5 (F:=[]) t o s l n (JM [] id) (by (first|((repeat(first|exact .head _|apply List.mem_cons_of_mem));done)|simp))) ?_;rintro r D E ⟨u,v,y,z,B,C⟩;refine⟨[],[y,z],rfl,v▸rfl,rfl,u,C.trans ?_⟩;cases B;rfl
theorem I7.inv{P:Aj}{c:List Value}{n:Nat}{d:Obj}(h:I7 P c n d)(g:0<n): ∃y,d=di [Ap P DC y (c.getD (n-1) .none)] 1:=by
 cases h with
 |a=>(first|lia|omega)
 |b i y v e=>exact⟨y,by simp[List.getD,e]⟩
theorem W7{w:Aa}{m f e g c h i j k l:Nat}{d b:List Value}{a F:List Int}(n:m<2)(o:AX d a)(s:AX b F)(t:b.length≤900)(u:0<b.length):Av w (Sc w.2 m f e g c h i j k l d b a):=by
 refine Ba.ext λA v z B=> ?_;refine Ba.mono (W5 B v z n o s t) λr I J hz=> ?_;obtain⟨C,D,E,K,G,H⟩:=hz;obtain⟨y,rfl⟩:=G.inv u;exact⟨[],[E,Ac y],rfl,D▸rfl,rfl,C,H⟩
noncomputable def Se(P:Aj)(f b a e g i:Nat)(D:List TE):Ak:=
 {d:=450,u:=2200,h:=none,c:=.compStart R8 0 (.ref b) (.ref a) (W2 f e),idx:=[],pre:=[(b,liO g 0),(g,li (AL D) i),(a,li [] 0),(e,di [] 0)],na:=0,nt:=0,no:=4,r:=λ_ _=>.ok .next,
  outs:=λ_ _ o=>[o.getD 0 default,li (AL D) i,li (DP D) D.length,di [Ap P Hy (Ao o 1) (.int (D.getD (D.length-1) Hf).c (D.getD (D.length-1) Hf).ct),Ap P Gg (Ao o 2) (.str (D.getD (D.length-1) Hf).s (D.getD (D.length-1) Hf).st),Ap P DB (Ao o 3) (.ref (D.getD (D.length-1) Hf).fj)] 3],news:=λ_ _ _=>[]}
theorem I8.inv{P:Aj}{D:List TE}{n:Nat}{j:Obj}(h:I8 P D n j)(l:0<n):Ei λd e g=>j=di [Ap P Hy d (.int (D.getD (n-1) Hf).c (D.getD (n-1) Hf).ct),Ap P Gg e (.str (D.getD (n-1) Hf).s (D.getD (n-1) Hf).st),Ap P DB g (.ref (D.getD (n-1) Hf).fj)] 3:=by
 cases h with
 |a=>(first|lia|omega)
 |b i d e g k=>exact⟨d,e,g,by simp[List.getD,k]⟩
theorem tI{w:Aa}{f d b e c g:Nat}{D:List TE}(h:D.length≤900)(i:0<D.length):Ca w (TL D) (Se w.2 f d b e c g D):=by
 refine Ba.extH λA j k l=> ?_;refine IC 1 (o:=liO c 0) ?_ (by simp[Se]) (by kernel_rfl) (by kernel_rfl);have key:=tH (w:=w) (A:=A) l j k (f:=f) (it:=d) (acc:=b) (cl:=e) (du:=c) (dn:=g) h D.length 0 (by (first|lia|omega)) (di [] 0) .a;refine Ba.mono key λr B C hz=> ?_;obtain⟨m,n,s,E,t,u⟩:=hz;obtain⟨v,y,z,rfl⟩:=t.inv i;exact⟨[],[s,Ac v,Ac y,Ac z],rfl,n▸rfl,rfl,m,u⟩
set_option maxHeartbeats 4000000
noncomputable abbrev Sf:List Stmt:=AN (DX 15)
noncomputable abbrev Gy(i:Nat):Stmt:=AB Sf i
noncomputable abbrev I9:Stmt:=Gy 4
noncomputable abbrev Er:Stmt:=AB (AN I9) 0
noncomputable abbrev Fh:Stmt:=AB (AN Er) 2
noncomputable abbrev Es:Stmt:=AB (Dt Fh) 0
noncomputable abbrev Hg:Stmt:=AB (Dt Es) 1
noncomputable abbrev Ja:Stmt:=AB (AN Fh) 2
noncomputable abbrev Jb:Stmt:=AB (AN Es) 2
noncomputable abbrev J2:Stmt:=AB (AN Hg) 0
noncomputable abbrev Ig:Stmt:=AB (LE Hg) 1
noncomputable abbrev Bs(f:Nat):Env:={scope:=EH (DX 15),locals:=f,globals:=3,cells:=[],qual:=⟨⟨[115,111,114,116,101,100,95,108,105,115,116,95,100,105,102,102,101,114,101,110,99,101,46,60,108,111,99,97,108,115,62,46]⟩⟩,func:=some 302,code:=.ref 301,frame:=some f,builtins:=0}
noncomputable def trdA(f:Nat):Sem AA:=execs [Gy 0,Gy 1,Gy 2,Gy 3] (Bs f)>>=λv=>pure (.done v)
noncomputable def trdT(f:Nat):Sem AA:=isTrue (sT I9) (Bs f) (eval (sT I9) (Bs f))>>=λb=>pure (.done (.ret (.bool b)))
noncomputable def trdE(f:Nat):Sem AA:=execs [AB (AN Er) 0,AB (AN Er) 1] (Bs f)>>=λv=>pure (.done v)
noncomputable def trdC(i f:Nat):Sem AA:=isTrue (sT (AB [Fh,Es] i)) (Bs f) (eval (sT (AB [Fh,Es] i)) (Bs f))>>=λb=>pure (.done (.ret (.bool b)))
noncomputable def trdB1(f:Nat):Sem AA:=execs [AB (AN Fh) 0,AB (AN Fh) 1] (Bs f)>>=λv=>pure (.done v)
noncomputable def trdB2(f:Nat):Sem AA:=execs [AB (AN Es) 0,AB (AN Es) 1] (Bs f)>>=λv=>pure (.done v)
noncomputable def trdB3(f:Nat):Sem AA:=exec (AB (Dt Es) 0) (Bs f)>>=λv=>pure (.done v)
noncomputable def trdB4(f:Nat):Sem AA:=exec (AB (LE Hg) 0) (Bs f)>>=λv=>pure (.done v)
noncomputable def trdW1(f:Nat):Sem AA:=isTrue (sT Ja) (Bs f) (eval (sT Ja) (Bs f))>>=λb=>pure (.done (.ret (.bool b)))
noncomputable def trdW2(f:Nat):Sem AA:=isTrue (sT Jb) (Bs f) (eval (sT Jb) (Bs f))>>=λb=>pure (.done (.ret (.bool b)))
noncomputable def trdW3(f:Nat):Sem AA:=isTrue (sT J2) (Bs f) (eval (sT J2) (Bs f))>>=λb=>pure (.done (.ret (.bool b)))
noncomputable def trdW4(f:Nat):Sem AA:=isTrue (sT Ig) (Bs f) (eval (sT Ig) (Bs f))>>=λb=>pure (.done (.ret (.bool b)))
noncomputable def trdH(f e:Nat):Sem AA:=handleBy (.ref e) (Bs f) (LF Er)>>=λv=>pure (.done v)
noncomputable def trdR(f:Nat):Sem AA:=execs [Gy 5] (Bs f)>>=λv=>pure (.done v)
noncomputable def trdN(_:Unit):Sem AA:=((mkText "list index out of range">>=λm=>newExc (.type "IndexError") [m]))>>=λv=>pure (.done (.ret v))
noncomputable abbrev W8(a b:Nat):=(runValue (.builtin "proto.unchain" ⟨[.ref a,.ref b,.ref b,.bool false],[]⟩))
noncomputable def trdU(e h:Nat):Sem AA:=(holding [.ref e] (W8 e h)>>=λ_=>updateField e 2 (.ref h))>>=λ_=>pure (.done .next)
lay_quick trdA trdT trdE trdC trdB1 trdB2 trdB3 trdB4 trdW1 trdW2 trdW3 trdW4 trdH trdR trdN trdU
set_option maxHeartbeats 400000
noncomputable def kM:Result→Sem AA
 | .ok f=>pure (.done f)
 | .error e=>throw e
noncomputable abbrev W9(w:Aa)(n:Nat)(v:Value)(a b:Au)(c:AU)(t:Sem AA)(L:Ae)(H:List Nat)(E:List (Nat×(List Nat→List Nat→List Obj→Ak)))(W:List Wd)(d u:Nat):Bx:=
 Ej den rooms GM ⟨pw,w.2⟩ ⟨pw,(wR true w).params⟩ ⟨pw,(wR false w).params⟩ (kt w) n a b c ⟨t,c0,[⟨c0,some v,kM,d,u⟩],L,[],[],[],H,E,W,0,d,u+1,.free⟩
noncomputable def Xa(w:Aa)(n:Nat)(v:Value)(t:Sem AA)(L:Ae)(H:List Nat)(E:List (Nat×(List Nat→List Nat→List Obj→Ak)))(W:List Wd)(d u:Nat):(Au→Au→AU→Bx):=λa b c=>W9 w n v a b c t L H E W d u
noncomputable abbrev J3(w:Aa)(n:Nat)(v:Value)(t:Sem AA)(L:Ae)(H:List Nat)(E:List (Nat×(List Nat→List Nat→List Obj→Ak)))(W:List Wd)(d u:Nat)(a:List Nat)(en:Au→Au→AU→Du)(b:Au→Au→AU→Ae)(N:Nat):Prop:=
 LP (Xa w n v t L H E W d u) a=LQ (Xa w n v t L H E W d u) en b N
noncomputable def Jc{T:Type}(g:T→Flow)(Q:T→Ab→Prop)(E:Value→Ab→Prop)(en:Du)(s:Ab):Prop:=match en with
 | .done f=> ∀x,g x=f→Q x s
 | .err e=>E e s
 |_=>False
noncomputable def RQ{T:Type}(g:T→Flow)(Q:T→Ab→Prop)(E:Value→Ab→Prop):Result→Ab→Prop:=λr s=>match r with
 | .ok f=> ∀x,g x=f→Q x s
 | .error e=>E e s
theorem Fi{Q:Flow→Ab→Prop}{E:Value→Ab→Prop}{a:Flow}{s:Ab}(h:Q a s):Jc id Q E (.done a) s:=λx e=>(show x=a from e)▸h
theorem Hh{Q:Bool→Ab→Prop}{E:Value→Ab→Prop}{b:Bool}{s:Ab}(h:Q b s):Jc (λb=>Flow.ret (.bool b)) Q E (.done (.ret (.bool b))) s:=λx e=>Value.bool.inj (CU e)▸h
theorem Sh{T:Type}{w:Aa}{A:Al}{g:T→Flow}{Q:T→Ab→Prop}{E:Value→Ab→Prop}{en:Du}{s:Ab}(h:Jc g Q E en s):Tj pw w A (RQ g Q E) en s:=by
 cases en <;> first|exact h|exact h.elim
theorem Xb{w:Aa}{A:Al}{L:Ae}{H:List Nat}{E:List (Nat×(List Nat→List Nat→List Obj→Ak))}{W:List Wd}{d u n N:Nat}{y:List Nat}{en:Au→Au→AU→Du}{B:Au→Au→AU→Ae}{o:Sem AA}{T:Type}{t:Sem T}
  (k:AF w n o L H E W d u y en B N) (g:T→Flow) (C:(t>>=λx=>pure (.done (g x)))=o) (D:A.handled=none) (F:A.depth≤d) (G:A.units≤u) (X: ∀q∈E,∀i j l,Av w (q.2 i j l)) (Y: ∀q∈W,∀i j l,(q.2 i j l).1=(q.2 i j l).2)
  {s:Ab} (S:An (kt w) s L) {Q:T→Ab→Prop} {r:Value→Ab→Prop}
  (fi: ∀a b c m,Ag (kt w) s m L (B a b c)→Jc g Q r (en a b c) m) (v:BR y=true:=by rfl):wpAny (model pw w) A t Q r s:=by
 have z:=Oa (R:=RQ g Q r) GJ (GL pw w w) (FJ pw w) (hS w) (H:=H) (E:=E) (W:=W) g C n D F G (λq I i j l _ _=>(X q I i j l).frm) Y S λa b c=> ?_
 ·exact CA z (λx m h=>h x rfl) λe m h=>h
 ·have h:=Ge k a b c
  have J:=Am Prod.fst h;have K:=Am (λx=>x.2.1) h;have M:=Am (λx=>x.2.2.1) h;refine⟨J,λm O U _=> ?_⟩;have P:(Hv w n a b c o L H E W d u).e=en a b c:=K;rw[P];exact Sh (fi a b c m (O.pick M v))
theorem Xc{w:Aa}{A:Al}{v:Value}{L:Ae}{H:List Nat}{E:List (Nat×(List Nat→List Nat→List Obj→Ak))}{W:List Wd}{d u n N:Nat}{I:List Nat}{en:Au→Au→AU→Du}{J:Au→Au→AU→Ae}{r:Sem AA}{T:Type}{t:Sem T}
  (k:J3 w n v r L H E W d u I en J N) (g:T→Flow) (O:(t>>=λx=>pure (.done (g x)))=r) (K:A.handled=none) (M:A.depth≤d) (P:A.units<u) (X: ∀q∈E,∀j l m,Av w (q.2 j l m)) (Y: ∀q∈W,∀j l m,(q.2 j l m).1=(q.2 j l m).2)
  {s:Ab} (S:An (kt w) s L) {Q:T→Ab→Prop} {B:Value→Ab→Prop}
  (fi: ∀b c i o,Ag (kt w) s o L (J b c i)→Jc g Q B (en b c i) o) (F:BR I=true:=by rfl):wpAny (model pw w) (A.mark (some v)) t Q B s:=by
 have z:=NZ GJ (GL pw w w) (FJ pw w) (hS w) K (R:=RQ g Q B) (qt:=false) n ⟨r,c0,[⟨c0,some v,kM,d,u⟩],L,[],[],[],H,E,W,0,d,u+1,.free⟩ s
  ⟨M,by refine (?_:A.units+1≤u+1);(first|lia|omega),M,Bw P⟩ (λq U j l m _ _=>(X q U j l m).frm) Y (.refl S) ⟨rfl,trivial⟩ (A7 _) λb c i=> ?_
 ·have z:wpAny (model pw w) (A.mark (some v)).in1.in1 r (postC pw w (A.in1.mark (some v)) (Hs pw w A (RQ g Q B) [⟨c0,some v,kM,d,u⟩])) (postE (Hs pw w A (RQ g Q B) [⟨c0,some v,kM,d,u⟩])) s:=z
  subst O;refine λD p a=> ?_;have y:=z D p ⟨a.1,a.2.1,a.2.2.1,a.2.2.2.1,Ay a.2.2.2.2 (GF A.units 2)⟩;rw[Sem.wp_bind']at y;have C:({D with handled:=none}:Ctx).In A.in1:=⟨K.symm,a.2.1,a.2.2.1,a.2.2.2.1,Ay a.2.2.2.2 (GF A.units 1)⟩
  exact Sem.wp_mono _ _ _ (λx G o h=>h {D with handled:=none} G C x rfl) (λe G o h=>h {D with handled:=none} G C) _ _ y
 ·have h:=Ge k b c i
  have V:=Am Prod.fst h;have Z:=Am (λx=>x.2.1) h;have h3:=Am (λx=>x.2.2.1) h;refine⟨V,λo st ri _=> ?_⟩;have e1:(W9 w n v b c i r L H E W d u).e=en b c i:=Z;have q:=Sh (w:=w) (A:=A) (fi b c i o (st.pick h3 F));rw[←e1]at q;exact q
section
noncomputable abbrev BK:=(Option Value)
noncomputable abbrev wS(o:Obj)(a:Array BK):Obj:={o with slots:=a}
noncomputable abbrev Df(f:Nat)(a:Value)(b:List Value):Obj:={cls:=.type "traceback",dict:=none,data:=.fields ⟨[Value.none,.ref f,.none,a,.none]++b⟩,slots:=⟨[]⟩}
noncomputable abbrev CK(t:Nat)(a c:Value):Obj:=fi Kl [.ref t,a,c,.none,.bool false,.none]
theorem Si{o:Obj}{a:Array BK}(h:o.isFreed=false):(wS o a).isFreed=false:=by
 obtain⟨c,d,b,s⟩:=o;cases b <;> first|rfl|exact h
section
variable {w:Aa}{A:Al}{E:Value→Ab→Prop}{s:Ab}
theorem tJ{b:Env}{f:Nat}{o:Obj}{R:Ae}{Q:Unit→Ab→Prop}(g:b.scope.kind≠ .module)(j:b.frame=some f)(k:o.isFreed=false)(S:An (kt w) s ((f,o)::R))
  (h: ∀c l,Ag (kt w) s c ((f,o)::R) ((f,wS o l)::R)→Q () c):wpAny (model pw w) A (readyFrames [b]) Q E s:=by
 have d:=S.mem _ Bj;simp only[readyFrames,j];refine Af (Jr d ?_)
 by_cases e:((o.slots.getD 3 none).isSome)=true
 ·rw[AS e];exact Aq (h _ o.slots (.refl S))
 ·rw[AH e]
  refine Af (GH (a:=false) (by simp[behindIsImport,g]) ?_);refine Af (wpAny_keptBack_nil λ_=> ?_);exact Af (wpAny_update d (Aq (h _ _ (S.set (i:=0) rfl (p:=(f,o)) (Si k)))))
theorem tL{d c:Env}{f g:Nat}{o p:Obj}{R:Ae}{Q:Unit→Ab→Prop}(v:d.scope.kind≠ .module)(l:c.scope.kind≠ .module)(y:d.frame=some f)(z:c.frame=some g)(B:o.isFreed=false)(C:p.isFreed=false)(S:An (kt w) s ((f,o)::(g,p)::R))
  (h: ∀e j m,Ag (kt w) s e ((f,o)::(g,p)::R) ((f,wS o j)::(g,wS p m)::R)→Q () e):wpAny (model pw w) A (readyFrames [d,c]) Q E s:=by
 have n:=S.mem _ Bj;rw[readyFrames];simp only[y];refine Af (Jr n ?_)
 by_cases r:((o.slots.getD 3 none).isSome)=true
 ·rw[AS r];exact Aq (h _ o.slots p.slots (.refl S))
 ·rw[AH r]
  refine Af (GH (a:=false) (by simp[behindIsImport,v]) ?_);refine Af ?_;refine (?_:wpAny _ _ (pure _) _ _ _);refine Aq ?_;have k: ∀(a b:Addr×Obj) (R:Ae),(a::b::R).Perm (b::a::R):=λa b R=>.swap ..;have fin: ∀G:Obj→Array BK,wpAny (model pw w) A (readyFrames [c]) Q E {s with heap:=s.heap.update f λo=>{o with slots:=G o}}:=λG=>by
   have t:=S.set (i:=0) rfl (p:=(f,o)) (f:=λo:Obj=>{o with slots:=G o}) (Si B);exact tJ l z C ((t.permR (k _ _ _)).sat) λe j u=>h e _ j ((t.permR (k _ _ _)).trans (u.permR (k _ _ _)))
  exact Af (wpAny_update n (fin _))
theorem tM{e j:Env}{f g k t:Nat}{c:Value}{o p:Obj}{R:Ae}{Q:Unit→Ab→Prop}(y:A.frames=some [e,j])(J:e.scope.kind≠ .module)(z:j.scope.kind≠ .module)(u:e.frame=some f)(K:j.frame=some g)(L:o.isFreed=false)(M:p.isFreed=false)
  (S:An (kt w) s ((f,o)::(g,p)::(k,CK t .none c)::R))
  (h: ∀B v l C n,Ag (kt w) s B ((f,o)::(g,p)::(k,CK t .none c)::R) ((f,wS o v)::(g,wS p l)::(k,CK t (.ref C) c)::(C,Df f (rawInt f) n)::R)→Q () B):wpAny (model pw w) A (noteFrame (.ref k) e) Q E s:=by
 have N:=S.mem (k,CK t .none c) (by (first|((repeat(first|exact .head _|apply List.mem_cons_of_mem));done)|simp));unfold noteFrame;simp only[u];refine Af (wpAny_field N (vs:=⟨[.ref t,.none,c,.none,.bool false,.none]⟩) rfl (x:=.none) rfl ?_);rw[AH (by decide)];unfold PySem.frameOf;refine Af (Af (wpAny_frameEnvs y ?_));have D:([e,j].dropWhile λx=>x.frame != e.frame)=[e,j]:=by simp[List.dropWhile]
 rw[D];unfold frameObject;refine Af (Af (tL J z u K L M S λs1 v l r=>Aq ?_));rw[u];refine Aq ?_;refine Af (wpAny_entryPlaceOf λn F=> ?_);unfold EntryCells.newEntry newFields;refine Af (wpAny_newObj_type ?_ (F.sizeOk5 _ _ _ _ _));have G:=r.sat.push (o:={cls:=.type "traceback",dict:=none,data:=.fields ([Value.none,.ref f,.none,rawInt f,.none]++(if n.isEmpty then Cc 6 Value.none else n)).toArray}) rfl;have O: ∀(a b c d:Addr×Obj) (R:Ae),((a::b::c::R)++[d]).Perm (c::a::b::d::R):=λa b c d R=>AO [R] [a,b,c,d] [0,4,1,3,5,2,7] [5,1,3,7,2];have m:=G.permR (O _ _ _ _ _);have H:=m.sat.mem (k,CK t .none c) (by (first|((repeat(first|exact .head _|apply List.mem_cons_of_mem));done)|simp));refine wpAny_setField H (vs:=⟨[.ref t,.none,c,.none,.bool false,.none]⟩) rfl (show 1<6 by decide) ?_;have I:=m.sat.set (i:=0) rfl (p:=(k,CK t .none c)) (f:=Obj.mapFields (·.setIfInBounds 1 (.ref s1.heap.objs.size))) rfl;have P: ∀(a b c d:Addr×Obj) (R:Ae),(c::a::b::d::R).Perm (a::b::c::d::R):=λa b c d R=>AO [R] [a,b,c,d] [5,1,3,7,2] [1,3,5,7,2];exact h _ v l _ _ ((r.trans (m.trans I)).permR (P _ _ _ _ _))
noncomputable abbrev Fj(a b:Nat)(c:Value):=CK a (.ref b) c
theorem Ni{a:Env}{f b t d:Nat}{c:Value}{e:List Value}{L:Ae}{Q:Unit→Ab→Prop}(g:a.frame=some f)(S:An (kt w) s L)(i:(b,Fj t d c)∈L)(j:(d,Df f (rawInt f) e)∈L)(h:Q () s):wpAny (model pw w) A (noteFrame (.ref b) a) Q E s:=
 wpAny_noteFrame_inFlight g (S.mem _ i) rfl rfl (S.mem _ j) rfl rfl h
theorem Po{f e t a:Nat}{c d:Value}{b:List Value}{R:Ae}{Q:Unit→Ab→Prop}(fr:Option Addr)(S:An (kt w) s ((a,Df f d b)::R))(j:(e,Fj t a c)∈R)
  (h: ∀g,Ag (kt w) s g ((a,Df f d b)::R) ((a,Df f (fr.elim .none λf=>rawInt f) b)::R)→Q () g):wpAny (model pw w) A (setFlight (.ref e) fr) Q E s:=by
 have k:=S.mem (e,Fj t a c) (BB _ j);have l:=S.mem (a,Df f d b) Bj;unfold setFlight;refine Af (wpAny_field k rfl (x:=.ref a) rfl ?_);rw[AS (show(Value.ref a != Value.none)=true from by (first|((repeat(first|exact .head _|apply List.mem_cons_of_mem));done)|simp))];refine wpAny_setField l rfl (by refine (?_:3<([Value.none,.ref f,.none,d,.none]++b).length);(first|((repeat(first|exact .head _|apply List.mem_cons_of_mem));done)|simp)) (h _ ?_);exact S.set (i:=0) rfl (p:=(a,Df f d b)) (f:=Obj.mapFields (·.setIfInBounds 3 (fr.elim .none λf=>rawInt f))) rfl
theorem tN{d:Env}{f b t a:Nat}{c g:Value}{e:List Value}{R:Ae}(k:d.frame=some f)(S:An (kt w) s ((a,Df f g e)::R))(i:(b,Fj t a c)∈R)
  (h: ∀j,Ag (kt w) s j ((a,Df f g e)::R) ((a,Df f (rawInt f) e)::R)→E (.ref b) j):cameBackBy (model pw w) A d E (.ref b) s:=by
 have l:=S.mem (b,Fj t a c) (BB _ i);refine Af (wpAny_field l rfl (x:=.ref a) rfl ?_);rw[AH (by (first|((repeat(first|exact .head _|apply List.mem_cons_of_mem));done)|simp))];rw[k];exact Po (some f) S i h
theorem tO{e:Env}{f b t a:Nat}{c j:Value}{g:List Value}{R:Ae}{T:Type}{Q:T→Ab→Prop}{i:String}(l:e.frame=some f)(S:An (kt w) s ((a,Df f j g)::R))(k:(b,Fj t a c)∈R)
  (h: ∀d,Ag (kt w) s d ((a,Df f j g)::R) ((a,Df f (rawInt f) g)::R)→E (.ref b) d):wpAny (model pw w) A (PySem.passOn i (.ref b) e) Q E s:=by
 have m:=S.mem (b,Fj t a c) (BB _ k);unfold PySem.passOn;refine Af (wpAny_field m rfl (x:=.ref a) rfl ?_);rw[AH (by (first|((repeat(first|exact .head _|apply List.mem_cons_of_mem));done)|simp))];rw[l];exact Af (Po (some f) S k λd n=>wpAny_throw (h d n))
end
end
noncomputable def Sj(e:Option Value)(a b:Nat)(d c:List Value)(n k:Nat):Ak:=
 {II (.call (.builtin Qa) ⟨[.ref a,.ref b],[]⟩) [(a,li d n),(b,li c k)] [li (d++c) (if c.isEmpty then n else n+1),li c k] .none with h:=e}
theorem Xd{w:Aa}{m:Option Value}{a b n k:Nat}{d c:List Value}(o:d.length+c.length≤1000):Av w (Sj m a b d c n k):=by
 intro A r t u s S _;have S:An (kt w) s [(a,li d n),(b,li c k)]:=S;have h:=S.mem (a,li d n) (by (first|((repeat(first|exact .head _|apply List.mem_cons_of_mem));done)|simp));have g:=S.mem (b,li c k) (by (first|((repeat(first|exact .head _|apply List.mem_cons_of_mem));done)|simp));have j:=S.set (i:=0) rfl (f:=Obj.mapSeq λx=>x++(⟨c⟩:Array Value)) (p:=(a,li d n)) rfl;have e:Obj.mapSeq (λx=>x++(⟨c⟩:Array Value)) (li d n)=li (d++c) (if c.isEmpty then n else n+1):=by
  cases c with
  |nil=>simp[Obj.mapSeq]
  |cons y c=>simp[Obj.mapSeq]
 dsimp only at h g j;rw[e]at j;rw[BW]at h g;have l:(⟨d⟩:Array Value).size+(⟨c⟩:Array Value).size≤sizeLine:=Ay o (by decide);refine (?_:codeAny _ _ (.call (.builtin Qa) _) _ s);rw[qF];refine Qf F.slot_list_extend (T:="list") ⟨_,h,rfl⟩ F.entry_list_extend (F.args_list_extend_2 _ _) (AutoSeq1.list_extend_list_list_0 a ⟨d⟩ n b ⟨c⟩ k (extend_door l) (Ay (GF _ _) l) (Iq l)) ⟨h,g,?_⟩;refine⟨[],[],[],rfl,rfl,rfl,rfl,?_,j.toks⟩;refine (?_:Ag (kt w) s _ [(a,li d n),(b,li c k)] (Bk [(a,li d n),(b,li c k)] [li (d++c) (if c.isEmpty then n else n+1),li c k]++[]));rw[BV];exact j
noncomputable abbrev Nj(a:Array BK)(b:List DictEntry)(n:Nat):Obj:=⟨CO,none,.dict ⟨b⟩ n,a⟩
noncomputable abbrev CL(P:Aj)(b:Array BK)(a:Nat→Nat)(c d i e j g m u:Nat)(x:List DictEntry)(n:Nat):Obj:=Nj b ([Ap P CC (a 0) (.ref c),Ap P CB (a 1) (.ref d),Ap P By (a 2) (.int i e),Ap P CH (a 3) (.int j g),Ap P CV (a 4) (.ref m),Ap P CW (a 5) (.ref u)]++x) n
noncomputable abbrev Bn(P:Aj)(a b p tp q c:Nat):List DictEntry:=[Ap P CP a (.int p tp),Ap P Co b (.int q c)]
noncomputable abbrev Pp:=[108,105,115,116,32,105,110,100,101,120,32,111,117,116,32,111,102,32,114,97,110,103,101]
noncomputable def Pq(e:Option Value)(g:Value)(F:Ae)(a:Nat)(b:List Value)(n i t:Nat):Ak:=
 {d:=900,u:=9000,h:=e,c:=.call (.builtin JC) ⟨[.ref a,.int i t],[]⟩,idx:=[],pre:=(a,li b n)::F,na:=2,nt:=0,no:=1,r:=λa _=>.error (.ref (a.getD 1 0)),outs:=λ_ _ _=>li b n::F.map (·.2),news:=λa _ o=>[tu [.str ⟨⟨Pp⟩⟩ (Ao o 0)] 0,CK (a.getD 0 0) .none g]}
theorem tP(w:Aa)(c d:Nat):
  AI w 18 (.call (.ref 302) ⟨[.ref c,.ref d],[]⟩) ([]) [0,0,0,1,1,0,1,1,0,1] [] [] 0 480 2600 [0]
   (λa b e=>.again (.func Sf (Bs (a 0)))) (λa b e=>[(a 0,Nj ⟨[]⟩ [Ad w CC (b 0) (.ref c),Ad w CB (b 1) (.ref d)] 2)]) 2:=by
 kernel_rfl
theorem tQ(w:Aa)(f d e:Nat)(c:Nat→Nat)(g:Array BK):
  AF w 44 (tw12221740135850211760 f) ([(f,Nj g [Ad w CC (c 0) (.ref d),Ad w CB (c 1) (.ref e)] 2)]) [0,1,1,0,1,1,0,1,1,0,1,1] [] [] 480 2600 [0,1,2]
   (λb a h=>.done .next) (λb a h=>[(f,⟨CO,none,.dict ⟨[Ad w CC (c 0) (.ref d),Ad w CB (c 1) (.ref e),Ad w By (a 2) (Bu (a 1)),Ad w CH (a 3) (Bu (a 1)),Ad w CV (a 4) (.ref (b 0)),Ad w CW (a 5) (.ref (b 1))]⟩ 6,⟨(g).toList⟩⟩),(b 0,li [] 0),(b 1,li [] 0)]) 6:=by
 kernel_rfl
theorem tR(w:Aa)(f:Nat):
  AF w 7 (tw1421409607433010936 f) ([]) [] [] [] 480 2600 []
   (λa b c=>.done (.ret IK)) (λa b c=>[]) 0:=by
 kernel_rfl
theorem tS(w:Aa)(f b c i d j e m u:Nat)(a:Nat→Nat)(o:Array BK)(g h p tp q r:Nat)(k l:List Value):
  AF w 40 (tw17455020850528331180 f) ([(f,CL w.2 o a b c i d j e m u [] 6),(b,li k g),(c,li l h)]) (dg 4 5813657541) (AE [(0,[1]),(0,[2])] ([λs t v=>Fd b k g i d (.int p tp),λs t v=>Fd c l h j e (.int q r)])) [] 480 2600 [0,1,2]
   (λy n z=>.done .next) (λy n z=>[(f,⟨CO,none,.dict ⟨[Ad w CC (a 0) (.ref b),Ad w CB (a 1) (.ref c),Ad w By (a 2) (AV i d),Ad w CH (a 3) (AV j e),Ad w CV (a 4) (.ref m),Ad w CW (a 5) (.ref u),Ad w CP (n 0) (AV p tp),Ad w Co (n 1) (AV q r)]⟩ 8,⟨(o).toList⟩⟩),(b,li k g),(c,li l h)]) 2:=by
 kernel_rfl
theorem tT(w:Aa)(f b c i d j e m u:Nat)(a:Nat→Nat)(n:Array BK)(g h p tp q o:Nat)(k l:List Value)(r s:Nat)(t v:Value):
  AF w 40 (tw17455020850528331180 f) ([(f,CL w.2 n a b c i d j e m u [Ad w CP r t,Ad w Co s v] 8),(b,li k g),(c,li l h)]) (dg 4 5813657541) (AE [(0,[1]),(0,[2])] ([λy z A=>Fd b k g i d (.int p tp),λy z A=>Fd c l h j e (.int q o)])) [] 480 2600 [0,1,2]
   (λB C D=>.done .next) (λB C D=>[(f,⟨CO,none,.dict ⟨[Ad w CC (a 0) (.ref b),Ad w CB (a 1) (.ref c),Ad w By (a 2) (AV i d),Ad w CH (a 3) (AV j e),Ad w CV (a 4) (.ref m),Ad w CW (a 5) (.ref u),Ad w CP r (AV p tp),Ad w Co s (AV q o)]⟩ 8,⟨(n).toList⟩⟩),(b,li k g),(c,li l h)]) 2:=by
 kernel_rfl
noncomputable abbrev Lc(a:Nat→Obj):=tu [.str ⟨⟨Pp⟩⟩ (Ao [a 0] 0)] 0
noncomputable abbrev J4(a:Nat→Nat)(b:Nat):=(a 1,fi Kl [.ref b,.none,.none,.none,.bool false,.none])
noncomputable abbrev Nk(a:Nat)(b:List Value)(c d e:Nat):=(AE [(0,[1])] ([λg h i=>Pq none .none [] a b c d e]))
theorem tU(w:Aa)(f b h i d j k m u:Nat)(a:Nat→Nat)(l:Array BK)(e:Nat)(g:List Value):
  AF w 16 (tw17455020850528331180 f) ([(f,CL w.2 l a b h i d j k m u [] 6),(b,li g e)]) [1,1,2,2,2] (Nk b g e i d) [] 480 2600 [0,1,2,3]
   (λc o n=>.err (.ref (c 1))) (λc o n=>[(f,⟨CO,none,.dict ⟨[Ad w CC (a 0) (.ref b),Ad w CB (a 1) (.ref h),Ad w By (a 2) (AV i d),Ad w CH (a 3) (AV j k),Ad w CV (a 4) (.ref m),Ad w CW (a 5) (.ref u)]⟩ 6,⟨(l).toList⟩⟩),(b,li g e),(c 0,Lc n),J4 c (c 0)]) 0:=by
 kernel_rfl
theorem Xe(w:Aa)(f c d i e j g m u:Nat)(a:Nat→Nat)(h:Array BK)(k l p tp q n:Nat)(b:Bool):
  AF w 15 (tw11312781009566750177 0 f) ([(f,CL w.2 h a c d i e j g m u (Bn w.2 k l p tp q n) 8)]) [1,1,1] [] (Bh [0] [λt v y=>(.bool (decide ((p:Int)<(q:Int))),.bool b)]) 480 2600 [0]
   (λo r s=>.done (.ret (.bool b))) (λo r s=>[(f,⟨CO,none,.dict ⟨[Ad w CC (a 0) (.ref c),Ad w CB (a 1) (.ref d),Ad w By (a 2) (AV i e),Ad w CH (a 3) (AV j g),Ad w CV (a 4) (.ref m),Ad w CW (a 5) (.ref u),Ad w CP k (.int (↑p) tp),Ad w Co l (.int (↑q) n)]⟩ 8,⟨(h).toList⟩⟩)]) 0:=by
 kernel_rfl
theorem Xf(w:Aa)(f c d i e j g m u:Nat)(a:Nat→Nat)(h:Array BK)(k l p tp q n:Nat)(b:Bool):
  AF w 15 (tw11312781009566750177 1 f) ([(f,CL w.2 h a c d i e j g m u (Bn w.2 k l p tp q n) 8)]) [1,1,1] [] (Bh [0] [λt v y=>(.bool (decide ((p:Int)>(q:Int))),.bool b)]) 480 2600 [0]
   (λo r s=>.done (.ret (.bool b))) (λo r s=>[(f,⟨CO,none,.dict ⟨[Ad w CC (a 0) (.ref c),Ad w CB (a 1) (.ref d),Ad w By (a 2) (AV i e),Ad w CH (a 3) (AV j g),Ad w CV (a 4) (.ref m),Ad w CW (a 5) (.ref u),Ad w CP k (.int (↑p) tp),Ad w Co l (.int (↑q) n)]⟩ 8,⟨(h).toList⟩⟩)]) 0:=by
 kernel_rfl
theorem tV(w:Aa)(f e g i s j h m u:Nat)(a:Nat→Nat)(k:Array BK)(l n p tp q o:Nat)(b:Nat)(c:List Value):
  AF w 35 (tw10261639450180429205 f) ([(f,CL w.2 k a e g i s j h m u (Bn w.2 l n p tp q o) 8),(m,li c b)]) [1,2,2,2,2,1,1,0,1,1] (AE [(0,[1])] ([λt d v=>CQ m c b (.int p tp)])) (Bh [0] [λt d v=>(.int ((i:Int)+1) (tk d 1),.int ((i+1:Nat):Int) (tk d 1))]) 480 2600 [0,1]
   (λy r z=>.done .next) (λy r z=>[(f,⟨CO,none,.dict ⟨[Ad w CC (a 0) (.ref e),Ad w CB (a 1) (.ref g),Ad w By (a 2) (.int (↑(i+1)) (r 1)),Ad w CH (a 3) (AV j h),Ad w CV (a 4) (.ref m),Ad w CW (a 5) (.ref u),Ad w CP l (AV p tp),Ad w Co n (AV q o)]⟩ 8,⟨(k).toList⟩⟩),(m,li (c++[Value.int (↑p) tp]) b.succ)]) 3:=by
 kernel_rfl
theorem tW(w:Aa)(f g h i k j s m u:Nat)(a:Nat→Nat)(l:Array BK)(n o p tp q b:Nat)(c:Nat)(d:List Value):
  AF w 35 (tw5296470503964135419 f) ([(f,CL w.2 l a g h i k j s m u (Bn w.2 n o p tp q b) 8),(u,li d c)]) [1,2,2,2,2,1,1,0,1,1] (AE [(0,[1])] ([λt e v=>CQ u d c (.int q b)])) (Bh [0] [λt e v=>(.int ((j:Int)+1) (tk e 1),.int ((j+1:Nat):Int) (tk e 1))]) 480 2600 [0,1]
   (λy r z=>.done .next) (λy r z=>[(f,⟨CO,none,.dict ⟨[Ad w CC (a 0) (.ref g),Ad w CB (a 1) (.ref h),Ad w By (a 2) (AV i k),Ad w CH (a 3) (.int (↑(j+1)) (r 1)),Ad w CV (a 4) (.ref m),Ad w CW (a 5) (.ref u),Ad w CP n (AV p tp),Ad w Co o (AV q b)]⟩ 8,⟨(l).toList⟩⟩),(u,li (d++[Value.int (↑q) b]) c.succ)]) 3:=by
 kernel_rfl
theorem tX(w:Aa)(f b c i o j d m u:Nat)(a:Nat→Nat)(e:Array BK)(g h p tp q k:Nat):
  AF w 21 (tw10216662923325704771 f) ([(f,CL w.2 e a b c i o j d m u (Bn w.2 g h p tp q k) 8)]) [1,0,1,1] [] (Bh [0] [λt l v=>(.int ((i:Int)+1) (tk l 1),.int ((i+1:Nat):Int) (tk l 1))]) 480 2600 [0]
   (λr n s=>.done .next) (λr n s=>[(f,⟨CO,none,.dict ⟨[Ad w CC (a 0) (.ref b),Ad w CB (a 1) (.ref c),Ad w By (a 2) (.int (↑(i+1)) (n 1)),Ad w CH (a 3) (AV j d),Ad w CV (a 4) (.ref m),Ad w CW (a 5) (.ref u),Ad w CP g (AV p tp),Ad w Co h (AV q k)]⟩ 8,⟨(e).toList⟩⟩)]) 3:=by
 kernel_rfl
theorem tY(w:Aa)(f b c i d j o m u:Nat)(a:Nat→Nat)(e:Array BK)(g h p tp q k:Nat):
  AF w 21 (tw18127145149267159557 f) ([(f,CL w.2 e a b c i d j o m u (Bn w.2 g h p tp q k) 8)]) [1,0,1,1] [] (Bh [0] [λt l v=>(.int ((j:Int)+1) (tk l 1),.int ((j+1:Nat):Int) (tk l 1))]) 480 2600 [0]
   (λr n s=>.done .next) (λr n s=>[(f,⟨CO,none,.dict ⟨[Ad w CC (a 0) (.ref b),Ad w CB (a 1) (.ref c),Ad w By (a 2) (AV i d),Ad w CH (a 3) (.int (↑(j+1)) (n 1)),Ad w CV (a 4) (.ref m),Ad w CW (a 5) (.ref u),Ad w CP g (AV p tp),Ad w Co h (AV q k)]⟩ 8,⟨(e).toList⟩⟩)]) 3:=by
 kernel_rfl
theorem tZ(w:Aa)(f b c i d j o m u:Nat)(a:Nat→Nat)(e:Array BK)(g h p tp q k:Nat)(r:Nat):
  J3 w 21 (.ref r) (tw18127145149267159557 f) ([(f,CL w.2 e a b c i d j o m u (Bn w.2 g h p tp q k) 8)]) [1,0,1,1] [] (Bh [0] [λv l y=>(.int ((j:Int)+1) (tk l 1),.int ((j+1:Nat):Int) (tk l 1))]) 480 2600 [0]
   (λs n t=>.done .next) (λs n t=>[(f,⟨CO,none,.dict ⟨[Ad w CC (a 0) (.ref b),Ad w CB (a 1) (.ref c),Ad w By (a 2) (AV i d),Ad w CH (a 3) (.int (↑(j+1)) (n 1)),Ad w CV (a 4) (.ref m),Ad w CW (a 5) (.ref u),Ad w CP g (AV p tp),Ad w Co h (AV q k)]⟩ 8,⟨(e).toList⟩⟩)]) 3:=by
 kernel_rfl
theorem Aaa(w:Aa)(f b g i c j h m u:Nat)(a:Nat→Nat)(k:Array BK)(l n p tp q o:Nat)(d r s:Nat)(e:List Value):
  AF w 22 (tw11068680119571864600 f) ([(f,CL w.2 k a b g i c j h m u (Bn w.2 l n p tp q o) 8),(b,li e d)]) [1,1,2,2,2,1,1] (AE [(0,[1])] ([λt v y=>Fd b e d i c (.int r s)])) (Bh [0] [λt v y=>(.bool (decide ((r:Int)=(p:Int))),.bool false)]) 480 2600 [0,1]
   (λz A B=>.done (.ret DE)) (λz A B=>[(f,⟨CO,none,.dict ⟨[Ad w CC (a 0) (.ref b),Ad w CB (a 1) (.ref g),Ad w By (a 2) (AV i c),Ad w CH (a 3) (AV j h),Ad w CV (a 4) (.ref m),Ad w CW (a 5) (.ref u),Ad w CP l (.int (↑p) tp),Ad w Co n (AV q o)]⟩ 8,⟨(k).toList⟩⟩),(b,li e d)]) 0:=by
 kernel_rfl
theorem Aab(w:Aa)(f b h i d j k m u:Nat)(a:Nat→Nat)(l:Array BK)(n o p tp q r:Nat)(e:Nat)(g:List Value):
  AF w 15 (tw11068680119571864600 f) ([(f,CL w.2 l a b h i d j k m u (Bn w.2 n o p tp q r) 8),(b,li g e)]) [1,1,2,2,2] (Nk b g e i d) [] 480 2600 [0,1,2,3]
   (λc t s=>.err (.ref (c 1))) (λc t s=>[(f,⟨CO,none,.dict ⟨[Ad w CC (a 0) (.ref b),Ad w CB (a 1) (.ref h),Ad w By (a 2) (AV i d),Ad w CH (a 3) (AV j k),Ad w CV (a 4) (.ref m),Ad w CW (a 5) (.ref u),Ad w CP n (AV p tp),Ad w Co o (AV q r)]⟩ 8,⟨(l).toList⟩⟩),(b,li g e),(c 0,Lc s),J4 c (c 0)]) 0:=by
 kernel_rfl
theorem Aac(w:Aa)(f g b i h j c m u:Nat)(a:Nat→Nat)(k:Array BK)(l n p tp q o:Nat)(d r s:Nat)(e:List Value):
  AF w 22 (tw6318051664192262566 f) ([(f,CL w.2 k a g b i h j c m u (Bn w.2 l n p tp q o) 8),(b,li e d)]) [1,1,2,2,2,1,1] (AE [(0,[1])] ([λt v y=>Fd b e d j c (.int r s)])) (Bh [0] [λt v y=>(.bool (decide ((r:Int)=(q:Int))),.bool false)]) 480 2600 [0,1]
   (λz A B=>.done (.ret DE)) (λz A B=>[(f,⟨CO,none,.dict ⟨[Ad w CC (a 0) (.ref g),Ad w CB (a 1) (.ref b),Ad w By (a 2) (AV i h),Ad w CH (a 3) (AV j c),Ad w CV (a 4) (.ref m),Ad w CW (a 5) (.ref u),Ad w CP l (AV p tp),Ad w Co n (.int (↑q) o)]⟩ 8,⟨(k).toList⟩⟩),(b,li e d)]) 0:=by
 kernel_rfl
theorem Aad(w:Aa)(f h b i k j d m u:Nat)(a:Nat→Nat)(l:Array BK)(n o p tp q r:Nat)(e:Nat)(g:List Value):
  AF w 15 (tw6318051664192262566 f) ([(f,CL w.2 l a h b i k j d m u (Bn w.2 n o p tp q r) 8),(b,li g e)]) [1,1,2,2,2] (Nk b g e j d) [] 480 2600 [0,1,2,3]
   (λc t s=>.err (.ref (c 1))) (λc t s=>[(f,⟨CO,none,.dict ⟨[Ad w CC (a 0) (.ref h),Ad w CB (a 1) (.ref b),Ad w By (a 2) (AV i k),Ad w CH (a 3) (AV j d),Ad w CV (a 4) (.ref m),Ad w CW (a 5) (.ref u),Ad w CP n (AV p tp),Ad w Co o (AV q r)]⟩ 8,⟨(l).toList⟩⟩),(b,li g e),(c 0,Lc s),J4 c (c 0)]) 0:=by
 kernel_rfl
theorem Aae(w:Aa)(f b g i c j h m u:Nat)(a:Nat→Nat)(k:Array BK)(l n p tp q o:Nat)(d r s:Nat)(e:List Value):
  AF w 22 (tw3257809080605712396 f) ([(f,CL w.2 k a b g i c j h m u (Bn w.2 l n p tp q o) 8),(b,li e d)]) [1,1,2,2,2,1,1] (AE [(0,[1])] ([λt v y=>Fd b e d i c (.int r s)])) (Bh [0] [λt v y=>(.bool (decide ((r:Int)=(p:Int))),.bool false)]) 480 2600 [0,1]
   (λz A B=>.done (.ret DE)) (λz A B=>[(f,⟨CO,none,.dict ⟨[Ad w CC (a 0) (.ref b),Ad w CB (a 1) (.ref g),Ad w By (a 2) (AV i c),Ad w CH (a 3) (AV j h),Ad w CV (a 4) (.ref m),Ad w CW (a 5) (.ref u),Ad w CP l (.int (↑p) tp),Ad w Co n (AV q o)]⟩ 8,⟨(k).toList⟩⟩),(b,li e d)]) 0:=by
 kernel_rfl
theorem Aaf(w:Aa)(f b h i d j k m u:Nat)(a:Nat→Nat)(l:Array BK)(n o p tp q r:Nat)(e:Nat)(g:List Value):
  AF w 15 (tw3257809080605712396 f) ([(f,CL w.2 l a b h i d j k m u (Bn w.2 n o p tp q r) 8),(b,li g e)]) [1,1,2,2,2] (Nk b g e i d) [] 480 2600 [0,1,2,3]
   (λc t s=>.err (.ref (c 1))) (λc t s=>[(f,⟨CO,none,.dict ⟨[Ad w CC (a 0) (.ref b),Ad w CB (a 1) (.ref h),Ad w By (a 2) (AV i d),Ad w CH (a 3) (AV j k),Ad w CV (a 4) (.ref m),Ad w CW (a 5) (.ref u),Ad w CP n (AV p tp),Ad w Co o (AV q r)]⟩ 8,⟨(l).toList⟩⟩),(b,li g e),(c 0,Lc s),J4 c (c 0)]) 0:=by
 kernel_rfl
theorem Aag(w:Aa)(f g b i h j c m u:Nat)(a:Nat→Nat)(k:Array BK)(l n p tp q o:Nat)(d r s:Nat)(e:List Value):
  AF w 22 (tw5774956086130822822 f) ([(f,CL w.2 k a g b i h j c m u (Bn w.2 l n p tp q o) 8),(b,li e d)]) [1,1,2,2,2,1,1] (AE [(0,[1])] ([λt v y=>Fd b e d j c (.int r s)])) (Bh [0] [λt v y=>(.bool (decide ((r:Int)=(q:Int))),.bool false)]) 480 2600 [0,1]
   (λz A B=>.done (.ret DE)) (λz A B=>[(f,⟨CO,none,.dict ⟨[Ad w CC (a 0) (.ref g),Ad w CB (a 1) (.ref b),Ad w By (a 2) (AV i h),Ad w CH (a 3) (AV j c),Ad w CV (a 4) (.ref m),Ad w CW (a 5) (.ref u),Ad w CP l (AV p tp),Ad w Co n (.int (↑q) o)]⟩ 8,⟨(k).toList⟩⟩),(b,li e d)]) 0:=by
 kernel_rfl
theorem Aah(w:Aa)(f h b i k j d m u:Nat)(a:Nat→Nat)(l:Array BK)(n o p tp q r:Nat)(e:Nat)(g:List Value):
  AF w 15 (tw5774956086130822822 f) ([(f,CL w.2 l a h b i k j d m u (Bn w.2 n o p tp q r) 8),(b,li g e)]) [1,1,2,2,2] (Nk b g e j d) [] 480 2600 [0,1,2,3]
   (λc t s=>.err (.ref (c 1))) (λc t s=>[(f,⟨CO,none,.dict ⟨[Ad w CC (a 0) (.ref h),Ad w CB (a 1) (.ref b),Ad w By (a 2) (AV i k),Ad w CH (a 3) (AV j d),Ad w CV (a 4) (.ref m),Ad w CW (a 5) (.ref u),Ad w CP n (AV p tp),Ad w Co o (AV q r)]⟩ 8,⟨(l).toList⟩⟩),(b,li g e),(c 0,Lc s),J4 c (c 0)]) 0:=by
 kernel_rfl
theorem Aai(w:Aa)(f g b i k j c m u:Nat)(a:Nat→Nat)(l:Array BK)(n o p tp q s:Nat)(d r v:Nat)(e:List Value)(t:Nat):
  J3 w 22 (.ref t) (tw5774956086130822822 f) ([(f,CL w.2 l a g b i k j c m u (Bn w.2 n o p tp q s) 8),(b,li e d)]) [1,1,2,2,2,1,1] (AE [(0,[1])] ([λy z A=>{Fd b e d j c (.int r v)with h:=some (.ref t)}])) (Bh [0] [λy z A=>(.bool (decide ((r:Int)=(q:Int))),.bool false)]) 480 2600 [0,1]
   (λB C D=>.done (.ret DE)) (λB C D=>[(f,⟨CO,none,.dict ⟨[Ad w CC (a 0) (.ref g),Ad w CB (a 1) (.ref b),Ad w By (a 2) (AV i k),Ad w CH (a 3) (AV j c),Ad w CV (a 4) (.ref m),Ad w CW (a 5) (.ref u),Ad w CP n (AV p tp),Ad w Co o (.int (↑q) s)]⟩ 8,⟨(l).toList⟩⟩),(b,li e d)]) 0:=by
 kernel_rfl
theorem Aaj(w:Aa)(f l c i n j e m u:Nat)(a:Nat→Nat)(o:Array BK)(r s p tp q v:Nat)(g:Nat)(h:List Value)(b t:Nat)(k:Value):
  J3 w 15 (.ref b) (tw5774956086130822822 f) ([(f,CL w.2 o a l c i n j e m u (Bn w.2 r s p tp q v) 8),(c,li h g),(b,CK t k .none)]) [1,1,2,2,2] (AE [(0,[1,2])] ([λA B C=>Pq (some (.ref b)) (.ref b) [(b,CK t k .none)] c h g j e])) [] 480 2600 (.range 5)
   (λd z y=>.err (.ref (d 1))) (λd z y=>[(f,⟨CO,none,.dict ⟨[Ad w CC (a 0) (.ref l),Ad w CB (a 1) (.ref c),Ad w By (a 2) (AV i n),Ad w CH (a 3) (AV j e),Ad w CV (a 4) (.ref m),Ad w CW (a 5) (.ref u),Ad w CP r (AV p tp),Ad w Co s (AV q v)]⟩ 8,⟨(o).toList⟩⟩),(c,li h g),(b,fi Kl [.ref t,k,.none,.none,DE,.none]),(d 0,Lc y),(d 1,fi Kl [.ref (d 0),.none,.ref b,.none,DE,.none])]) 0:=by
 kernel_rfl
theorem Aak(w:Aa)(f d e i r j s m u:Nat)(a:Nat→Nat)(F:Array BK)(x:List DictEntry)(n v y g k c t G:Nat)(H:Value)(z A B C I l o:List Value):
  AF w 67 (tw10982671374861550713 f c) ([(f,CL w.2 F a d e i r j s m u x n),(d,li z v),(e,li A y),(m,li B g),(u,li C k),(c,Fj t G H),(G,Df f .none I)]) (dg 8 0x40dbf32484a48db692db) (AE [(2,[1,7]),(0,[3,8]),(0,[2,9]),(0,[4,10])] ([λb D E=>{ET d (tk b 0) z v (.int i r) .none .none l with h:=some (.ref c)},λb D E=>Sj (some (.ref c)) m (tk b 1) B l g 0,λb D E=>{ET e (tk b 2) A y (.int j s) .none .none o with h:=some (.ref c)},λb D E=>Sj (some (.ref c)) u (tk b 3) C o k 0])) [] 480 2600 (.range 5)
   (λJ K L=>.done .brk) (λJ K L=>[(f,⟨CO,none,.dict ⟨{hash:=PyData.keyHash w.2 CC,key:=Value.str {cps:={toList:=[101,120,112,101,99,116,101,100]}} (a 0),val:=Value.ref d}::{hash:=PyData.keyHash w.2 CB,key:=Value.str {cps:={toList:=[97,99,116,117,97,108]}} (a 1),val:=Value.ref e}::{hash:=PyData.keyHash w.2 By,key:=Value.str {cps:={toList:=[105]}} (a 2),val:=Value.int (↑i) r}::{hash:=PyData.keyHash w.2 CH,key:=Value.str {cps:={toList:=[106]}} (a 3),val:=Value.int (↑j) s}::{hash:=PyData.keyHash w.2 CV,key:=Value.str {cps:={toList:=[109,105,115,115,105,110,103]}} (a 4),val:=Value.ref m}::{hash:=PyData.keyHash w.2 CW,key:=Value.str {cps:={toList:=[117,110,101,120,112,101,99,116,101,100]}} (a 5),val:=Value.ref u}::x⟩ n,⟨(F).toList⟩⟩),(d,li z v),(e,li A y),(m,li (B++l) (if l.isEmpty=true then g else g+1)),(u,li (C++o) (if o.isEmpty=true then k else k+1))]) 0:=by
 kernel_rfl
theorem Aal(w:Aa)(f c d i e j g m u:Nat)(a:Nat→Nat)(h:Array BK)(x:List DictEntry)(n:Nat):
  AF w 13 (tw17473257155629819926 f) ([(f,CL w.2 h a c d i e j g m u x n)]) [1,1] [] [] 480 2600 [0,1]
   (λb k l=>.done (.ret (.ref (b 0)))) (λb k l=>[(f,⟨CO,none,.dict ⟨{hash:=PyData.keyHash w.2 CC,key:=Value.str {cps:={toList:=[101,120,112,101,99,116,101,100]}} (a 0),val:=Value.ref c}::{hash:=PyData.keyHash w.2 CB,key:=Value.str {cps:={toList:=[97,99,116,117,97,108]}} (a 1),val:=Value.ref d}::{hash:=PyData.keyHash w.2 By,key:=Value.str {cps:={toList:=[105]}} (a 2),val:=Value.int (↑i) e}::{hash:=PyData.keyHash w.2 CH,key:=Value.str {cps:={toList:=[106]}} (a 3),val:=Value.int (↑j) g}::{hash:=PyData.keyHash w.2 CV,key:=Value.str {cps:={toList:=[109,105,115,115,105,110,103]}} (a 4),val:=Value.ref m}::{hash:=PyData.keyHash w.2 CW,key:=Value.str {cps:={toList:=[117,110,101,120,112,101,99,116,101,100]}} (a 5),val:=Value.ref u}::x⟩ n,⟨(h).toList⟩⟩),(b 0,tu [.ref m,.ref u] 0)]) 0:=by
 kernel_rfl
theorem Aam(w:Aa)(y:Nat):
  AF w 9 (tw11413755802565810072 ()) ([]) [] [] [] 910 9100 [0,1]
   (λa b c=>.done (.ret (.ref (a 1)))) (λa b c=>[(a 0,tu [.str ⟨⟨Pp⟩⟩ (b 0)] 0),J4 a (a 0)]) 1:=by
 kernel_rfl
theorem Aan(w:Aa)(v:Value):
  J3 w 9 v (tw11413755802565810072 ()) ([]) [] [] [] 910 9100 [0,1]
   (λa b c=>.done (.ret (.ref (a 1)))) (λa b c=>[(a 0,tu [.str ⟨⟨Pp⟩⟩ (b 0)] 0),J4 a (a 0)]) 1:=by
 kernel_rfl
noncomputable abbrev J5(a:Nat):=CK a .none .none
theorem Aao(w:Aa)(e a b t:Nat)(c:Value):
  J3 w 11 (.ref a) (tw13438513467388647416 e a) ([(a,CK t c .none),(e,J5 b)]) [1,2,2] [] [] 910 9100 [0,1]
   (λd g h=>.done .next) (λd g h=>[(a,fi Kl [.ref t,c,.none,.none,DE,.none]),(e,fi Kl [.ref b,.none,.ref a,.none,DE,.none])]) 0:=by
 kernel_rfl
section
structure LV where
 nw:Nat
 t0:Nat
 tn:Nat
 t1:Nat
 pl:Nat
 cd:Nat
 td:Nat
 v:Nat
 t5:Nat
 tr:Nat
 du:Nat
 y:Nat→Nat
section
variable (P:Aj)(sl:Array (Option Value))(l:LV)(x:List DictEntry)(n:Nat)(Z:Nat→Nat)(v0 v1 v2 v3:Value)
noncomputable abbrev Cf:Obj:=Nj sl ([Ap P Om (l.y 0) (.int l.nw l.t0),Ap P Ol (l.y 1) (.int l.tn l.t1),Ap P Oj (l.y 2) (.ref l.pl),Ap P Hx (l.y 3) (.ref l.cd),Ap P Ok (l.y 4) (.ref l.td),Ap P Fs (l.y 5) (.int l.v l.t5),Ap P LY (l.y 6) (.ref l.tr),Ap P LW (l.y 7) (.ref l.du)]++x) n
noncomputable def lwX:Nat→List DictEntry
 |0=>[]
 |1=>[Ap P Hy (Z 0) v0,Ap P Gg (Z 1) v1,Ap P DB (Z 2) v2]
 |_=>[Ap P Hy (Z 0) v0,Ap P Gg (Z 1) v1,Ap P DB (Z 2) v2,Ap P yR (Z 3) v3]
noncomputable def lwN:Nat→Nat
 |0=>8
 |1=>11
 |_=>12
noncomputable def Cy(k:Nat):Obj:=Cf P sl l (lwX P Z v0 v1 v2 v3 k) (lwN k)
end
section
variable (w:Aa)(f cs cg:Nat)(l:LV)(sl:Array (Option Value))
theorem Aap:AF w 8 (tw4508568973332873282 f cs cg) [(f,Cf w.2 sl l [] 8)] [1] [] [] 440 2000 [0]
   (λc d e=>.done (.ret (.ref l.td))) (λc d e=>[(f,Cf w.2 sl l [] 8)]) 0:=by
 kernel_rfl
theorem Aaq(n:Nat)(D:List TE):AF w 36 (tw4550174764539607127 f cs cg) [(f,Cf w.2 sl l [] 8),(l.du,li (AL D) n)] (dg 6 579548141567) (AE [(1,[2,1,3,4])] [λc h i=>Se w.2 f (tk c 0) (tk c 1) (tk c 2) l.du n D]) [] 440 2000 [0,1,3]
   (λd e g=>.done (.ret (.ref (d 1)))) (λd e g=>[(f,Cf w.2 sl l [] 8),(l.du,li (AL D) n),(d 1,li (DP D) D.length)]) 0:=by
 kernel_rfl
theorem Aar(d:List Value)(n:Nat):AF w 18 (tw1007703403832356925 f cs cg) [(f,Cf w.2 sl l [] 8),(l.du,li d n)] [1,2,2,1,2,3] [] [] 440 2000 [0,1,2]
   (λc e g=>.done (.ret (.ref (c 0)))) (λc e g=>[(f,Cf w.2 sl l [] 8),(l.du,li d n),(c 0,liO l.du 0)]) 0:=by
 kernel_rfl
theorem Aas:AF w 8 (tw11209589962911415932 f cs cg) [] [0] [] [] 440 2000 [] (λc d e=>.done (.ret (.ref 302))) (λc d e=>[]) 0:=by
 kernel_rfl
theorem Aat(gt:Nat):AF w 8 (tw17999581269091546004 f cs cg) [(cg,Aw gt)] [1] [] [] 440 2000 [0] (λc d e=>.done (.ret (.ref gt))) (λc d e=>[(cg,Aw gt)]) 0:=by
 kernel_rfl
theorem Aau(x:List DictEntry)(n:Nat):AF w 8 (tw17697714968690218824 f cs cg) [(f,Cf w.2 sl l x n)] [1] [] [] 440 2000 [0] (λc d e=>.done (.ret (.ref l.cd))) (λc d e=>[(f,Cf w.2 sl l x n)]) 0:=by
 kernel_rfl
theorem Aav(x:List DictEntry)(n:Nat)(xs e g h:List Value):AF w 35 (tw14837520834594988895 f cs cg) [(f,Cf w.2 sl l x n),(l.pl,li xs 16)] [1,1,2,2,2,1,1,2,2,2,4,6,4] (AE [(0,[1,2]),(0,[1,4]),(0,[3,5])] [λc i j=>ET l.pl (tk c 0) xs 16 (.int l.tn l.t1) .none .none e,λc i j=>ET l.pl (tk c 2) xs 16 .none (.int l.tn l.t1) .none g,λc i j=>Nd (tk c 1) (tk c 3) e g h 0 0]) [] 440 2000 [0,1,6]
   (λd k m=>.done (.ret (.ref (d 4)))) (λd k m=>[(f,Cf w.2 sl l x n),(l.pl,li xs 16),(d 4,li h 0)]) 0:=by
 kernel_rfl
variable (Z:Nat→Nat)(v0 v1 v2 v3:Value)(b:Bool)
theorem Aaw(x c e g fj:Nat)(s:Str):AF w 83 (tw5274324696313484632 f cs cg x) [(f,Cy w.2 sl l Z v0 v1 v2 v3 (cond b 2 0)),(x,tu [.int c e,.str s g,.ref fj] 0)] (dg 6 0x4ab2d31b909794e16e4ddd5ded3af) [] [] 440 2000 [0,1]
   (λh d j=>.done .next) (λh d j=>[(f,Cy w.2 sl l (cond b Z λi=>[d 0,d 1,d 2].getD i 0) (.int c e) (.str s g) (.ref fj) v3 (Gl b)),(x,tu [.int c e,.str s g,.ref fj] 0)]) 3:=by
 revert b;exact Ek (by kernel_rfl)
theorem Aax(x:Nat):AF w 13 (tw15463470008193624773 f cs cg x) [(f,Cy w.2 sl l Z v0 v1 v2 v3 (Gl b))] [0,1,1] [] [] 440 2000 [0]
   (λd c e=>.done .next) (λd c e=>[(f,Cy w.2 sl l (cond b Z λi=>[Z 0,Z 1,Z 2,c 0].getD i 0) v0 v1 v2 (.ref x) 2)]) 1:=by
 revert b;exact Ek (by kernel_rfl)
theorem Aay(c:Nat)(ch:Nat→Nat):AF w 14 (tw7115438052792442022 f cs cg) [(f,Cy w.2 sl l Z v0 (AG ch c) v2 v3 (Gl b))] [0,1,0] (AE [(0,[])] [λh j k=>UY c ch]) [] 440 2000 [0,1]
   (λd g e=>.done (.ret (.ref (d 0)))) (λd g e=>[(f,Cy w.2 sl l Z v0 (AG ch c) v2 v3 (Gl b)),(d 0,li (BD (Eb ch 8) λi=>Ao ((List.range 11).map e) (3+i)) (Eb ch 8).length)]) 0:=by
 revert b;exact Ek (by kernel_rfl)
theorem Aaz:AF w 8 (tw1689745043323611982 f cs cg) [(f,Cy w.2 sl l Z v0 v1 v2 v3 2)] [1] [] [] 440 2000 [0] (λc d e=>.done (.ret v3)) (λc d e=>[(f,Cy w.2 sl l Z v0 v1 v2 v3 2)]) 0:=by
 kernel_rfl
variable (gt gn fj fk:Nat)(xs:List Value)(a:List Int)
theorem Aa0:AF w 40 (tw9533652250162126650 f cs cg) [(f,Cy w.2 sl l Z v0 v1 (.ref fj) v3 2),(cg,Aw gt),(gt,li xs gn),(fj,li [] fk)] (dg 11 428004085812709) (AE [(1,[1,2,4,3,5,6]),(1,[1,2,7,3,8,9])] [λc e g=>Sb w.2 0 f cg (tk c 0) (tk c 1) (tk c 2) gt gn fj fk xs a,λc e g=>Sb w.2 1 f cg (tk c 3) (tk c 4) (tk c 5) gt gn fj fk xs a]) [] 440 2000 [0,1,2,3,5,8,10]
   (λd h i=>.done (.ret (.ref (d 6)))) (λd h i=>[(f,Cy w.2 sl l Z v0 v1 (.ref fj) v3 2),(cg,Aw gt),(gt,li xs gn),(fj,li [] fk),(d 1,li [] 0),(d 4,li [] 0),(d 6,CY (d 1) (d 4))]) 0:=by
 kernel_rfl
theorem Aa1(c:List Value):AF w 48 (tw9533652250162126650 f cs cg) [(f,Cy w.2 sl l Z v0 v1 (.ref fj) v3 2),(cg,Aw gt),(gt,li xs gn),(fj,li c fk)] (dg 11 0x56f6c0dbf65f7179) (AE [(1,[1,2,4,3,5,6]),(1,[1,2,7,3,8,9])] [λd g h=>Sc w.2 0 f cg (tk d 0) (tk d 1) (tk d 2) gt gn fj fk xs c a,λd g h=>Sc w.2 1 f cg (tk d 3) (tk d 4) (tk d 5) gt gn fj fk xs c a]) [] 440 2000 [0,1,2,3,5,8,10]
   (λe i j=>.done (.ret (.ref (e 6)))) (λe i j=>[(f,Cy w.2 sl l Z v0 v1 (.ref fj) v3 2),(cg,Aw gt),(gt,li xs gn),(fj,li c fk),(e 1,li (c.filter (pk 0 a)) (c.filter (pk 0 a)).length),(e 4,li (c.filter (pk 1 a)) (c.filter (pk 1 a)).length),(e 6,CY (e 1) (e 4))]) 0:=by
 kernel_rfl
end
end
theorem Cn{w:Aa}{A:Al}{L:Ae}{H:List Nat}{E:List (Nat×(List Nat→List Nat→List Obj→Ak))}{W:List Wd}{d u n N:Nat}{o:List Nat}{en:Au→Au→AU→Du}{r:Au→Au→AU→Ae}{v:Sem AA}{T:Type}{t:Sem T}
  (k:AF w n v L H E W d u o en r N) (g:T→Flow) (B:(t>>=λx=>pure (.done (g x)))=v) (C:A.handled=none) (D:A.depth≤d) (G:A.units≤u) (X: ∀q∈E,∀a b c,Av w (q.2 a b c)) (Y: ∀q∈W,∀a b c,(q.2 a b c).1=(q.2 a b c).2)
  {s:Ab} {l:Ae} (F:Ae) (y:(L++F).Perm l) (S:An (kt w) s l) {Q:T→Ab→Prop} {z:Value→Ab→Prop}
  (fi: ∀e h i j,Ag (kt w) s j l (r e h i++F)→Jc g Q z (en e h i) j) (m:BR o=true:=by rfl):wpAny (model pw w) A t Q z s:=
 Xb k g B C D G X Y (S.part F y) (λe h i j I=>fi e h i j (Ag.part F S y I)) m
theorem Hi{w:Aa}{A:Al}{L:Ae}{H:List Nat}{E:List (Nat×(List Nat→List Nat→List Obj→Ak))}{W:List Wd}{d u n N:Nat}{m:List Nat}{v:Au→Au→AU→Value}{o:Au→Au→AU→Ae}{r:Sem AA}{t:Sem Value}
  (k:AF w n r L H E W d u m (λa b c=>.done (.ret (v a b c))) o N) (y:(t>>=λx=>pure (.done (.ret x)))=r) (z:A.handled=none) (B:A.depth≤d) (C:A.units≤u) (X: ∀q∈E,∀e g h,Av w (q.2 e g h)) (Y: ∀q∈W,∀e g h,(q.2 e g h).1=(q.2 e g h).2)
  {s:Ab} {j:Ae} (F:Ae) (D:(L++F).Perm j) (S:An (kt w) s j) {Q:Value→Ab→Prop} {G:Value→Ab→Prop}
  (fi: ∀a b c i,Ag (kt w) s i j (o a b c++F)→Q (v a b c) i) (l:BR m=true:=by rfl):wpAny (model pw w) A t Q G s:=
 Cn k Flow.ret y z B C X Y F D S (λa b c i I x J=>CU J▸fi a b c i I) l
theorem Pr{w:Aa}{A:Al}{v:Value}{L:Ae}{H:List Nat}{E:List (Nat×(List Nat→List Nat→List Obj→Ak))}{W:List Wd}{d u n N:Nat}{o:List Nat}{en:Au→Au→AU→Du}{r:Au→Au→AU→Ae}{y:Sem AA}{T:Type}{t:Sem T}
  (k:J3 w n v y L H E W d u o en r N) (g:T→Flow) (C:(t>>=λx=>pure (.done (g x)))=y) (D:A.handled=none) (G:A.depth≤d) (I:A.units<u) (X: ∀q∈E,∀a b c,Av w (q.2 a b c)) (Y: ∀q∈W,∀a b c,(q.2 a b c).1=(q.2 a b c).2)
  {s:Ab} {l:Ae} (F:Ae) (z:(L++F).Perm l) (S:An (kt w) s l) {Q:T→Ab→Prop} {B:Value→Ab→Prop}
  (fi: ∀e h i j,Ag (kt w) s j l (r e h i++F)→Jc g Q B (en e h i) j) (m:BR o=true:=by rfl):wpAny (model pw w) (A.mark (some v)) t Q B s:=
 Xc k g C D G I X Y (S.part F z) (λe h i j J=>fi e h i j (Ag.part F S z J)) m
theorem Xg{w:Aa}{A:Al}{s:Ab}{a n i t:Nat}{c:List Value}{R:Result→Ab→Prop}(k:s.heap.get? a=some (li c n))(l:c.length≤i)(u:i<1000)
  (h:wpAny (model pw w) A.in1 (raiseErrorWords "IndexError" "list index out of range":Sem Unit) (λ_ _=>False) (λe v=>R (.error e) v) s):
  codeAny (model pw w) A (.call (.builtin JC) ⟨[.ref a,.int i t],[]⟩) R s:=by
 rw[BW]at k;rw[P8];have d:(0:Int)≤(i:Int):=Int.natCast_nonneg i;have m:(i:Int)<1000:=by (first|lia|omega)
 have g:(i:Int)<2^63:=Int.lt_trans m (by decide);have b:(⟨c⟩:Array Value)[(i:Int).toNat]? =none:=by simpa using l
 clear m l u;revert d g b;generalize (i:Int)=z;intro d g b;refine DT slot_list_getitem.plain entry_list_getitem (slot_list_getitem.check _ _ _ _ _ _ _ _ ⟨_,k,rfl⟩ (args_list_getitem _ _) ?_);unfold Builtin.«list.__getitem__»;dsimp only;refine Af (GH (show selfAndOne "list.__getitem__" ⟨[.ref a,.int z t],[]⟩=pure (.ref a,.int z t)from rfl) ?_);dsimp only;refine Af (wpAny_listSubscript_int (fitsIndex_of d g) ?_);clear g;obtain⟨j,rfl⟩:=Int.eq_ofNat_of_zero_le d;have o:(⟨c⟩:Array Value)[j]? =none:=b;dsimp only;refine Af ?_;refine (?_:wpAny _ _ (seqItemAt a j>>=λr=>pure (r.map (j,·))) _ _ s);refine Af (wpAny_seqItemAt k rfl (Aq ?_));rw[o];exact Af (FH (Af (CA h (λ_ _ x=>x.elim) λ_ _ x=>x)))
theorem Aa2{A:Al}{v:Value}(h:A.handled=some v):A=({A with handled:=none}:Al).mark (some v):=by
 obtain⟨a,d,f,g,u⟩:=A;dsimp only at h;subst h;rfl
theorem Nm{w:Aa}{a n i t:Nat}{b:List Value}(d:b.length≤i)(l:i<1000):Av w (Pq none .none [] a b n i t):=by
 intro A e g c s S _;have S:An (kt w) s [(a,li b n)]:=S;have e:A.depth≤900:=e;have g:A.units≤9000:=g;have c:A.handled=none:=c;refine Xg (S.mem (a,li b n) (by (first|((repeat(first|exact .head _|apply List.mem_cons_of_mem));done)|simp))) d l ?_;refine (?_:wpAny _ _ (((mkText "list index out of range">>=λm=>newExc (.type "IndexError") [m]))>>=λv=>raiseNew v) _ _ s);have h:An (kt w) s ([]++[(a,li b n)]):=S;refine Af (Xb (A:=A.in1) (Aam w 0) (λv=>Flow.ret v) (Ai te11413755802565810072 ()) c (by refine (?_:A.depth≤910);(first|lia|omega)) (by refine (?_:A.units+1≤9100);(first|lia|omega)) AR Ar h.left λj m o s1 k x d=> ?_);cases d;refine wpAny_raiseNew_none c ?_;exact⟨[j 0,j 1],[],[Ac (m 0)],rfl,rfl,rfl,rfl,(k.frame h).permR ED,k.toks⟩
theorem Aa3{w:Aa}{a n i t c g:Nat}{j:Value}{d:List Value}(l:d.length≤i)(G:i<1000):Av w (Pq (some (.ref c)) (.ref c) [(c,CK g j .none)] a d n i t):=by
 intro A y z C s S _;have S:An (kt w) s [(a,li d n),(c,CK g j .none)]:=S;have y:A.depth≤900:=y;have z:A.units≤9000:=z;have C:A.handled=some (.ref c):=C;refine Xg (S.mem (a,li d n) (by (first|((repeat(first|exact .head _|apply List.mem_cons_of_mem));done)|simp))) l G ?_;refine (?_:wpAny _ _ (((mkText "list index out of range">>=λm=>newExc (.type "IndexError") [m]))>>=λv=>raiseNew v) _ _ s);have D:=Aa2 C;generalize k:({A with handled:=none}:Al)=B at D;have m:B.handled=none:=by rw[←k]
 have K:B.depth≤900:=by rw[←k];exact y
 have L:B.units≤9000:=by rw[←k];exact z
 rw[D,Around.in1_mark];have E:An (kt w) s ([]++[(a,li d n),(c,CK g j .none)]):=S;refine Af (Xc (A:=B.in1) (Aan w (.ref c)) (λv=>Flow.ret v) (Ai te11413755802565810072 ()) m (by refine (?_:B.depth≤910);(first|lia|omega)) (by refine (?_:B.units+1<9100);(first|lia|omega)) AR Ar E.left λb H P s1 I x l=> ?_);cases l;have o:=I.frame E;have J:c≠b 1:=by
  have h:=o.sat.nd;exact λe=>(List.nodup_cons.mp (List.nodup_cons.mp h).2).1 (by simp[e])
 have r:=o.permR (L'':=[(c,CK g j .none),(b 1,J5 (b 0)),(a,li d n),(b 0,_)]) (AO [] [_,_,_,_] [1,3,5,7] [7,3,5,1]);unfold raiseNew;refine Af (wpAny_handled ?_);refine (?_:wpAny _ _ (if(Value.ref c != Value.ref (b 1))=true then _ else _) _ _ _);rw[AS (by simp[J])];refine (?_:wpAny _ _ (holding [Value.ref (b 1)] (W8 (b 1) c)>>=λ_=>updateField (b 1) 2 (.ref c)>>=λ_=>throw (.ref (b 1))) _ _ _);rw[←bind_assoc];refine Af (Pr (A:=B.in1) (Aao w (b 1) c (b 0) g j) (λ_=>Flow.next) (Ai (Ai te13438513467388647416 (b 1)) c) m (by refine (?_:B.depth≤910);(first|lia|omega)) (by refine (?_:B.units+1<9100);(first|lia|omega)) AR Ar [(a,li d n),(b 0,_)] (.refl _) r.sat λM N O s2 F x l=> ?_);have u:=(r.trans F).permR (L'':=[(a,li d n),(c,CK g j .none),(b 0,_),(b 1,CK (b 0) .none (.ref c))]) (AO [] [_,_,_,_] [3,7,1,5] [1,3,5,7]);exact wpAny_throw ⟨[b 0,b 1],[],[Ac (H 0)],rfl,rfl,rfl,rfl,u,u.toks⟩
section
theorem Nn{w:Aa}{A:Al}{s:Ab}{c:Expr}{g:List Stmt}{a:Env}{i:Pos}{Q:Flow→Ab→Prop}{E:Value→Ab→Prop}(h:wpAny (model pw w) A (isTrue c a (eval c a)) (λb s2=>b=false∧Q .next s2) (notedBy (model pw w) A a (cameBackBy (model pw w) A a E)) s):wpAny (model pw w) A (exec (.While c g [] i) a) Q E s:=by
 refine wpAny_While (codeAny_whileLoop (λ_ j=>j=s) (λn s1 k=> ?_) 0 rfl);subst k;refine CA h (λb s2 d=> ?_) (λe s2 d=>d);obtain⟨rfl,d⟩:=d;exact Aq d
theorem Gz{a b c d e g h i:Addr×Obj}:[a,b,c,d,e,g,h,i].Perm [i,a,b,c,d,e,g,h]:=AO [] [a,b,c,d,e,g,h,i] [1,3,5,7,9,11,13,15] [15,1,3,5,7,9,11,13]
theorem Aa4{a b c d e g h i:Addr×Obj}:[a,b,c,d,e,h,i,g].Perm [i,a,b,c,d,e,g,h]:=AO [] [a,b,c,d,e,g,h,i] [1,3,5,7,9,13,15,11] [15,1,3,5,7,9,11,13]
theorem Ps{b c d e g h a:Addr×Obj}:a∈[b,c,d,e,g,h,a]:=by (first|((repeat(first|exact .head _|apply List.mem_cons_of_mem));done)|simp)
theorem No{b c d e g h a i:Addr×Obj}:a∈[b,c,d,e,g,h,a,i]:=by (first|((repeat(first|exact .head _|apply List.mem_cons_of_mem));done)|simp)
theorem Np{b c d e g h i a:Addr×Obj}:a∈[b,c,d,e,g,h,i,a]:=by (first|((repeat(first|exact .head _|apply List.mem_cons_of_mem));done)|simp)
noncomputable def vl(X:List (Nat×Nat)):List Value:=X.map λp=>.int p.1 p.2
theorem FX{X:List (Nat×Nat)}:(vl X).length=X.length:=by simp[vl]
theorem Xh{X:List (Nat×Nat)}{i:Nat}:(vl X).drop i=vl (X.drop i):=by simp[vl]
theorem Xi{X Y:List (Nat×Nat)}:vl X++vl Y=vl (X++Y):=by simp[vl]
noncomputable abbrev AK(a:Nat)(b:List (Nat×Nat))(c:Nat):=(a,li (vl b) c)
noncomputable abbrev A8(w:Aa)(f g1 g2 m u G:Nat)(κ:Nat→Nat)(X Y:List (Nat×Nat))(n1 n2:Nat)(o:Obj)(b a:Array BK)(i c j d:Nat)(x:List DictEntry)(e:Nat)(g h:List (Nat×Nat))(k l:Nat):Ae:=
 [(f,CL w.2 b κ g1 g2 i c j d m u x e),AK g1 X n1,AK g2 Y n2,AK m g k,AK u h l,(G,wS o a)]
section
variable {w:Aa}{A:Al}{f g1 g2 m u G:Nat}{κ:Nat→Nat}{X Y:List (Nat×Nat)}{n1 n2:Nat}{o:Obj}
noncomputable abbrev Ii(w:Aa)(A:Al)(f:Nat)(Q:Flow→Ab→Prop)(E:Value→Ab→Prop):Value→Ab→Prop:=λe a=>wpAny (model pw w) A (noteFrame e (Bs f)) (λ_ b=>wpAny (model pw w) A (setFlight e none) (λ_ c=>wpAny (model pw w) A (handleBy e (Bs f) (LF Er)) Q E c) E b) E a
theorem Xj(M:A.handled=none)(N:A.depth≤480)(O:A.units≤2600){s:Ab}{g a:Array BK}{i k j l n r v:Nat}{x:List DictEntry}{c d:List (Nat×Nat)}{e t y:Nat}{z F:Value}{B:List Value}
  (S:An (kt w) s (A8 w f g1 g2 m u G κ X Y n1 n2 o g a i k j l x n c d r v++[(e,Fj t y z),(y,Df f F B)])) (P:X.length≤100∧Y.length≤100∧c.length≤100∧d.length≤100) {Q:Flow→Ab→Prop} {E:Value→Ab→Prop}
  (h: ∀H I J,Ag (kt w) s H (A8 w f g1 g2 m u G κ X Y n1 n2 o g a i k j l x n c d r v++[(e,Fj t y z),(y,Df f F B)]) (A8 w f g1 g2 m u G κ X Y n1 n2 o g a i k j l x n (c++X.drop i) (d++Y.drop j) I J)→Q .brk H):
  wpAny (model pw w) A (setFlight (.ref e) none) (λ_ C=>wpAny (model pw w) A (handleBy (.ref e) (Bs f) (LF Er)) Q E C) E s:=by
 refine Po none (S.perm Gz) Ps λs1 b=> ?_;have b:=b.permL Gz.symm;refine Cn (Aak w f g1 g2 i k j l m u κ g x n n1 n2 r v e t y z (vl X) (vl Y) (vl c) (vl d) B (vl (X.drop i)) (vl (Y.drop j))) id (Ai (Ai te10982671374861550713 f) e) M N O (AD _ _ (Ah (λD _ _=>RA (.int _ _) .none .none (by (first|((repeat(first|exact .head _|apply List.mem_cons_of_mem));done)|simp)) (by rw[FX];(first|lia|omega)) (by rw[slicePick_from',Xh])) (Ah (λD _ _=>Xd (by simp only[FX,List.length_drop];(first|lia|omega))) (Ah (λD _ _=>RA (.int _ _) .none .none (by (first|((repeat(first|exact .head _|apply List.mem_cons_of_mem));done)|simp)) (by rw[FX];(first|lia|omega)) (by rw[slicePick_from',Xh])) (Ah (λD _ _=>Xd (by simp only[FX,List.length_drop];(first|lia|omega))) AC))))) Ar [(G,wS o a)] Aa4 b.sat λR T U s2 K=>Fi ?_;have L:Ag (kt w) s s2 _ ([(f,CL w.2 g κ g1 g2 i k j l m u x n),AK g1 X n1,AK g2 Y n2,(m,li (vl c++vl (X.drop i)) (if(vl (X.drop i)).isEmpty then r else r+1)),(u,li (vl d++vl (Y.drop j)) (if(vl (Y.drop j)).isEmpty then v else v+1))]++[(G,wS o a)]):=b.trans K;rw[Xi,Xi]at L;exact h s2 _ _ L
theorem Aa5(F:A.handled=none)(H:A.depth≤480)(I:A.units≤2600){s:Ab}{e a:Array BK}{i g j k l r v:Nat}{x:List DictEntry}{b c:List (Nat×Nat)}{n t d:Nat}{y:Value}{z:List Value}
  (S:An (kt w) s (A8 w f g1 g2 m u G κ X Y n1 n2 o e a i g j k x l b c r v++[(n,Fj t d y),(d,Df f (rawInt f) z)])) (J:X.length≤100∧Y.length≤100∧b.length≤100∧c.length≤100) {Q:Flow→Ab→Prop} {E:Value→Ab→Prop}
  (h: ∀B C D,Ag (kt w) s B (A8 w f g1 g2 m u G κ X Y n1 n2 o e a i g j k x l b c r v++[(n,Fj t d y),(d,Df f (rawInt f) z)]) (A8 w f g1 g2 m u G κ X Y n1 n2 o e a i g j k x l (b++X.drop i) (c++Y.drop j) C D)→Q .brk B):
  Ii w A f Q E (.ref n) s:=
 Ni rfl S No Np (Xj F H I S J h)
end
end
section
noncomputable def Cg:Nat→List (Nat×Nat)→List (Nat×Nat)→List (Nat×Nat)×List (Nat×Nat)
 |0,a,b=>(a,b)
 |_+1,[],b=>([],b)
 |_+1,x::a,[]=>(x::a,[])
 |n+1,x::a,y::b=>if x.1<y.1 then(x::(Cg n a (y::b)).1,(Cg n a (y::b)).2)else if y.1<x.1 then((Cg n (x::a) b).1,y::(Cg n (x::a) b).2)else Cg n a b
noncomputable def Dp(X Y M U:List (Nat×Nat))(i j:Nat)(ms us:List (Nat×Nat)):Prop:= ∃n,(X.drop i).length+(Y.drop j).length≤n∧M=ms++(Cg n (X.drop i) (Y.drop j)).1∧U=us++(Cg n (X.drop i) (Y.drop j)).2
section
variable {X Y M U ms us:List (Nat×Nat)}{i j p q tp tq:Nat}
theorem Dp.fin(g:Dp X Y M U i j ms us)(h:X.length≤i∨Y.length≤j):M=ms++X.drop i∧U=us++Y.drop j:=by
 obtain⟨n,r,b,d⟩:=g;cases n with
 |zero=>exact⟨b,d⟩
 |succ n=>
  rcases h with h|h
  ·rw[List.drop_eq_nil_of_le h]at b d⊢
   exact⟨b,d⟩
  ·rw[List.drop_eq_nil_of_le h]at b d⊢
   cases k:X.drop i with
   |nil=>rw[k]at b d;exact⟨b,d⟩
   |cons a l=>rw[k]at b d;exact⟨b,d⟩
theorem FY{X:List (Nat×Nat)}{i p tp:Nat}(h:X[i]? =some (p,tp)):X.drop i=(p,tp)::X.drop (i+1):=by
 obtain⟨a,e⟩:=List.getElem?_eq_some_iff.mp h;rw[NA a,e]
theorem Dp.lt(g:Dp X Y M U i j ms us)(l:X[i]? =some (p,tp))(a:Y[j]? =some (q,tq))(h:p<q):Dp X Y M U (i+1) j (ms++[(p,tp)]) us:=by
 obtain⟨n,b,d,k⟩:=g;rw[FY l,FY a]at b d k;cases n with
 |zero=>simp at b
 |succ n=>
  rw[Cg,AS h]at d k;refine⟨n,?_,?_,?_⟩
  ·rw[FY a];simp only[Ir]at b⊢;(first|lia|omega)
  ·rw[FY a,Dr];exact d
  ·rw[FY a];exact k
theorem Dp.gt(g:Dp X Y M U i j ms us)(a:X[i]? =some (p,tp))(l:Y[j]? =some (q,tq))(h:q<p):Dp X Y M U i (j+1) ms (us++[(q,tq)]):=by
 obtain⟨n,b,d,k⟩:=g;rw[FY a,FY l]at b d k;cases n with
 |zero=>simp at b
 |succ n=>
  rw[Cg,AH (show¬p<q by (first|lia|omega)),AS h]at d k;refine⟨n,?_,?_,?_⟩
  ·rw[FY a];simp only[Ir]at b⊢;(first|lia|omega)
  ·rw[FY a];exact d
  ·rw[FY a,Dr];exact k
theorem Dp.eq(g:Dp X Y M U i j ms us)(k:X[i]? =some (p,tp))(l:Y[j]? =some (q,tq))(h:p=q):Dp X Y M U (i+1) (j+1) ms us:=by
 obtain⟨n,a,b,d⟩:=g;rw[FY k,FY l]at a b d;cases n with
 |zero=>simp at a
 |succ n=>
  rw[Cg,AH (show¬p<q by (first|lia|omega)),AH (show¬q<p by (first|lia|omega))]at b d;refine⟨n,?_,b,d⟩;simp only[Ir]at a;(first|lia|omega)
end
theorem Nq{X:List (Nat×Nat)}(b:X.Pairwise (·.1< ·.1)){i p tp r d:Nat}(g:X[i]? =some (p,tp))(k:X[i+1]? =some (r,d)):r≠p:=by
 obtain⟨l,e⟩:=List.getElem?_eq_some_iff.mp g;obtain⟨a,n⟩:=List.getElem?_eq_some_iff.mp k;have:=List.pairwise_iff_getElem.mp b i (i+1) l a (by (first|lia|omega));rw[e,n]at this;exact λh=>by simp at this;(first|lia|omega)
theorem Ij{X:List (Nat×Nat)}{i p tp:Nat}(h:X[i]? =some (p,tp)):(vl X)[i]? =some (.int p tp):=by simp[vl,h]
noncomputable abbrev Xk:ExceptHandler:=(LF Er).headD (.ExceptHandler none none [] ⟨0,0,0,0⟩)
theorem Xl:Er= .Try ([AB (AN Er) 0,AB (AN Er) 1]++[Fh]) [Xk] [] [] (sP Er):=by kernel_rfl
theorem Xm:[Xk]=LF Er:=by kernel_rfl
theorem Aa6:Fh= .If (sT Fh) ([AB (AN Fh) 0,AB (AN Fh) 1]++[Ja]) [Es] (sP Fh):=by kernel_rfl
theorem Aa7:Es= .If (sT Es) ([AB (AN Es) 0,AB (AN Es) 1]++[Jb]) [AB (Dt Es) 0,Hg] (sP Es):=by kernel_rfl
theorem Aa8:Hg= .Try [J2] [] [] [AB (LE Hg) 0,Ig] (sP Hg):=by kernel_rfl
theorem Aa9:I9= .While (sT I9) [Er] [] (sP I9):=by kernel_rfl
theorem Aba:Ja= .While (sT Ja) (AN Ja) [] (sP Ja):=by kernel_rfl
theorem Abb:Jb= .While (sT Jb) (AN Jb) [] (sP Jb):=by kernel_rfl
theorem Abc:J2= .While (sT J2) (AN J2) [] (sP J2):=by kernel_rfl
theorem Xn:Ig= .While (sT Ig) (AN Ig) [] (sP Ig):=by kernel_rfl
theorem Abd:Sf=[Gy 0,Gy 1,Gy 2,Gy 3]++(I9::[Gy 5]):=by kernel_rfl
theorem Abe(f:Nat):(Bs f).scope.kind≠ .module:=by
 have:(Bs f).scope.kind= .function:=by kernel_rfl
 rw[this];exact λh=>nomatch h
section
variable {w:Aa}{A:Al}{f g1 g2 m u G:Nat}{κ:Nat→Nat}{X Y M U:List (Nat×Nat)}{n1 n2:Nat}{o:Obj}{env2:Env}
inductive GA (w:Aa) (f g1 g2 m u G:Nat) (κ:Nat→Nat) (X Y M U:List (Nat×Nat)) (n1 n2:Nat) (o:Obj) (k:Nat) (s:Ab) (Λ:Ae) (s':Ab):Prop
 |mk (sl sl2:Array (Option Value)) (i ti j tj y8 y9:Nat) (v8 v9:Value) (ms us:List (Nat×Nat)) (nm nu:Nat) (st:Ag (kt w) s s' Λ (A8 w f g1 g2 m u G κ X Y n1 n2 o sl sl2 i ti j tj [Ad w CP y8 v8,Ad w Co y9 v9] 8 ms us nm nu)) (hi:i<X.length) (hj:j<Y.length) (hk:k<i+j) (hm:ms.length≤i) (hu:us.length≤j) (g:Dp X Y M U i j ms us)
inductive FZ (w:Aa) (f g1 g2 m u G:Nat) (κ:Nat→Nat) (X Y M U:List (Nat×Nat)) (n1 n2:Nat) (o:Obj) (s:Ab) (Λ:Ae) (s':Ab):Prop
 |mk (sl sl2:Array (Option Value)) (i ti j tj:Nat) (x:List DictEntry) (nx nm nu:Nat) (st:Ag (kt w) s s' Λ (A8 w f g1 g2 m u G κ X Y n1 n2 o sl sl2 i ti j tj x nx M U nm nu))
structure GB(A:Al)(f G:Nat)(env2:Env)(o:Obj)(X Y:List (Nat×Nat)):Prop where
 hA:A.handled=none
 dA:A.depth≤480
 uA:A.units<2600
 hfr:A.frames=some [Bs f,env2]
 hk2:env2.scope.kind≠ .module
 hg:env2.frame=some G
 ho:o.isFreed=false
 lX:X.length≤40
 lY:Y.length≤40
 sX:X.Pairwise (·.1< ·.1)
 sY:Y.Pairwise (·.1< ·.1)
noncomputable abbrev DQ(w:Aa)(f g1 g2 m u G:Nat)(κ:Nat→Nat)(X Y:List (Nat×Nat))(n1 n2:Nat)(o:Obj)(sl sl2:Array BK)(i ti j tj:Nat)(x:List DictEntry)(nx:Nat)(ms us:List (Nat×Nat))(nm nu e t tb:Nat)(c fl:Value)(pl:List Value):Ae:=
 A8 w f g1 g2 m u G κ X Y n1 n2 o sl sl2 i ti j tj x nx ms us nm nu++[(e,Fj t tb c),(tb,Df f fl pl)]
section
variable {B:Al}{s:Ab}{sl sl2:Array (Option Value)}{i ti j tj nx nm nu e t tb:Nat}{x:List DictEntry}{ms us:List (Nat×Nat)}{c fl:Value}{pl:List Value}
theorem Xo(d:B.frames=some [Bs f,env2])(g:env2.scope.kind≠ .module)(v:env2.frame=some G)(y:o.isFreed=false){R:Ae}
  (S:An (kt w) s (A8 w f g1 g2 m u G κ X Y n1 n2 o sl sl2 i ti j tj x nx ms us nm nu++((e,CK t .none c)::R))) {k:Unit→Ab→Prop} {z:Value→Ab→Prop}
  (h: ∀l b a tb pl,Ag (kt w) s l (A8 w f g1 g2 m u G κ X Y n1 n2 o sl sl2 i ti j tj x nx ms us nm nu++((e,CK t .none c)::R)) (DQ w f g1 g2 m u G κ X Y n1 n2 o b a i ti j tj x nx ms us nm nu e t tb c (rawInt f) pl)→k () l):
  wpAny (model pw w) B (noteFrame (.ref e) (Bs f)) k z s:=by
 have n:=AO [R] [(f,CL w.2 sl κ g1 g2 i ti j tj m u x nx),AK g1 X n1,AK g2 Y n2,AK m ms nm,AK u us nu,(G,wS o sl2),(e,CK t .none c)] [1,3,5,7,9,11,13,2] [1,11,13,3,5,7,9,2];refine tM d (Abe f) g rfl v rfl (Si y) (S.perm n) λs1 b a tb pl r=>h s1 b a tb pl ?_;have C:=AO [R] [(f,CL w.2 b κ g1 g2 i ti j tj m u x nx),AK g1 X n1,AK g2 Y n2,AK m ms nm,AK u us nu,(G,wS o a),(e,Fj t tb c),(tb,Df f (rawInt f) pl)] [1,11,13,15,3,5,7,9,2] [1,3,5,7,9,11,13,15,2];exact((r.permL n.symm).permR C).subs (EW (DQ w f g1 g2 m u G κ X Y n1 n2 o b a i ti j tj x nx ms us nm nu e t tb c (rawInt f) pl) R)
theorem Sk(S:An (kt w) s (DQ w f g1 g2 m u G κ X Y n1 n2 o sl sl2 i ti j tj x nx ms us nm nu e t tb c fl pl)){a:Value→Ab→Prop}
  (h: ∀b,Ag (kt w) s b (DQ w f g1 g2 m u G κ X Y n1 n2 o sl sl2 i ti j tj x nx ms us nm nu e t tb c fl pl) (DQ w f g1 g2 m u G κ X Y n1 n2 o sl sl2 i ti j tj x nx ms us nm nu e t tb c (rawInt f) pl)→a (.ref e) b):cameBackBy (model pw w) B (Bs f) a (.ref e) s:=
 tN rfl (S.perm Gz) Ps λs1 d=>h s1 ((d.permL Gz.symm).permR Gz.symm)
theorem Nr(g:B.frames=some [Bs f,env2])(k:env2.scope.kind≠ .module)(v:env2.frame=some G)(y:o.isFreed=false){R:Ae}
  (S:An (kt w) s (A8 w f g1 g2 m u G κ X Y n1 n2 o sl sl2 i ti j tj x nx ms us nm nu++((e,CK t .none c)::R))) {l:Value→Ab→Prop}
  (h: ∀n b a tb pl,Ag (kt w) s n (A8 w f g1 g2 m u G κ X Y n1 n2 o sl sl2 i ti j tj x nx ms us nm nu++((e,CK t .none c)::R)) (DQ w f g1 g2 m u G κ X Y n1 n2 o b a i ti j tj x nx ms us nm nu e t tb c (rawInt f) pl)→l (.ref e) n):
  notedBy (model pw w) B (Bs f) (cameBackBy (model pw w) B (Bs f) l) (.ref e) s:=
 Xo g k v y S λs1 b a tb pl d=>Sk d.sat λs2 r=>h s2 b a tb pl (d.trans r)
theorem Abf(S:An (kt w) s (DQ w f g1 g2 m u G κ X Y n1 n2 o sl sl2 i ti j tj x nx ms us nm nu e t tb c fl pl)){T:Type}{k:T→Ab→Prop}{a:String}{b:Value→Ab→Prop}
  (h: ∀d,Ag (kt w) s d (DQ w f g1 g2 m u G κ X Y n1 n2 o sl sl2 i ti j tj x nx ms us nm nu e t tb c fl pl) (DQ w f g1 g2 m u G κ X Y n1 n2 o sl sl2 i ti j tj x nx ms us nm nu e t tb c (rawInt f) pl)→b (.ref e) d):wpAny (model pw w) B (PySem.passOn a (.ref e) (Bs f)) k b s:=
 tO rfl (S.perm Gz) Ps λs1 g=>h s1 ((g.permL Gz.symm).permR Gz.symm)
theorem Abg(S:An (kt w) s (DQ w f g1 g2 m u G κ X Y n1 n2 o sl sl2 i ti j tj x nx ms us nm nu e t tb c fl pl)){a:Unit→Ab→Prop}{g:Value→Ab→Prop}
  (h: ∀b,Ag (kt w) s b (DQ w f g1 g2 m u G κ X Y n1 n2 o sl sl2 i ti j tj x nx ms us nm nu e t tb c fl pl) (DQ w f g1 g2 m u G κ X Y n1 n2 o sl sl2 i ti j tj x nx ms us nm nu e t tb c .none pl)→a () b):wpAny (model pw w) B (setFlight (.ref e) none) a g s:=
 Po none (S.perm Gz) Ps λs1 d=>h s1 ((d.permL Gz.symm).permR Gz.symm)
theorem FZ.via{s0 s1:Ab}{b a:Ae}(d:Ag (kt w) s s0 b a)(h:FZ w f g1 g2 m u G κ X Y M U n1 n2 o s0 a s1):FZ w f g1 g2 m u G κ X Y M U n1 n2 o s b s1:=by
 obtain⟨sl,sl2,i,ti,j,tj,x,nx,nm,nu,h⟩:=h;exact⟨sl,sl2,i,ti,j,tj,x,nx,nm,nu,d.trans h⟩
theorem GA.via{s0 s1:Ab}{l g:Ae}{k:Nat}(n:Ag (kt w) s s0 l g)(h:GA w f g1 g2 m u G κ X Y M U n1 n2 o k s0 g s1):GA w f g1 g2 m u G κ X Y M U n1 n2 o k s l s1:=by
 obtain⟨sl,sl2,i,ti,j,tj,v,y,z,C,ms,us,nm,nu,h,a,b,c,d,e,r⟩:=h;exact⟨sl,sl2,i,ti,j,tj,v,y,z,C,ms,us,nm,nu,n.trans h,a,b,c,d,e,r⟩
theorem GA.mono{s1:Ab}{g:Ae}{k l:Nat}(h:GA w f g1 g2 m u G κ X Y M U n1 n2 o k s g s1)(n:l≤k):GA w f g1 g2 m u G κ X Y M U n1 n2 o l s g s1:=by
 obtain⟨sl,sl2,i,ti,j,tj,v,y,z,C,ms,us,nm,nu,h,a,b,c,d,e,r⟩:=h;exact⟨sl,sl2,i,ti,j,tj,v,y,z,C,ms,us,nm,nu,h,a,b,CM n c,d,e,r⟩
theorem Nt(C:GB A f G env2 o X Y)(S:An (kt w) s (DQ w f g1 g2 m u G κ X Y n1 n2 o sl sl2 i ti j tj x nx ms us nm nu e t tb c (rawInt f) pl))(n:ms.length≤i)(r:us.length≤j)(v:i≤X.length)(y:j≤Y.length)(g:Dp X Y M U i j ms us)(a:X.length≤i∨Y.length≤j){Q:Flow→Ab→Prop}{E:Value→Ab→Prop}
  (h: ∀b,FZ w f g1 g2 m u G κ X Y M U n1 n2 o s (DQ w f g1 g2 m u G κ X Y n1 n2 o sl sl2 i ti j tj x nx ms us nm nu e t tb c (rawInt f) pl) b→Q .brk b):Ii w A f Q E (.ref e) s:=by
 have z:=C.lX;have D:=C.lY;refine Aa5 C.hA C.dA (Bw C.uA) S (by (first|lia|omega)) λs2 k l d=>h s2 ?_;obtain⟨rfl,rfl⟩:=g.fin a;exact⟨_,_,_,_,_,_,_,_,_,_,d⟩
end
theorem Abh(C:GB A f G env2 o X Y){s:Ab}{sl sl2:Array BK}{i ti j tj nx nm nu p tp q tq:Nat}{x:List DictEntry}{ms us:List (Nat×Nat)}
  (S:An (kt w) s (A8 w f g1 g2 m u G κ X Y n1 n2 o sl sl2 i ti j tj x nx ms us nm nu)) (z:(x=[]∧nx=6)∨Ke λa b g k=>x=[Ad w CP a g,Ad w Co b k]∧nx=8) (l:X[i]? =some (p,tp)) (n:Y[j]? =some (q,tq)) {Q:Flow→Ab→Prop} {E:Value→Ab→Prop}
  (h: ∀r a b,Ag (kt w) s r (A8 w f g1 g2 m u G κ X Y n1 n2 o sl sl2 i ti j tj x nx ms us nm nu) (A8 w f g1 g2 m u G κ X Y n1 n2 o sl sl2 i ti j tj (Bn w.2 a b p tp q tq) 8 ms us nm nu)→Q .next r):wpAny (model pw w) A (execs [AB (AN Er) 0,AB (AN Er) 1] (Bs f)) Q E s:=by
 have v:i<1000:=by have:=(List.getElem?_eq_some_iff.mp l).1;have:=C.lX;(first|lia|omega)
 have y:j<1000:=by have:=(List.getElem?_eq_some_iff.mp n).1;have:=C.lY;(first|lia|omega)
 rcases z with⟨rfl,rfl⟩|⟨a,b,g,k,rfl,rfl⟩
 ·refine Cn (tS w f g1 g2 i ti j tj m u κ sl n1 n2 p tp q tq (vl X) (vl Y)) id (Ai te17455020850528331180 f) C.hA C.dA (Bw C.uA) (AD _ _ (Ah (λ_ _ _=>FC (Ij l) v) (Ah (λ_ _ _=>FC (Ij n) y) AC))) Ar [AK m ms nm,AK u us nu,(G,wS o sl2)] (.refl _) S λD F H s1 d=>Fi ?_
  exact h _ _ _ d
 ·refine Cn (tT w f g1 g2 i ti j tj m u κ sl n1 n2 p tp q tq (vl X) (vl Y) a b g k) id (Ai te17455020850528331180 f) C.hA C.dA (Bw C.uA) (AD _ _ (Ah (λ_ _ _=>FC (Ij l) v) (Ah (λ_ _ _=>FC (Ij n) y) AC))) Ar [AK m ms nm,AK u us nu,(G,wS o sl2)] (.refl _) S λD F H s1 d=>Fi ?_
  exact h _ _ _ d
theorem Abi(C:GB A f G env2 o X Y){s:Ab}{sl sl2:Array BK}{i ti j tj nm nu h k p tp q tq:Nat}{ms us:List (Nat×Nat)}
  (S:An (kt w) s (A8 w f g1 g2 m u G κ X Y n1 n2 o sl sl2 i ti j tj (Bn w.2 h k p tp q tq) 8 ms us nm nu)) (F:X[i]? =some (p,tp)) (J:Y[j]? =some (q,tq)) (K:p<q) (hm:ms.length≤i) (L:us.length≤j) (g:Dp X Y M U i j ms us) {Q N:Flow→Ab→Prop} {E:Value→Ab→Prop}
  (T: ∀l,GA w f g1 g2 m u G κ X Y M U n1 n2 o (i+j) s (A8 w f g1 g2 m u G κ X Y n1 n2 o sl sl2 i ti j tj (Bn w.2 h k p tp q tq) 8 ms us nm nu) l→Q .next l)
  (V: ∀l,FZ w f g1 g2 m u G κ X Y M U n1 n2 o s (A8 w f g1 g2 m u G κ X Y n1 n2 o sl sl2 i ti j tj (Bn w.2 h k p tp q tq) 8 ms us nm nu) l→N .brk l):
  wpAny (model pw w) A (execs ([AB (AN Fh) 0,AB (AN Fh) 1]++[Ja]) (Bs f)) Q (Ii w A f N E) s:=by
 have hi:=(List.getElem?_eq_some_iff.mp F).1;have W:=(List.getElem?_eq_some_iff.mp J).1;have lX:=C.lX;have lY:=C.lY;refine Hb (Cn (tV w f g1 g2 i ti j tj m u κ sl h k p tp q tq nm (vl ms)) id (Ai te10261639450180429205 f) C.hA C.dA (Bw C.uA) (AD _ _ (Ah (λ_ _ _=>EN (by rw[FX];(first|lia|omega))) AC)) (Bi _ _ (Az (λ_ _ _=>by (first|((repeat(first|exact .head _|apply List.mem_cons_of_mem));done)|simp)) Bp)) [AK g1 X n1,AK g2 Y n2,AK u us nu,(G,wS o sl2)] (AO [] [_,_,_,_,_,_] [1,7,3,5,9,11] EV) S λn H O s1 a=>Fi ?_);have Z:vl ms++[.int p tp]=vl (ms++[(p,tp)]):=by simp[vl]
 rw[Z]at a;generalize H 1=v at a;have a:Ag (kt w) s s1 (A8 w f g1 g2 m u G κ X Y n1 n2 o sl sl2 i ti j tj (Bn w.2 h k p tp q tq) 8 ms us nm nu) (A8 w f g1 g2 m u G κ X Y n1 n2 o sl sl2 (i+1) v j tj (Bn w.2 h k p tp q tq) 8 (ms++[(p,tp)]) us (nm+1) nu):=a.permR (AO [] [_,_,_,_,_,_] [1,7,3,5,9,11] EV);have P:=g.lt F J K;have z:(ms++[(p,tp)]).length≤i+1:=by (first|((repeat(first|exact .head _|apply List.mem_cons_of_mem));done)|simp);(first|lia|omega)
 refine CS ?_;rw[Aba];refine Nn ?_;rcases Ly (i+1) X.length with y|y
 ·obtain⟨r,I,R⟩:B5 λr I=>X[i+1]? =some (r,I):=⟨_,_,Et y⟩
  have ne:=Nq C.sX F R;refine Cn (Aaa w f g1 g2 (i+1) v j tj m u κ sl h k p tp q tq n1 r I (vl X)) (λb=>Flow.ret (.bool b)) (Ai te11068680119571864600 f) C.hA C.dA (Bw C.uA) (AD _ _ (Ah (λ_ _ _=>FC (Ij R) (by (first|lia|omega))) AC)) (Bi _ _ (Az (λ_ _ _=>by rw[BQ (show¬((r:Int)=(p:Int)) by (first|lia|omega))]) Bp)) [AK g2 Y n2,(m,li (vl (ms++[(p,tp)])) (nm+1)),AK u us nu,(G,wS o sl2)] (.refl _) a.sat λn H O s2 d=>Hh ?_;exact⟨rfl,Aq (T s2 ⟨_,_,_,_,_,_,_,_,_,_,_,_,_,_,a.trans d,y,W,by (first|lia|omega),z,L,P⟩)⟩
 ·refine Cn (Aab w f g1 g2 (i+1) v j tj m u κ sl h k p tp q tq n1 (vl X)) (λb=>Flow.ret (.bool b)) (Ai te11068680119571864600 f) C.hA C.dA (Bw C.uA) (AD _ _ (Ah (λ_ _ _=>Nm (by rw[FX];(first|lia|omega)) (by (first|lia|omega))) AC)) Ar [AK g2 Y n2,(m,li (vl (ms++[(p,tp)])) (nm+1)),AK u us nu,(G,wS o sl2)] (.refl _) a.sat λn H O s2 d=> ?_
  have d:=a.trans (d.permR (L'':=A8 w f g1 g2 m u G κ X Y n1 n2 o sl sl2 (i+1) v j tj (Bn w.2 h k p tp q tq) 8 (ms++[(p,tp)]) us (nm+1) nu++((n 1,J5 (n 0))::[(n 0,_)])) (AO [] [_,_,_,_,_,_,_,_] [1,3,15,13,5,7,9,11] [1,3,5,7,9,11,13,15]));exact Nr C.hfr C.hk2 C.hg C.ho d.sat λs3 _ _ _ _ D=>Nt C D.sat z L (by (first|lia|omega)) (by (first|lia|omega)) P (.inl y) λs4 h4=>V s4 (.via (d.trans D) h4)
theorem Abj(C:GB A f G env2 o X Y){s:Ab}{sl sl2:Array BK}{i ti j tj nm nu h k p tp q tq:Nat}{ms us:List (Nat×Nat)}
  (S:An (kt w) s (A8 w f g1 g2 m u G κ X Y n1 n2 o sl sl2 i ti j tj (Bn w.2 h k p tp q tq) 8 ms us nm nu)) (J:X[i]? =some (p,tp)) (F:Y[j]? =some (q,tq)) (K:q<p) (L:ms.length≤i) (hu:us.length≤j) (g:Dp X Y M U i j ms us) {Q N:Flow→Ab→Prop} {E:Value→Ab→Prop}
  (T: ∀l,GA w f g1 g2 m u G κ X Y M U n1 n2 o (i+j) s (A8 w f g1 g2 m u G κ X Y n1 n2 o sl sl2 i ti j tj (Bn w.2 h k p tp q tq) 8 ms us nm nu) l→Q .next l)
  (V: ∀l,FZ w f g1 g2 m u G κ X Y M U n1 n2 o s (A8 w f g1 g2 m u G κ X Y n1 n2 o sl sl2 i ti j tj (Bn w.2 h k p tp q tq) 8 ms us nm nu) l→N .brk l):
  wpAny (model pw w) A (execs ([AB (AN Es) 0,AB (AN Es) 1]++[Jb]) (Bs f)) Q (Ii w A f N E) s:=by
 have W:=(List.getElem?_eq_some_iff.mp J).1;have hj:=(List.getElem?_eq_some_iff.mp F).1;have lX:=C.lX;have lY:=C.lY;refine Hb (Cn (tW w f g1 g2 i ti j tj m u κ sl h k p tp q tq nu (vl us)) id (Ai te5296470503964135419 f) C.hA C.dA (Bw C.uA) (AD _ _ (Ah (λ_ _ _=>EN (by rw[FX];(first|lia|omega))) AC)) (Bi _ _ (Az (λ_ _ _=>by (first|((repeat(first|exact .head _|apply List.mem_cons_of_mem));done)|simp)) Bp)) [AK g1 X n1,AK g2 Y n2,AK m ms nm,(G,wS o sl2)] (AO [] [_,_,_,_,_,_] [1,9,3,5,7,11] EV) S λn H O s1 a=>Fi ?_);have Z:vl us++[.int q tq]=vl (us++[(q,tq)]):=by simp[vl]
 rw[Z]at a;generalize H 1=v at a;have a:Ag (kt w) s s1 (A8 w f g1 g2 m u G κ X Y n1 n2 o sl sl2 i ti j tj (Bn w.2 h k p tp q tq) 8 ms us nm nu) (A8 w f g1 g2 m u G κ X Y n1 n2 o sl sl2 i ti (j+1) v (Bn w.2 h k p tp q tq) 8 ms (us++[(q,tq)]) nm (nu+1)):=a.permR (AO [] [_,_,_,_,_,_] [1,9,3,5,7,11] EV);have P:=g.gt J F K;have z:(us++[(q,tq)]).length≤j+1:=by (first|((repeat(first|exact .head _|apply List.mem_cons_of_mem));done)|simp);(first|lia|omega)
 refine CS ?_;rw[Abb];refine Nn ?_;rcases Ly (j+1) Y.length with y|y
 ·obtain⟨r,I,R⟩:B5 λr I=>Y[j+1]? =some (r,I):=⟨_,_,Et y⟩
  have ne:=Nq C.sY F R;refine Cn (Aac w f g1 g2 i ti (j+1) v m u κ sl h k p tp q tq n2 r I (vl Y)) (λb=>Flow.ret (.bool b)) (Ai te6318051664192262566 f) C.hA C.dA (Bw C.uA) (AD _ _ (Ah (λ_ _ _=>FC (Ij R) (by (first|lia|omega))) AC)) (Bi _ _ (Az (λ_ _ _=>by rw[BQ (show¬((r:Int)=(q:Int)) by (first|lia|omega))]) Bp)) [AK g1 X n1,AK m ms nm,(u,li (vl (us++[(q,tq)])) (nu+1)),(G,wS o sl2)] (AO [] [_,_,_,_,_,_] [1,5,3,7,9,11] EV) a.sat λn H O s2 d=>Hh ?_;exact⟨rfl,Aq (T s2 ⟨_,_,_,_,_,_,_,_,_,_,_,_,_,_,a.trans (d.permR (AO [] [_,_,_,_,_,_] [1,5,3,7,9,11] EV)),W,y,by (first|lia|omega),L,z,P⟩)⟩
 ·refine Cn (Aad w f g1 g2 i ti (j+1) v m u κ sl h k p tp q tq n2 (vl Y)) (λb=>Flow.ret (.bool b)) (Ai te6318051664192262566 f) C.hA C.dA (Bw C.uA) (AD _ _ (Ah (λ_ _ _=>Nm (by rw[FX];(first|lia|omega)) (by (first|lia|omega))) AC)) Ar [AK g1 X n1,AK m ms nm,(u,li (vl (us++[(q,tq)])) (nu+1)),(G,wS o sl2)] (AO [] [_,_,_,_,_,_] [1,5,3,7,9,11] EV) a.sat λn H O s2 d=> ?_
  have d:=a.trans (d.permR (L'':=A8 w f g1 g2 m u G κ X Y n1 n2 o sl sl2 i ti (j+1) v (Bn w.2 h k p tp q tq) 8 ms (us++[(q,tq)]) nm (nu+1)++((n 1,J5 (n 0))::[(n 0,_)])) (AO [] [_,_,_,_,_,_,_,_] [1,5,15,13,3,7,9,11] [1,3,5,7,9,11,13,15]));exact Nr C.hfr C.hk2 C.hg C.ho d.sat λs3 _ _ _ _ D=>Nt C D.sat L z (by (first|lia|omega)) (by (first|lia|omega)) P (.inr y) λs4 h4=>V s4 (.via (d.trans D) h4)
end
end
section
section
variable {w:Aa}{A:Al}{f g1 g2 m u G:Nat}{κ:Nat→Nat}{X Y M U:List (Nat×Nat)}{n1 n2:Nat}{o:Obj}{env2:Env}
 {s:Ab} {sl sl2:Array (Option Value)} {i ti j tj nm nu y8 y9 p tp q tq:Nat} {ms us:List (Nat×Nat)}
theorem Abk(C:GB A f G env2 o X Y)(S:An (kt w) s (A8 w f g1 g2 m u G κ X Y n1 n2 o sl sl2 i ti j tj (Bn w.2 y8 y9 p tp q tq) 8 ms us nm nu))(H:i<X.length)(y:Y[j]? =some (q,tq))(z:ms.length≤i)(N:us.length≤j)(g:Dp X Y M U i (j+1) ms us){Q B:Flow→Ab→Prop}{E:Value→Ab→Prop}
  (I: ∀d,GA w f g1 g2 m u G κ X Y M U n1 n2 o (i+j) s (A8 w f g1 g2 m u G κ X Y n1 n2 o sl sl2 i ti j tj (Bn w.2 y8 y9 p tp q tq) 8 ms us nm nu) d→Q .next d)
  (J: ∀d,FZ w f g1 g2 m u G κ X Y M U n1 n2 o s (A8 w f g1 g2 m u G κ X Y n1 n2 o sl sl2 i ti j tj (Bn w.2 y8 y9 p tp q tq) 8 ms us nm nu) d→B .brk d):
  wpAny (model pw w) A (execs [AB (LE Hg) 0,Ig] (Bs f)) Q (notedBy (model pw w) A (Bs f) (cameBackBy (model pw w) A (Bs f) (Ii w A f B E))) s:=by
 have O:=(List.getElem?_eq_some_iff.mp y).1;have P:=C.lX;have R:=C.lY;refine CS (Cn (tY w f g1 g2 i ti j tj m u κ sl y8 y9 p tp q tq) id (Ai te18127145149267159557 f) C.hA C.dA (Bw C.uA) AR (Bi _ _ (Az (λ_ _ _=>by (first|((repeat(first|exact .head _|apply List.mem_cons_of_mem));done)|simp)) Bp)) [AK g1 X n1,AK g2 Y n2,AK m ms nm,AK u us nu,(G,wS o sl2)] (.refl _) S λe t D s1 a=>Fi ?_);generalize t 1=k at a;have a:Ag (kt w) s s1 (A8 w f g1 g2 m u G κ X Y n1 n2 o sl sl2 i ti j tj (Bn w.2 y8 y9 p tp q tq) 8 ms us nm nu) (A8 w f g1 g2 m u G κ X Y n1 n2 o sl sl2 i ti (j+1) k (Bn w.2 y8 y9 p tp q tq) 8 ms us nm nu):=a;refine CS ?_;rw[Xn];refine Nn ?_;rcases Ly (j+1) Y.length with l|l
 ·obtain⟨r,v,F⟩:B5 λr v=>Y[j+1]? =some (r,v):=⟨_,_,Et l⟩
  have T:=Nq C.sY y F;refine Cn (Aag w f g1 g2 i ti (j+1) k m u κ sl y8 y9 p tp q tq n2 r v (vl Y)) (λb=>Flow.ret (.bool b)) (Ai te5774956086130822822 f) C.hA C.dA (Bw C.uA) (AD _ _ (Ah (λ_ _ _=>FC (Ij F) (by (first|lia|omega))) AC)) (Bi _ _ (Az (λ_ _ _=>by rw[BQ (show¬((r:Int)=(q:Int)) by (first|lia|omega))]) Bp)) [AK g1 X n1,AK m ms nm,AK u us nu,(G,wS o sl2)] (AO [] [_,_,_,_,_,_] [1,5,3,7,9,11] EV) a.sat λe t D s2 c=>Hh ?_;exact⟨rfl,Aq (I s2 ⟨_,_,_,_,_,_,_,_,_,_,_,_,_,_,a.trans (c.permR (AO [] [_,_,_,_,_,_] [1,5,3,7,9,11] EV)),H,l,by (first|lia|omega),z,by (first|lia|omega),g⟩)⟩
 ·refine Cn (Aah w f g1 g2 i ti (j+1) k m u κ sl y8 y9 p tp q tq n2 (vl Y)) (λb=>Flow.ret (.bool b)) (Ai te5774956086130822822 f) C.hA C.dA (Bw C.uA) (AD _ _ (Ah (λ_ _ _=>Nm (by rw[FX];(first|lia|omega)) (by (first|lia|omega))) AC)) Ar [AK g1 X n1,AK m ms nm,AK u us nu,(G,wS o sl2)] (AO [] [_,_,_,_,_,_] [1,5,3,7,9,11] EV) a.sat λe t D s2 c=> ?_
  have c:=a.trans (c.permR (L'':=A8 w f g1 g2 m u G κ X Y n1 n2 o sl sl2 i ti (j+1) k (Bn w.2 y8 y9 p tp q tq) 8 ms us nm nu++((e 1,J5 (e 0))::[(e 0,_)])) (AO [] [_,_,_,_,_,_,_,_] [1,5,15,13,3,7,9,11] [1,3,5,7,9,11,13,15]));exact Nr C.hfr C.hk2 C.hg C.ho c.sat λs3 _ _ _ _ h=>Ni rfl h.sat No Np (Sk h.sat λV n=>Nt C n.sat z (by (first|lia|omega)) (by (first|lia|omega)) (by (first|lia|omega)) g (.inr l) λK L=>J K (.via (c.trans (h.trans n)) L))
theorem Abl(C:GB A f G env2 o X Y){e t c:Nat}{k:List Value}(S:An (kt w) s (DQ w f g1 g2 m u G κ X Y n1 n2 o sl sl2 i ti j tj (Bn w.2 y8 y9 p tp q tq) 8 ms us nm nu e t c .none .none k))(V:X.length=i)(L:Y[j]? =some (q,tq))(N:ms.length≤i)(W:us.length≤j)(g:Dp X Y M U i (j+1) ms us){Q y:Flow→Ab→Prop}{E:Value→Ab→Prop}
  (O: ∀P,FZ w f g1 g2 m u G κ X Y M U n1 n2 o s (DQ w f g1 g2 m u G κ X Y n1 n2 o sl sl2 i ti j tj (Bn w.2 y8 y9 p tp q tq) 8 ms us nm nu e t c .none .none k) P→y .brk P):
  wpAny (model pw w) (A.mark (some (.ref e))) (execs [AB (LE Hg) 0,Ig] (Bs f))
   (λg l=>match g with| .next=>wpAny (model pw w) A (PySem.passOn "try.finally" (.ref e) (Bs f)) Q (Ii w A f y E) l|g=>wpAny (model pw w) A (setFlight (.ref e) none) (λ_ D=>Q g D) (Ii w A f y E) l)
   (notedBy (model pw w) (A.mark (some (.ref e))) (Bs f) (cameBackBy (model pw w) A (Bs f) (Ii w A f y E))) s:=by
 have Z:=(List.getElem?_eq_some_iff.mp L).1;have lX:=C.lX;have lY:=C.lY;refine CS (Pr (tZ w f g1 g2 i ti j tj m u κ sl y8 y9 p tp q tq e) id (Ai te18127145149267159557 f) C.hA C.dA C.uA AR (Bi _ _ (Az (λ_ _ _=>by (first|((repeat(first|exact .head _|apply List.mem_cons_of_mem));done)|simp)) Bp)) [AK g1 X n1,AK g2 Y n2,AK m ms nm,AK u us nu,(G,wS o sl2),(e,CK t (.ref c) .none),(c,Df f .none k)] (.refl _) S λn F R s1 d=>Fi ?_);generalize F 1=v at d;have d:Ag (kt w) s s1 (DQ w f g1 g2 m u G κ X Y n1 n2 o sl sl2 i ti j tj (Bn w.2 y8 y9 p tp q tq) 8 ms us nm nu e t c .none .none k) (DQ w f g1 g2 m u G κ X Y n1 n2 o sl sl2 i ti (j+1) v (Bn w.2 y8 y9 p tp q tq) 8 ms us nm nu e t c .none .none k):=d;refine CS ?_;rw[Xn];refine Nn ?_;rcases Ly (j+1) Y.length with H|H
 ·obtain⟨r,I,T⟩:B5 λr I=>Y[j+1]? =some (r,I):=⟨_,_,Et H⟩
  have ne:=Nq C.sY L T;refine Pr (Aai w f g1 g2 i ti (j+1) v m u κ sl y8 y9 p tp q tq n2 r I (vl Y) e) (λb=>Flow.ret (.bool b)) (Ai te5774956086130822822 f) C.hA C.dA C.uA (AD _ _ (Ah (λ_ _ _=>Wx (hv:=some (.ref e)) (Ij T) (by (first|lia|omega))) AC)) (Bi _ _ (Az (λ_ _ _=>by rw[BQ (show¬((r:Int)=(q:Int)) by (first|lia|omega))]) Bp)) [AK g1 X n1,AK m ms nm,AK u us nu,(G,wS o sl2),(e,CK t (.ref c) .none),(c,Df f .none k)] (AO [] [_,_,_,_,_,_,_,_] [1,5,3,7,9,11,13,15] [1,3,5,7,9,11,13,15]) d.sat λn F R s2 a=>Hh ?_;have a:=d.trans (a.permR (L'':=DQ w f g1 g2 m u G κ X Y n1 n2 o sl sl2 i ti (j+1) v (Bn w.2 y8 y9 p tp q tq) 8 ms us nm nu e t c .none .none k) (AO [] [_,_,_,_,_,_,_,_] [1,5,3,7,9,11,13,15] [1,3,5,7,9,11,13,15]));exact⟨rfl,Aq (Abf a.sat λs3 h=>Nt C h.sat N (by (first|lia|omega)) (by (first|lia|omega)) (by (first|lia|omega)) g (.inl (by (first|lia|omega))) λJ K=>O J (.via (a.trans h) K))⟩
 ·refine Pr (Aaj w f g1 g2 i ti (j+1) v m u κ sl y8 y9 p tp q tq n2 (vl Y) e t (.ref c)) (λb=>Flow.ret (.bool b)) (Ai te5774956086130822822 f) C.hA C.dA C.uA (AD _ _ (Ah (λ_ _ _=>Aa3 (by rw[FX];(first|lia|omega)) (by (first|lia|omega))) AC)) Ar [AK g1 X n1,AK m ms nm,AK u us nu,(G,wS o sl2),(c,Df f .none k)] (AO [] [_,_,_,_,_,_,_,_] [1,5,13,3,7,9,11,15] [1,3,5,7,9,11,13,15]) d.sat λn F R s2 a=> ?_
  have a:=d.trans (a.permR (L'':=A8 w f g1 g2 m u G κ X Y n1 n2 o sl sl2 i ti (j+1) v (Bn w.2 y8 y9 p tp q tq) 8 ms us nm nu++((n 1,CK (n 0) .none (.ref e))::[(n 0,_),(e,_),(c,_)])) (AO [] [_,_,_,_,_,_,_,_,_,_] [1,5,17,15,13,3,7,9,11,19] [1,3,5,7,9,11,13,15,17,19]));exact Nr (B:=A.mark (some (.ref e))) C.hfr C.hk2 C.hg C.ho a.sat λs3 _ _ _ _ h=>Ni rfl h.sat No Np (Sk h.sat λs4 z=>Nt C z.sat N (by (first|lia|omega)) (by (first|lia|omega)) (by (first|lia|omega)) g (.inr H) λJ K=>O J (.via (a.trans (h.trans z)) K))
theorem Abm(C:GB A f G env2 o X Y)(S:An (kt w) s (A8 w f g1 g2 m u G κ X Y n1 n2 o sl sl2 i ti j tj (Bn w.2 y8 y9 p tp q tq) 8 ms us nm nu))(t:X[i]? =some (p,tp))(l:Y[j]? =some (q,tq))(L:p=q)(R:ms.length≤i)(D:us.length≤j)(g:Dp X Y M U i j ms us){Q F:Flow→Ab→Prop}{E:Value→Ab→Prop}
  (N: ∀e,GA w f g1 g2 m u G κ X Y M U n1 n2 o (i+j) s (A8 w f g1 g2 m u G κ X Y n1 n2 o sl sl2 i ti j tj (Bn w.2 y8 y9 p tp q tq) 8 ms us nm nu) e→Q .next e)
  (H: ∀e,FZ w f g1 g2 m u G κ X Y M U n1 n2 o s (A8 w f g1 g2 m u G κ X Y n1 n2 o sl sl2 i ti j tj (Bn w.2 y8 y9 p tp q tq) 8 ms us nm nu) e→F .brk e):
  wpAny (model pw w) A (execs [AB (Dt Es) 0,Hg] (Bs f)) Q (Ii w A f F E) s:=by
 have T:=(List.getElem?_eq_some_iff.mp t).1;have V:=(List.getElem?_eq_some_iff.mp l).1;have W:=C.lX;have Z:=C.lY;refine CS (Cn (tX w f g1 g2 i ti j tj m u κ sl y8 y9 p tp q tq) id (Ai te10216662923325704771 f) C.hA C.dA (Bw C.uA) AR (Bi _ _ (Az (λ_ _ _=>by (first|((repeat(first|exact .head _|apply List.mem_cons_of_mem));done)|simp)) Bp)) [AK g1 X n1,AK g2 Y n2,AK m ms nm,AK u us nu,(G,wS o sl2)] (.refl _) S λh v I s1 c=>Fi ?_);generalize v 1=k at c;have c:Ag (kt w) s s1 (A8 w f g1 g2 m u G κ X Y n1 n2 o sl sl2 i ti j tj (Bn w.2 y8 y9 p tp q tq) 8 ms us nm nu) (A8 w f g1 g2 m u G κ X Y n1 n2 o sl sl2 (i+1) k j tj (Bn w.2 y8 y9 p tp q tq) 8 ms us nm nu):=c;have J:=g.eq t l L;refine CS ?_;rw[Aa8];refine wpAny_Try_finally ?_;refine CS ?_;rw[Abc];refine Nn ?_;rcases Ly (i+1) X.length with y|y
 ·obtain⟨r,z,K⟩:B5 λr z=>X[i+1]? =some (r,z):=⟨_,_,Et y⟩
  have ne:=Nq C.sX t K;refine Cn (Aae w f g1 g2 (i+1) k j tj m u κ sl y8 y9 p tp q tq n1 r z (vl X)) (λb=>Flow.ret (.bool b)) (Ai te3257809080605712396 f) C.hA C.dA (Bw C.uA) (AD _ _ (Ah (λ_ _ _=>FC (Ij K) (by (first|lia|omega))) AC)) (Bi _ _ (Az (λ_ _ _=>by rw[BQ (show¬((r:Int)=(p:Int)) by (first|lia|omega))]) Bp)) [AK g2 Y n2,AK m ms nm,AK u us nu,(G,wS o sl2)] (.refl _) c.sat λh v I s2 a=>Hh ?_;have a:Ag (kt w) s s2 (A8 w f g1 g2 m u G κ X Y n1 n2 o sl sl2 i ti j tj (Bn w.2 y8 y9 p tp q tq) 8 ms us nm nu) (A8 w f g1 g2 m u G κ X Y n1 n2 o sl sl2 (i+1) k j tj (Bn w.2 y8 y9 p tp q tq) 8 ms us nm nu):=c.trans a;exact⟨rfl,Aq (Aq (Abk C a.sat y l (by (first|lia|omega)) D J (λs3 B=>Aq (N s3 ((B.mono (by (first|lia|omega))).via a))) λs3 B=>H s3 (B.via a)))⟩
 ·refine Cn (Aaf w f g1 g2 (i+1) k j tj m u κ sl y8 y9 p tp q tq n1 (vl X)) (λb=>Flow.ret (.bool b)) (Ai te3257809080605712396 f) C.hA C.dA (Bw C.uA) (AD _ _ (Ah (λ_ _ _=>Nm (by rw[FX];(first|lia|omega)) (by (first|lia|omega))) AC)) Ar [AK g2 Y n2,AK m ms nm,AK u us nu,(G,wS o sl2)] (.refl _) c.sat λh v I s2 a=> ?_
  have a:=c.trans (a.permR (L'':=A8 w f g1 g2 m u G κ X Y n1 n2 o sl sl2 (i+1) k j tj (Bn w.2 y8 y9 p tp q tq) 8 ms us nm nu++((h 1,J5 (h 0))::[(h 0,_)])) (AO [] [_,_,_,_,_,_,_,_] [1,3,15,13,5,7,9,11] [1,3,5,7,9,11,13,15]));exact Nr C.hfr C.hk2 C.hg C.ho a.sat λs3 _ _ _ _ d=>Ni rfl d.sat No Np ⟨ref_ne_byPass _,Ni rfl d.sat No Np (Abg d.sat λs4 n=>Abl C n.sat (by (first|lia|omega)) l (by (first|lia|omega)) D J λO P=>H O (P.via (a.trans (d.trans n))))⟩
end
end
section
section
variable {w:Aa}{A:Al}{f g1 g2 m u G:Nat}{κ:Nat→Nat}{X Y M U:List (Nat×Nat)}{n1 n2:Nat}{o:Obj}{env2:Env}
 {s:Ab} {sl sl2:Array (Option Value)} {i ti j tj nx nm nu:Nat} {x:List DictEntry} {ms us:List (Nat×Nat)}
theorem Abn(C:GB A f G env2 o X Y)(S:An (kt w) s (A8 w f g1 g2 m u G κ X Y n1 n2 o sl sl2 i ti j tj x nx ms us nm nu))(L:(x=[]∧nx=6)∨Ke λe h N O=>x=[Ad w CP e N,Ad w Co h O]∧nx=8)(P:i<X.length)(R:j<Y.length)(z:ms.length≤i)(B:us.length≤j)(g:Dp X Y M U i j ms us){Q:Flow→Ab→Prop}{E:Value→Ab→Prop}
  (D: ∀n,GA w f g1 g2 m u G κ X Y M U n1 n2 o (i+j) s (A8 w f g1 g2 m u G κ X Y n1 n2 o sl sl2 i ti j tj x nx ms us nm nu) n→Q .next n)
  (F: ∀n,FZ w f g1 g2 m u G κ X Y M U n1 n2 o s (A8 w f g1 g2 m u G κ X Y n1 n2 o sl sl2 i ti j tj x nx ms us nm nu) n→Q .brk n):
  wpAny (model pw w) A (exec Er (Bs f)) Q E s:=by
 obtain⟨p,tp,v⟩:B5 λr H=>X[i]? =some (r,H):=⟨_,_,Et P⟩
 obtain⟨q,k,y⟩:B5 λr H=>Y[j]? =some (r,H):=⟨_,_,Et R⟩
 rw[Xl];refine wpAny_Try_except ?_;rw[Xm];refine Hb (Abh C S L v y λs1 e h l=> ?_);refine CS ?_;rw[Aa6];refine wpAny_If ?_
 by_cases T:p<q
 ·refine Cn (Xe w f g1 g2 i ti j tj m u κ sl e h p tp q k true) (λb=>Flow.ret (.bool b)) (Ai (Ai te11312781009566750177 0) f) C.hA C.dA (Bw C.uA) AR (Bi _ _ (Az (λ_ _ _=>by rw[C3 (show(p:Int)<(q:Int) by (first|lia|omega))]) Bp)) [AK g1 X n1,AK g2 Y n2,AK m ms nm,AK u us nu,(G,wS o sl2)] (.refl _) l.sat λI J K s2 a=>Hh ?_
  have c:Ag (kt w) s s2 (A8 w f g1 g2 m u G κ X Y n1 n2 o sl sl2 i ti j tj x nx ms us nm nu) (A8 w f g1 g2 m u G κ X Y n1 n2 o sl sl2 i ti j tj (Bn w.2 e h p tp q k) 8 ms us nm nu):=l.trans a;exact Abi C c.sat v y T z B g (λs3 d=>Aq (Aq (D s3 (d.via c)))) λs3 d=>F s3 (d.via c)
 ·refine Cn (Xe w f g1 g2 i ti j tj m u κ sl e h p tp q k false) (λb=>Flow.ret (.bool b)) (Ai (Ai te11312781009566750177 0) f) C.hA C.dA (Bw C.uA) AR (Bi _ _ (Az (λ_ _ _=>by rw[BQ (show¬((p:Int)<(q:Int)) by (first|lia|omega))]) Bp)) [AK g1 X n1,AK g2 Y n2,AK m ms nm,AK u us nu,(G,wS o sl2)] (.refl _) l.sat λI J K s2 a=>Hh ?_
  have a:Ag (kt w) s s2 (A8 w f g1 g2 m u G κ X Y n1 n2 o sl sl2 i ti j tj x nx ms us nm nu) (A8 w f g1 g2 m u G κ X Y n1 n2 o sl sl2 i ti j tj (Bn w.2 e h p tp q k) 8 ms us nm nu):=l.trans a;refine CS ?_;rw[Aa7];refine wpAny_If ?_
  by_cases V:q<p
  ·refine Cn (Xf w f g1 g2 i ti j tj m u κ sl e h p tp q k true) (λb=>Flow.ret (.bool b)) (Ai (Ai te11312781009566750177 1) f) C.hA C.dA (Bw C.uA) AR (Bi _ _ (Az (λ_ _ _=>by rw[C3 (show(p:Int)>(q:Int) by (first|lia|omega))]) Bp)) [AK g1 X n1,AK g2 Y n2,AK m ms nm,AK u us nu,(G,wS o sl2)] (.refl _) a.sat λI J K s3 t=>Hh ?_
   have c:Ag (kt w) s s3 (A8 w f g1 g2 m u G κ X Y n1 n2 o sl sl2 i ti j tj x nx ms us nm nu) (A8 w f g1 g2 m u G κ X Y n1 n2 o sl sl2 i ti j tj (Bn w.2 e h p tp q k) 8 ms us nm nu):=a.trans t;exact Abj C c.sat v y V z B g (λs3 d=>Aq (Aq (Aq (D s3 (d.via c))))) λs3 d=>F s3 (d.via c)
  ·refine Cn (Xf w f g1 g2 i ti j tj m u κ sl e h p tp q k false) (λb=>Flow.ret (.bool b)) (Ai (Ai te11312781009566750177 1) f) C.hA C.dA (Bw C.uA) AR (Bi _ _ (Az (λ_ _ _=>by rw[BQ (show¬((p:Int)>(q:Int)) by (first|lia|omega))]) Bp)) [AK g1 X n1,AK g2 Y n2,AK m ms nm,AK u us nu,(G,wS o sl2)] (.refl _) a.sat λI J K s3 t=>Hh ?_
   have c:Ag (kt w) s s3 (A8 w f g1 g2 m u G κ X Y n1 n2 o sl sl2 i ti j tj x nx ms us nm nu) (A8 w f g1 g2 m u G κ X Y n1 n2 o sl sl2 i ti j tj (Bn w.2 e h p tp q k) 8 ms us nm nu):=a.trans t;exact Abm C c.sat v y (by (first|lia|omega)) z B g (λs3 d=>Aq (Aq (Aq (D s3 (d.via c))))) λs3 d=>F s3 (d.via c)
theorem Abo(C:GB A f G env2 o X Y)(S:An (kt w) s (A8 w f g1 g2 m u G κ X Y n1 n2 o sl sl2 i ti j tj [] 6 ms us nm nu))(r:X.length=i)(t:j≤Y.length)(v:ms.length≤i)(y:us.length≤j)(g:Dp X Y M U i j ms us){Q:Flow→Ab→Prop}{E:Value→Ab→Prop}
  (h: ∀d,FZ w f g1 g2 m u G κ X Y M U n1 n2 o s (A8 w f g1 g2 m u G κ X Y n1 n2 o sl sl2 i ti j tj [] 6 ms us nm nu) d→Q .brk d):
  wpAny (model pw w) A (exec Er (Bs f)) Q E s:=by
 have z:=C.lX;have B:=C.lY;rw[Xl];refine wpAny_Try_except ?_;rw[Xm];refine Hb (Cn (tU w f g1 g2 i ti j tj m u κ sl n1 (vl X)) id (Ai te17455020850528331180 f) C.hA C.dA (Bw C.uA) (AD _ _ (Ah (λ_ _ _=>Nm (by rw[FX];(first|lia|omega)) (by (first|lia|omega))) AC)) Ar [AK g2 Y n2,AK m ms nm,AK u us nu,(G,wS o sl2)] (.refl _) S λc D F s2 a=> ?_);have a:=a.permR (L'':=A8 w f g1 g2 m u G κ X Y n1 n2 o sl sl2 i ti j tj [] 6 ms us nm nu++((c 1,J5 (c 0))::[(c 0,_)])) (AO [] [_,_,_,_,_,_,_,_] [1,3,15,13,5,7,9,11] [1,3,5,7,9,11,13,15]);refine Xo C.hfr C.hk2 C.hg C.ho a.sat λs3 _ _ _ _ b=>Xj C.hA C.dA (Bw C.uA) b.sat (by (first|lia|omega)) λk l n e=>h k ?_;obtain⟨rfl,rfl⟩:=g.fin (.inl (by (first|lia|omega)));exact⟨_,_,_,_,_,_,_,_,_,_,(a.trans b).trans e⟩
inductive SdI (w:Aa) (f g1 g2 m u G:Nat) (κ:Nat→Nat) (X Y M U:List (Nat×Nat)) (n1 n2:Nat) (o:Obj) (s:Ab) (Λ:Ae) (n:Nat) (s':Ab):Prop
 |mk (sl sl2:Array (Option Value)) (i ti j tj:Nat) (x:List DictEntry) (nx:Nat) (ms us:List (Nat×Nat)) (nm nu:Nat) (st:Ag (kt w) s s' Λ (A8 w f g1 g2 m u G κ X Y n1 n2 o sl sl2 i ti j tj x nx ms us nm nu)) (hx:(x=[]∧nx=6)∨Ke λy8 y9 v8 v9=>x=[Ad w CP y8 v8,Ad w Co y9 v9]∧nx=8) (hij:(i<X.length∧j<Y.length)∨(X.length=i∧j≤Y.length∧x=[]∧nx=6)) (hm:ms.length≤i) (hu:us.length≤j) (g:Dp X Y M U i j ms us) (hn:n=X.length+Y.length-(i+j))
theorem Abp{a b i j c d n:Nat}(g:n=a+b-(i+j))(e:i+j<c+d)(h:c<a)(k:d<b):a+b-(c+d)<n:=g▸Jf (Dz e (Nat.add_lt_add h k)) e
theorem Abq(C:GB A f G env2 o X Y)(S:An (kt w) s (A8 w f g1 g2 m u G κ X Y n1 n2 o sl sl2 0 ti 0 tj [] 6 [] [] nm nu))(y:X≠[]→Y≠[]){Q:Flow→Ab→Prop}{E:Value→Ab→Prop}
  (e: ∀z,FZ w f g1 g2 m u G κ X Y (Cg (X.length+Y.length) X Y).1 (Cg (X.length+Y.length) X Y).2 n1 n2 o s (A8 w f g1 g2 m u G κ X Y n1 n2 o sl sl2 0 ti 0 tj [] 6 [] [] nm nu) z→Q .next z):
  wpAny (model pw w) A (exec I9 (Bs f)) Q E s:=by
 rw[Aa9];generalize hM:(Cg (X.length+Y.length) X Y).1=M at e;generalize hU:(Cg (X.length+Y.length) X Y).2=U at e;have g0:Dp X Y M U 0 0 [] []:=⟨X.length+Y.length,by (first|((repeat(first|exact .head _|apply List.mem_cons_of_mem));done)|simp),by rw[←hM];rfl,by rw[←hU];rfl⟩
 refine wpAny_While (codeAny_whileLoop (SdI w f g1 g2 m u G κ X Y M U n1 n2 o s (A8 w f g1 g2 m u G κ X Y n1 n2 o sl sl2 0 ti 0 tj [] 6 [] [] nm nu)) (λn s1 h1=> ?_) (X.length+Y.length) ?_)
 ·obtain⟨ad,ac,i,ae,j,ai,x,nx,ms,us,aj,ak,h,hx,B,D,F,g,hn⟩:=h1
  refine Cn (tR w f) (λb=>Flow.ret (.bool b)) (Ai te1421409607433010936 f) C.hA C.dA (Bw C.uA) AR Ar _ (.refl _) h.sat λα τ ω s2 H=>Hh ?_;have c:=h.trans H;rcases B with⟨t,v⟩|⟨t,v,rfl,rfl⟩
  ·refine CS (Abn C c.sat hx t v D F g (λs3 d=>Aq ?_) λs3 d=>e s3 (d.via c))
   obtain⟨I,J,K,L,N,O,y8,y9,v8,v9,P,R,T,V,W,k,r,hk,Z,aa,g'⟩:=d;exact⟨X.length+Y.length-(K+N),Abp hn hk k r,I,J,K,L,N,O,_,_,P,R,T,V,c.trans W,.inr ⟨y8,y9,v8,v9,rfl,rfl⟩,.inl ⟨k,r⟩,Z,aa,g',rfl⟩
  ·exact CS (Abo C c.sat t v D F g λs3 d=>e s3 (d.via c))
 ·refine⟨sl,sl2,0,ti,0,tj,[],6,[],[],nm,nu,.refl S,.inl ⟨rfl,rfl⟩,?_,A7 _,A7 _,g0,rfl⟩
  cases X with
  |nil=>exact .inr ⟨rfl,B7 _,rfl,rfl⟩
  |cons a l=>exact .inl ⟨by (first|((repeat(first|exact .head _|apply List.mem_cons_of_mem));done)|simp),List.length_pos_iff.mpr (y (by (first|((repeat(first|exact .head _|apply List.mem_cons_of_mem));done)|simp)))⟩
end
theorem Abr{a b c d e g h:Addr×Obj}:[h,g,a,b,d,e,c].Perm [a,b,c,d,e,g,h]:=AO [] [a,b,c,d,e,g,h] [13,11,1,3,7,9,5] [1,3,5,7,9,11,13]
inductive Abs (w:Aa) (g1 g2 G:Nat) (X Y:List (Nat×Nat)) (n1 n2:Nat) (o:Obj) (r:Result) (L':Ae) (ts:List Nat):Prop
 |mk (ht:ts=[]) (sl2:Array (Option Value)) (m u t nm nu:Nat) (hr:r= .ok (.ret (.ref t))) (hL:L'=[(g1,li (vl X) n1),(g2,li (vl Y) n2),(G,wS o sl2),(m,li (vl (Cg (X.length+Y.length) X Y).1) nm),(u,li (vl (Cg (X.length+Y.length) X Y).2) nu),(t,tu [.ref m,.ref u] 0)])
theorem Abt{w:Aa}{B:Al}{g1 g2 G n1 n2:Nat}{X Y:List (Nat×Nat)}{o:Obj}{env2:Env}{sl2:Array BK}(n:B.handled=none)(Q:B.depth≤470)(uB:B.units≤2500)(r:B.frames=some [env2])(t:env2.scope.kind≠ .module)(D:env2.frame=some G)(E:o.isFreed=false)
  (F:X.length≤40) (H:Y.length≤40) (I:X.Pairwise (·.1< ·.1)) (J:Y.Pairwise (·.1< ·.1)) (v:X≠[]→Y≠[]):
  RunsW w B (.call (.ref 302) ⟨[.ref g1,.ref g2],[]⟩) [AK g1 X n1,AK g2 Y n2,(G,wS o sl2)] (Abs w g1 g2 G X Y n1 n2 o):=by
 refine EO (tP w g1 g2) [AK g1 X n1,AK g2 Y n2,(G,wS o sl2)] (.refl _) [] n (by (first|lia|omega)) (by (first|lia|omega)) AR Ar λK e R=>⟨_,.refl _,?_⟩
 generalize K 0=f;intro s S;have S:An (kt w) s [(f,Nj ⟨[]⟩ [Ad w CC (e 0) (.ref g1),Ad w CB (e 1) (.ref g2)] 2),AK g1 X n1,AK g2 Y n2,(G,wS o sl2)]:=S;have C:GB (B.deeper (Bs f)) f G env2 o X Y:=⟨n,by refine (?_:B.depth+1≤480);(first|lia|omega),by refine (?_:B.units+3<2600);(first|lia|omega),Around.frames_deeper r,t,D,E,F,H,I,J⟩
 refine codeAny_func ?_;rw[Abd];refine Hb (Cn (tQ w f g1 g2 (λi=>e i) ⟨[]⟩) id (Ai te12221740135850211760 f) C.hA C.dA (Bw C.uA) AR Ar [AK g1 X n1,AK g2 Y n2,(G,wS o sl2)] (.refl _) S λa b P s1 g=>Fi ?_);have g:Ag (kt w) s s1 _ (A8 w f g1 g2 (a 0) (a 1) G (λi=>[e 0,e 1,b 2,b 3,b 4,b 5].getD i 0) X Y n1 n2 o ⟨[]⟩ sl2 0 (b 1) 0 (b 1) [] 6 [] [] 0 0):=g.permR (AO [] [_,_,_,_,_,_] [1,7,9,3,5,11] EV);refine CS (Abq C g.sat v λs2 L=> ?_);obtain⟨y,c,i,ti,j,tj,x,nx,nm,nu,l⟩:=L;refine Cn (Aal w f g1 g2 i ti j tj (a 0) (a 1) (λi=>[e 0,e 1,b 2,b 3,b 4,b 5].getD i 0) y x nx) id (Ai te17473257155629819926 f) C.hA C.dA (Bw C.uA) AR Ar [AK g1 X n1,AK g2 Y n2,(a 0,li (vl (Cg (X.length+Y.length) X Y).1) nm),(a 1,li (vl (Cg (X.length+Y.length) X Y).2) nu),(G,wS o c)] (AO [] [_,_,_,_,_,_] EV EV) l.sat λd N O s3 z=>Fi ?_;obtain⟨h,k⟩: ∃h,Ag (kt w) s s3 _ [(f,h),(d 0,tu [.ref (a 0),.ref (a 1)] 0),(g1,li (vl X) n1),(g2,li (vl Y) n2),(a 0,li (vl (Cg (X.length+Y.length) X Y).1) nm),(a 1,li (vl (Cg (X.length+Y.length) X Y).2) nu),(G,wS o c)]:=⟨_,(g.trans l).trans z⟩
 have k:=k.permR (L'':=[AK g1 X n1,AK g2 Y n2,(G,wS o c),(a 0,li (vl (Cg (X.length+Y.length) X Y).1) nm),(a 1,li (vl (Cg (X.length+Y.length) X Y).2) nu),(d 0,tu [.ref (a 0),.ref (a 1)] 0),(f,h)]) Abr;exact⟨_,[],⟨rfl,c,a 0,a 1,d 0,nm,nu,rfl,rfl⟩,k.subs (EW [AK g1 X n1,AK g2 Y n2,(G,wS o c),(a 0,li (vl (Cg (X.length+Y.length) X Y).1) nm),(a 1,li (vl (Cg (X.length+Y.length) X Y).2) nu),(d 0,tu [.ref (a 0),.ref (a 1)] 0)] [(f,h)]),k.toks⟩
end
section
section
variable {A:Al}{s:Ab}
theorem Pt{a n:Nat}{b:List Value}(h:s.heap.get? a=some (li b n)):s.heap.IsList a ⟨b⟩:=by
 rw[BW]at h;exact⟨_,h,rfl,n,rfl⟩
theorem Xp{a n:Nat}{b:List Value}(h:s.heap.get? a=some (tu b n)):s.heap.IsTuple a ⟨b⟩:=by
 rw[JI]at h;exact⟨_,h,rfl,n,rfl⟩
noncomputable def Le(A:Al)(s:Ab)(a b:List Value):Prop:=a.length=b.length∧ ∀j (c:j<a.length) (d:j<b.length),EqAt A s a[j] b[j] true
theorem Sl(n:Nat):((List.range n).all λ_=>true)=true:=by (first|((repeat(first|exact .head _|apply List.mem_cons_of_mem));done)|simp)
theorem Abu{a b n k:Nat}{c d:List Value}(g:s.heap.get? a=some (li c n))(i:s.heap.get? b=some (li d k))(m:A.units<cLine)(h:Le A.in1 s c d):RcNeAt A s (.ref a) (.ref b) false:=by
 have:=RcNeAt.lists (A:=A) (e:=λ_=>true) (Pt g) (Pt i) h.1 m λj o r=>h.2 j o r;rwa[Sl]at this
theorem Sm{a b n k:Nat}{c d:List Value}(g:s.heap.get? a=some (li c n))(i:s.heap.get? b=some (li d k))(m:A.units<cLine)(h:Le A.in1 s c d):RcAt A s (.ref a) (.ref b) true:=by
 have:=RcAt.lists (A:=A) (e:=λ_=>true) (Pt g) (Pt i) h.1 m λj o r=>h.2 j o r;rwa[Sl]at this
theorem Abv{a b n k:Nat}{c d:List Value}(g:s.heap.get? a=some (tu c n))(i:s.heap.get? b=some (tu d k))(m:A.units<cLine)(h:Le A.in1 s c d):RcNeAt A s (.ref a) (.ref b) false:=by
 have:=RcNeAt.tuples (A:=A) (e:=λ_=>true) (Xp g) (Xp i) m λj o r=>h.2 j o r;have e:((⟨c⟩:Array Value).size==(⟨d⟩:Array Value).size)=true:=by simpa using h.1
 rw[Sl,e]at this;exact this
end
theorem Xq{w:Aa}{B:Al}{s:Ab}{g:Stmt}{l r:Expr}{k p:Pos}{d:List Stmt}{a:Env}{Q:Flow→Ab→Prop}{E:Value→Ab→Prop}(i:g= .If (.Compare l [.NotEq] [r] k) d [] p)(m:markedBehindIn .NotEq r (eval r a)=eval r a)
  (h:wpAny (model pw w) B (eval l a) (λb s1=>wpAny (model pw w) B (eval r a) (λc s2=>RcNeAt B s2 b c false∧Q .next s2) E s1) E s):wpAny (model pw w) B (exec g a) Q E s:=by
 rw[i,exec_If];refine Af (Ds ?_);rw[isTrue_Compare1];refine Af (Af (CA h (λb s1 n=> ?_) λ_ _ e=>e));refine Af (Di ?_);rw[m];refine CA n (λc s2 j=> ?_) λ_ _ e=>e;refine Af (Ds ?_);refine Af ?_;refine (?_:wpAny _ _ (holding [b,c] (compareOp .NotEq b c)>>=λr=>release [b,c] [r]>>=λ_=>pure r) _ _ _);refine Af (Di (j.1 pw w _ _ ?_));refine Af (wpAny_release (Aq ?_));refine (?_:wpAny _ _ (holding [.bool false] (truthy DE)) _ _ _);refine Di (wpAny_truthy_bool ?_);simp only[CZ,if_false];exact Aq j.2
theorem Abw:lw 9= .If (.Compare (A9 ((Br (sT (lw 9)))) 0) [.NotEq] [A9 ((Br (sT (lw 9)))) 1] (gP (sT (lw 9)))) (AN (lw 9)) [] (sP (lw 9)):=by kernel_rfl
theorem Abx:lw 11= .Return (some (.Compare (A9 (Br ((sk (lw 11) 0 []))) 0) [.Eq] [A9 (Br ((sk (lw 11) 0 []))) 1] (gP ((sk (lw 11) 0 []))))) (sP (lw 11)):=by kernel_rfl
section
variable {w:Aa}{B:Al}{f cs cg:Nat}{l:LV}{sl:Array (Option Value)}{s:Ab}
theorem Aby(k:B.handled=none)(m:B.depth≤440)(uB:B.units≤2000){g d:Nat}{D:List TE}{e:List Value}{R:Ae}(u:0<D.length)(v:D.length≤900)
  (S:An (kt w) s ([(f,Cf w.2 sl l [] 8),(l.du,li (AL D) g),(l.td,li e d)]++TL D++R)) (y: ∀A s,Le A s e (DP D)) {Q:Flow→Ab→Prop} {E:Value→Ab→Prop}
  (z: ∀n,Ag (kt w) s n ([(f,Cf w.2 sl l [] 8),(l.du,li (AL D) g),(l.td,li e d)]++TL D++R) ([(f,Cf w.2 sl l [] 8),(l.du,li (AL D) g),(l.td,li e d)]++TL D++R)→Q .next n):
  wpAny (model pw w) B (exec (lw 9) (Bv f cs cg)) Q E s:=by
 refine Xq Abw (by rfl) ?_;refine Hi (Aap w f cs cg l sl) (Ai (Ai (Ai te4508568973332873282 f) cs) cg) k m uB AR Ar ([(l.du,li (AL D) g),(l.td,li e d)]++TL D++R) (.refl _) S λo C F s1 i=> ?_;have j: ∀{a b c:Addr×Obj} {X Y:Ae},([a,b,c]++X++Y).Perm (([a,b]++X)++(c::Y)):=λ {a b c X Y}=>(EF (l₁:=X)).symm.append_left [a,b];have r:=(i.permR j).sat;refine HZ (Aaq w f cs cg l sl g D) Flow.ret (Ai (Ai (Ai te4550174764539607127 f) cs) cg) (TL D) [] k m uB (G6 _ _ (FT (λ_ _ _ _ _ _=>tI v u) G5)) Ar r.left λo C F s2 H t _ G=> ?_;refine CU G▸ ?_;have h:=((i.permR j).trans (Ag.part ((l.td,li e d)::R) r (.refl _) t)).permR (L'':=(o 1,li (DP D) D.length)::([(f,Cf w.2 sl l [] 8),(l.du,li (AL D) g),(l.td,li e d)]++TL D++R)) ((EF (l₁:=[_,_])).trans (j.symm.cons _));exact⟨Abu (h.sat.mem (l.td,li e d) (.tail _ (.tail _ (.tail _ (.head _))))) (h.sat.mem _ (.head _)) (CM uB (by decide)) (y _ _),z s2 (h.subs (Pz _ _))⟩
theorem Abz(i:B.handled=none)(k:B.depth≤440)(uB:B.units≤2000){c d:Nat}{a b:List Value}{x:List DictEntry}{R:Ae}(h:a.length≤400)(hz:a.drop l.tn++a.take l.tn=b)
  (S:An (kt w) s ([(f,Cf w.2 sl l x d),(l.pl,li a 16),(l.cd,li b c)]++R)) {Q:Flow→Ab→Prop} {E:Value→Ab→Prop}
  (r: ∀m,Ag (kt w) s m ([(f,Cf w.2 sl l x d),(l.pl,li a 16),(l.cd,li b c)]++R) ([(f,Cf w.2 sl l x d),(l.pl,li a 16),(l.cd,li b c)]++R)→Q (.ret IK) m):
  wpAny (model pw w) B (exec (lw 11) (Bv f cs cg)) Q E s:=by
 rw[Abx,exec_Return_some];refine Af (Ds (Af (wpAny_Compare1 ?_ (by rfl))));refine Hi (Aau w f cs cg l sl x d) (Ai (Ai (Ai te17697714968690218824 f) cs) cg) i k uB AR Ar ([(l.pl,li a 16),(l.cd,li b c)]++R) (.refl _) S λn t u s1 g=> ?_;have v:(a.take l.tn).length≤400:=Ay (List.length_take_le' _ _) h;refine Hi (Aav w f cs cg l sl x d a (a.drop l.tn) (a.take l.tn) b) (Ai (Ai (Ai te14837520834594988895 f) cs) cg) i k uB (AD _ _ (Ah (λ_ _ _=>H3 (.int _ _) .none .none (by (first|((repeat(first|exact .head _|apply List.mem_cons_of_mem));done)|simp)) (Ay h (by decide)) (by rw[slicePick_from'])) (Ah (λ_ _ _=>H3 .none (.int _ _) .none (by (first|((repeat(first|exact .head _|apply List.mem_cons_of_mem));done)|simp)) (Ay h (by decide)) (by rw[slicePick_upto'])) (Ah (λ_ _ _=>WV (by (first|((repeat(first|exact .head _|apply List.mem_cons_of_mem));done)|simp);(first|lia|omega)) hz) AC)))) Ar ((l.cd,li b c)::R) (.refl _) g.sat λn t u s2 o=> ?_;have e:=(g.trans o).permR (L'':=(n 4,li b 0)::([(f,Cf w.2 sl l x d),(l.pl,li a 16),(l.cd,li b c)]++R)) (EF (l₁:=[_,_]));refine Sm (e.sat.mem (l.cd,li b c) (.tail _ (.tail _ (.tail _ (.head _))))) (e.sat.mem _ (.head _)) (CM uB (by decide)) ⟨rfl,λj y z=>EqAt.same _⟩ pw w _ _ ?_;exact Aq (r s2 (e.subs (Pz _ _)))
end
end
section
noncomputable def zI(X:List (Nat×Nat)):List Int:=X.map λp=>(p.1:Int)
noncomputable def Fk:Nat→List Int→List Int→List Int×List Int
 |0,a,b=>(a,b)
 |_+1,[],b=>([],b)
 |_+1,x::a,[]=>(x::a,[])
 |n+1,x::a,y::b=>if x<y then(x::(Fk n a (y::b)).1,(Fk n a (y::b)).2)else if y<x then((Fk n (x::a) b).1,y::(Fk n (x::a) b).2)else Fk n a b
theorem Ab0: ∀(n:Nat) (X Y:List (Nat×Nat)),Fk n (zI X) (zI Y)=(zI (Cg n X Y).1,zI (Cg n X Y).2):=by
 intro n
 induction n with
 |zero=>intro X Y;rfl
 |succ n a=>
  intro X Y;cases X with
  |nil=>rfl
  |cons x X=>
   cases Y with
   |nil=>rfl
   |cons y Y=>
    refine (?_:Fk (n+1) ((x.1:Int)::zI X) ((y.1:Int)::zI Y)=_);rw[Fk,Cg];have b:=a X (y::Y);have c:=a (x::X) Y;have e:=a X Y
    by_cases h:x.1<y.1
    ·rw[AS h,AS (by (first|lia|omega))]
     have b:Fk n (zI X) ((y.1:Int)::zI Y)=_:=b;rw[b];rfl
    ·rw[AH h,AH (by (first|lia|omega))]
     by_cases d:y.1<x.1
     ·rw[AS d,AS (by (first|lia|omega))]
      have c:Fk n ((x.1:Int)::zI X) (zI Y)=_:=c;rw[c];rfl
     ·rw[AH d,AH (by (first|lia|omega)),e]
theorem Xr{a:List Value}{F:List Int}(h:AX a F)(b: ∀n∈F,0≤n): ∃X,a=vl X∧zI X=F:=by
 induction h with
 |nil=>exact⟨[],rfl,rfl⟩
 | @cons n t j k _ d=>
  obtain⟨X,e,g⟩:=d λm i=>b m (BB _ i);have c:=b n Bj;refine⟨(n.toNat,t)::X,?_,?_⟩
  ·refine (?_:_=Value.int (n.toNat:Int) t::vl X)
   rw[Int.toNat_of_nonneg c,e]
  ·show(n.toNat:Int)::zI X=_
   rw[Int.toNat_of_nonneg c,g]
theorem Sn: ∀X:List (Nat×Nat),AX (vl X) (zI X)
 |[]=>.nil
 |x::X=>.cons _ _ (Sn X)
theorem Xs{m:Nat}{a:List Int}{c:List Value}{F:List Int}(h:AX c F):AX (c.filter (pk m a)) (F.filter λk=>if m=0 then !decide (k∈a)else decide (k∈a)):=by
 induction h with
 |nil=>exact .nil
 | @cons n t e g _ d=>
  by_cases b:pk m a (.int n t)=true
  ·rw[NC b,NC (p:=λk=>if m=0 then !decide (k∈a)else decide (k∈a)) (show(if m=0 then !decide (n∈a)else decide (n∈a))=true from b)]
   exact .cons _ _ d
  ·rw[ND b,ND (p:=λk=>if m=0 then !decide (k∈a)else decide (k∈a)) (show¬(if m=0 then !decide (n∈a)else decide (n∈a))=true from b)]
   exact d
theorem Xu{A:Al}{s:Ab}{d:List Value}{F:List Int}(h:AX d F): ∀{a:List Value},AX a F→Le A s d a:=by
 intro a b;refine⟨(G0 h).trans (G0 b).symm,?_⟩
 induction h generalizing a with
 |nil=>intro j c _;exact absurd c (Ka j)
 | @cons n t i k _ e=>
  cases b with
  |cons _ u g=>
   intro j c b;cases j with
   |zero=>have:=EqAt.int_int (A:=A) (s:=s) n t n u;rwa[show(n==n)=true by (first|((repeat(first|exact .head _|apply List.mem_cons_of_mem));done)|simp)]at this
   |succ j=>exact e g j (by simpa using c) (by simpa using b)
structure Pu(a G F:List Int):Prop where
 e1:(Fk (G.length+a.length) G a).1=F.filter λk=> !decide (k∈a)
 e2:(Fk (G.length+a.length) G a).2=F.filter λk=>decide (k∈a)
 sG:G.Pairwise (· < ·)
 sa:a.Pairwise (· < ·)
 hG:G≠[]→a≠[]
 zG: ∀k∈G,(0:Int)≤k
 za: ∀k∈a,(0:Int)≤k
 lG:G.length≤40
 la:a.length≤40
 lF:F.length≤900
theorem Xv{X:List (Nat×Nat)}(h:(zI X).Pairwise (· < ·)):X.Pairwise (·.1< ·.1):=by
 unfold zI at h;rw[GE]at h;exact h.imp λh=>by simpa using h
theorem Xw{X:List (Nat×Nat)}:(zI X).length=X.length:=by simp[zI]
theorem Ab1:AN (lw 10)=[J1,Gx]:=by kernel_rfl
theorem Ab2:J1= .Assign [sk J1 1 []] (.Call (.Name (PH (A9 (Br EU) 0)) (gP (A9 (Br EU) 0))) [A9 (Br EU) 1,A9 (Br EU) 2] [] (gP EU)) (sP J1):=by kernel_rfl
theorem Ab3:Expr.Name (PH (A9 (Br EU) 0)) (gP (A9 (Br EU) 0))=A9 (Br EU) 0:=by kernel_rfl
theorem Ab4:Gx= .If (.Compare (A9 (Br (sT Gx)) 0) [.NotEq] [A9 (Br (sT Gx)) 1] (gP (sT Gx))) (AN Gx) [] (sP Gx):=by kernel_rfl
theorem Ab5(p:Pos)(a:Env):backTo p (starEach [A9 (Br EU) 1,A9 (Br EU) 2] a)=[(false,eval (A9 (Br EU) 1) a),(false,eval (A9 (Br EU) 2) a)]:=by kernel_rfl
theorem Ab6(f cs cg:Nat):(Bv f cs cg).scope.kind≠ .module:=by
 have:(Bv f cs cg).scope.kind= .function:=by kernel_rfl
 rw[this];exact λh=>nomatch h
theorem Ab7(w:Aa):B5 λo a=>(kt w).get 302=some o∧o.data= .func a:=by
 have h:(match(kt w).get 302 with|some o=>(match o.data with| .func _=>true|_=>false)|none=>false)=true:=by kernel_rfl
 cases e:(kt w).get 302 with
 |none=>rw[e]at h;cases h
 |some o=>
  rw[e]at h;cases d:o.data <;> simp only[d]at h <;> first|exact⟨o,_,rfl,d⟩|cases h
theorem Ab8{M:Ae}{x y:Addr×Obj}(g:x∈M)(i:y∈M)(h:y≠x): ∃j,M.Perm (x::y::j):=by
 obtain⟨a,b,rfl⟩:=List.append_of_mem g;have c:(a++x::b).Perm (x::(a++b)):=EF;have d:y∈a++b:=by
  rcases List.mem_cons.mp (c.mem_iff.mp i)with e|e
  ·exact absurd e h
  ·exact e
 obtain⟨k,m,e⟩:=List.append_of_mem d;exact⟨k++m,c.trans (by rw[e];exact List.perm_middle.cons x)⟩
section
variable {w:Aa}{B:Al}{f cs cg gt gn:Nat}{l:LV}{s:Ab}{M:Ae}{sl:Array (Option Value)}{Z:Nat→Nat}{v0 v1 v2 v3:Value}
theorem Ab9(d:B.handled=none)(g:B.depth≤440)(uB:B.units≤2000){e:TE}{b:Bool}{R:Ae}(S:An (kt w) s ([(f,Cy w.2 sl l Z v0 v1 v2 v3 (cond b 2 0)),(e.T,CF e)]++R)){Q:Unit→Ab→Prop}{E:Value→Ab→Prop}
  (h: ∀a i,Ag (kt w) s a ([(f,Cy w.2 sl l Z v0 v1 v2 v3 (cond b 2 0)),(e.T,CF e)]++R) ([(f,Cy w.2 sl l i (.int e.c e.ct) (.str e.s e.st) (.ref e.fj) v3 (Gl b)),(e.T,CF e)]++R)→Q () a):
  wpAny (model pw w) B (assign ((sT (lw 10))) (Bv f cs cg) (.ref e.T)) Q E s:=
 Cn (Aaw w f cs cg l sl Z v0 v1 v2 v3 b e.T e.c e.ct e.st e.fj e.s) (λ_:Unit=>Flow.next) (Ai (Ai (Ai (Ai te5274324696313484632 f) cs) cg) e.T) d g uB AR Ar R (.refl _) S λj k m s1 c _ _=>h s1 _ c
theorem Aca(m:B.handled=none)(n:B.depth≤440)(uB:B.units≤2000)(aa:B.frames=some [Bv f cs cg]){ch:Nat→Nat}{b:Bool}{y:List Value}{a F:List Int}(hx:AX y a)(C:Pu a (Eb ch 8) F){d:Nat}
  (S:An (kt w) s ([(f,Cy w.2 sl l Z v0 (AG ch d) v2 v3 (Gl b)),(cg,Aw gt),(gt,li y gn)]++M)) {Q:Flow→Ab→Prop} {E:Value→Ab→Prop}
  (hQ: ∀s' j Z' g z A R T D G,AX D (F.filter λk=> !decide (k∈a))→AX G (F.filter λk=>decide (k∈a))→Ag (kt w) s s' ([(f,Cy w.2 sl l Z v0 (AG ch d) v2 v3 (Gl b)),(cg,Aw gt),(gt,li y gn)]++M) ([(f,Cy w.2 j l Z' v0 (AG ch d) v2 (.ref g) 2),(cg,Aw gt),(gt,li y gn)]++M++[(z,li D R),(A,li G T),(g,CY z A)])→Q .next s'):
  wpAny (model pw w) B (exec J1 (Bv f cs cg)) Q E s:=by
 obtain⟨Y,rfl,H⟩:=Xr hx C.za;clear hx;rw[Ab2];refine wpAny_Assign_stores (wpAny_Call_Name_kw ?_) (by kernel_rfl) (by kernel_rfl);rw[Ab3];refine Hi (Aas w f cs cg) (Ai (Ai (Ai te11209589962911415932 f) cs) cg) m n uB AR Ar _ (.refl _) S λI U J s1 c=> ?_;rw[Ab5];obtain⟨o,fd,ho,hd⟩:=Ab7 w;refine Calls.callWith_function (o:=o) (fd:=fd) (Calls.evalArgs_plain (Calls.spliced_cons ?_));refine Hi (Aay w f cs cg l sl Z v0 v2 v3 b d ch) (Ai (Ai (Ai te7115438052792442022 f) cs) cg) m n uB (AD _ _ (Ah (λ_ _ _=>uU) AC)) Ar _ (.refl _) c.sat λI U J s2 N=> ?_;replace c:=c.trans N;clear N;obtain⟨X,eX,K⟩:=Xr (JM (Eb ch 8) λi=>Ao ((List.range 11).map J) (3+i)) C.zG;rw[eX]at c;clear eX;generalize I 0=g1 at c;refine Calls.spliced_cons (Hi (Aat w f cs cg gt) (Ai (Ai (Ai te17999581269091546004 f) cs) cg) m n uB AR Ar _ (EF (l₁:=[_,_])).symm c.sat λI U J s3 O=> ?_);replace c:=(c.trans O).permR (L'':=[(g1,li (vl X) (Eb ch 8).length),AK gt Y gn,(f,Cy w.2 sl l Z v0 (AG ch d) v2 v3 (Gl b))]++((cg,Aw gt)::M)) (AO [M] [_,_,_,_] [7,5,1,3,2] [1,3,5,7,2]);clear O;refine Calls.spliced_nil ⟨⟨c.sat.old 302 o ho,hd⟩,wpAny_call ?_⟩;have t:X.length=(Eb ch 8).length:=by rw[←K,Xw]
 have u:Y.length=a.length:=by rw[←H,Xw]
 have P:X≠[]→Y≠[]:=λh e=>C.hG (λe=>h (Px (t.trans (Am Iu e)))) (Px (u.symm.trans (Am Iu e)));refine B4 (Abt (o:=Cy w.2 ⟨[]⟩ l Z v0 (AG ch d) v2 v3 (Gl b)) m (Ay n (by decide)) (Ay uB (by decide)) aa (Ab6 f cs cg) rfl rfl (t▸C.lG) (u▸C.la) (Xv (K▸C.sG)) (Xv (H▸C.sa)) P s3 c.sat.left) λr s4 hz=> ?_;obtain⟨L',ts,⟨h1,j,z,A,g,R,T,h2,h3⟩,v,ri⟩:=hz;rw[h3]at v;rw[h2];replace c:=c.trans (Ag.part ((cg,Aw gt)::M) c.sat (.refl _) v);clear v h1 h2 h3 ri P;have L:=Ab0 (X.length+Y.length) X Y;rw[K,H,t,u]at L;rw[t,u]at c;have V:=Sn (Cg ((Eb ch 8).length+a.length) X Y).1;have W:=Sn (Cg ((Eb ch 8).length+a.length) X Y).2;rw[←show _=zI _ from Am Prod.fst L,C.e1]at V;rw[←show _=zI _ from Am Prod.snd L,C.e2]at W;generalize vl (Cg ((Eb ch 8).length+a.length) X Y).1=D at c V;generalize vl (Cg ((Eb ch 8).length+a.length) X Y).2=G at c W;clear L t u K H C;refine Cn (Aax w f cs cg l j Z v0 (AG ch d) v2 v3 b g) (λ_:Unit=>Flow.next) (Ai (Ai (Ai (Ai te15463470008193624773 f) cs) cg) g) m n uB AR Ar _ (EF (l₁:=[_,_])).symm c.sat λI U J s5 ac _ _=>hQ s5 j _ g z A R T D G V W (((c.trans ac).permR (AO [M] [_,_,_,_,_,_,_] [1,13,5,7,9,11,3,2] [0,11,0,6,0,3,1,3,5,2,7,9,11,13])).subs (EW _ _))
end
end
noncomputable def Lf(a:List Int):Bool:=decide (a.length%2=1)
noncomputable def Dq(a:List Int):Nat:=(a.map Int.toNat).foldl Nat.xor 0
noncomputable def AM(a:List Int):List (List Int):=I5 (Lf a) (Dq a)
noncomputable def Dg(a F:List Int):List Int:=DM a F 8
noncomputable def Nu(a F G:List Int):Bool:=K0 (8-F.length) (BX (Dg a F)) (8-G.length) (BX (Dg a G))
noncomputable def Xx(a:List Int)(j:Nat):List Nat→List Nat
 |[]=>[j]
 |k::l=>if Nu a ((AM a).getD j []) ((AM a).getD k [])then j::k::l else k::Xx a j l
noncomputable def CG(a:List Int):List Nat:=(List.range (AM a).length).foldr (λj l=>Xx a j l) []
noncomputable def Dy(a:List Int):List Nat:=(CG a).map λj=>EB.idxOf (Dg a ((AM a).getD j []))
noncomputable def CT(a:List Int)(i:Nat):List Int:=(AM a).getD ((CG a).getD i 0) []
noncomputable def So(h:Nat)(f:Nat→Nat→Bool):Bool:=(List.range h).all λj=>(List.range j).all λi=>f i j
noncomputable def Hj(a:List Int):Bool:=
 let F:=AM a;let h:=F.length;let o:=CG a;let b:=Dy a
 (if Lf a then h==8 else if Dq a==0 then h==1 else h==4)&&decide (Dq a<8)&&o.isPerm (List.range h)&&b.all (λc=>decide (c<16))&&a.all (λk=>decide (0≤k)&&decide (k<8))
 &&(List.range h).all (λi=>EB.getD (b.getD i 0) []==Dg a (CT a i)&&cnt (chOf (EB.getD (b.getD i 0) [])) (chOf a) 8==8-(CT a i).length)
 &&(List.range 16).all (λc=>decide (5≤cnt (chOf (EB.getD c [])) (chOf a) 8)==b.contains c)
 &&So h (λi j=>Nu a (CT a i) (CT a j)&& !Nu a (CT a j) (CT a i)&& !(BX (Dg a (CT a i))==BX (Dg a (CT a j)))&& !(b.getD i 0==b.getD j 0))
noncomputable def srt(l:List Int):Bool:=match l with
 |[]=>true
 |[_]=>true
 |x::y::l=>decide (x<y)&&srt (y::l)
noncomputable def Xy(a G F:List Int):Bool:=
 (Fk (G.length+a.length) G a).1==F.filter (λk=> !decide (k∈a))&&(Fk (G.length+a.length) G a).2==F.filter (λk=>decide (k∈a))&&srt G&&srt a&&(G.isEmpty|| !a.isEmpty)&&G.all (λk=>decide (0≤k))&&a.all (λk=>decide (0≤k))&&decide (G.length≤40)&&decide (a.length≤40)&&decide (F.length≤900)
noncomputable def Ik(a:List Int):Bool:=(AM a).all λF=>Xy a (Eb (chOf (Dg a F)) 8) F
noncomputable def DR(a b c d e g h j:Bool):List Int:=Bz (λi=>[a,b,c,d,e,g,h,j].getD i false) 8
theorem Acb: ∀a b c d e:Bool,Hj (DR false false false a b c d e)=true:=by decide+kernel
theorem Acc: ∀a b c d e:Bool,Hj (DR false false true a b c d e)=true:=by decide+kernel
theorem Acd: ∀a b c d e:Bool,Hj (DR false true false a b c d e)=true:=by decide+kernel
theorem Ace: ∀a b c d e:Bool,Hj (DR false true true a b c d e)=true:=by decide+kernel
theorem Acf: ∀a b c d e:Bool,Hj (DR true false false a b c d e)=true:=by decide+kernel
theorem Acg: ∀a b c d e:Bool,Hj (DR true false true a b c d e)=true:=by decide+kernel
theorem Ach: ∀a b c d e:Bool,Hj (DR true true false a b c d e)=true:=by decide+kernel
theorem Aci: ∀a b c d e:Bool,Hj (DR true true true a b c d e)=true:=by decide+kernel
theorem Acj: ∀a b c d e:Bool,Ik (DR false false false a b c d e)=true:=by decide+kernel
theorem Ack: ∀a b c d e:Bool,Ik (DR false false true a b c d e)=true:=by decide+kernel
theorem Acl: ∀a b c d e:Bool,Ik (DR false true false a b c d e)=true:=by decide+kernel
theorem Acm: ∀a b c d e:Bool,Ik (DR false true true a b c d e)=true:=by decide+kernel
theorem Acn: ∀a b c d e:Bool,Ik (DR true false false a b c d e)=true:=by decide+kernel
theorem Aco: ∀a b c d e:Bool,Ik (DR true false true a b c d e)=true:=by decide+kernel
theorem Acp: ∀a b c d e:Bool,Ik (DR true true false a b c d e)=true:=by decide+kernel
theorem Acq: ∀a b c d e:Bool,Ik (DR true true true a b c d e)=true:=by decide+kernel
theorem Acr: ∀a b c d e g h i:Bool,Hj (DR a b c d e g h i)=true
 |false,false,false=>Acb
 |false,false,true=>Acc
 |false,true,false=>Acd
 |false,true,true=>Ace
 |true,false,false=>Acf
 |true,false,true=>Acg
 |true,true,false=>Ach
 |true,true,true=>Aci
theorem Acs: ∀a b c d e g h i:Bool,Ik (DR a b c d e g h i)=true
 |false,false,false=>Acj
 |false,false,true=>Ack
 |false,true,false=>Acl
 |false,true,true=>Acm
 |true,false,false=>Acn
 |true,false,true=>Aco
 |true,true,false=>Acp
 |true,true,true=>Acq
theorem Xz(p:Nat→Bool):Bz p 8=DR (p 0) (p 1) (p 2) (p 3) (p 4) (p 5) (p 6) (p 7):=rfl
structure Ee(a:List Int):Prop where
 hF:if Lf a=true then(AM a).length=8 else if Dq a=0 then(AM a).length=1 else(AM a).length=4
 v8:Dq a<8
 perm:(CG a).Perm (List.range (AM a).length)
 blt: ∀c∈Dy a,c<16
 a8: ∀k∈a,0≤k∧k<8
 word: ∀i,i<(AM a).length→EB.getD ((Dy a).getD i 0) []=Dg a (CT a i)∧cnt (chOf (EB.getD ((Dy a).getD i 0) [])) (chOf a) 8=8-(CT a i).length
 hit: ∀c,c<16→(5≤cnt (chOf (EB.getD c [])) (chOf a) 8↔c∈Dy a)
 ord: ∀i j,i<j→j<(AM a).length→Nu a (CT a i) (CT a j)=true∧Nu a (CT a j) (CT a i)=false∧BX (Dg a (CT a i))≠BX (Dg a (CT a j))∧(Dy a).getD i 0≠(Dy a).getD j 0
theorem Act{h:Nat}{f:Nat→Nat→Bool}(e:So h f=true): ∀i j,i<j→j<h→f i j=true:=by
 unfold So at e;intro i j a b;exact List.all_eq_true.mp (List.all_eq_true.mp e j (List.mem_range.mpr b)) i (List.mem_range.mpr a)
theorem XA(p:Nat→Bool):Ee (Bz p 8):=by
 have e:=Acr (p 0) (p 1) (p 2) (p 3) (p 4) (p 5) (p 6) (p 7);rw[←Xz]at e;generalize Bz p 8=a at e;unfold Hj at e;dsimp only at e;simp only[Fo]at e;obtain⟨⟨⟨⟨⟨⟨⟨b,o⟩,r⟩,s⟩,t⟩,u⟩,v⟩,w⟩:=e;refine⟨?_,of_decide_eq_true o,List.isPerm_iff.mp r,λc g=>of_decide_eq_true (List.all_eq_true.mp s c g),λk y=> ?_,λi l=> ?_,λc g=> ?_,λi j l z=> ?_⟩
 ·by_cases h:Lf a=true
  ·rw[AS h]at b⊢;exact eq_of_beq b
  ·rw[AH h]at b⊢
   by_cases d:Dq a=0
   ·rw[AS d,AS (by simp[d])]at*;exact eq_of_beq b
   ·rw[AH d];rw[AH (by simp[d])]at b;exact eq_of_beq b
 ·have:=List.all_eq_true.mp t k y
  simp only[Fo,decide_eq_true_eq]at this;exact this
 ·have:=List.all_eq_true.mp u i (List.mem_range.mpr l)
  simp only[Fo]at this;exact⟨eq_of_beq this.1,eq_of_beq this.2⟩
 ·have:=eq_of_beq (List.all_eq_true.mp v c (List.mem_range.mpr g))
  rw[←decide_eq_true_iff (p:=5≤cnt (chOf (EB.getD c [])) (chOf a) 8),this,List.contains_iff_mem]
 ·have:=Act w i j l z
  simp only[Fo,Lq]at this;obtain⟨⟨⟨A,d⟩,m⟩,n⟩:=this;exact⟨A,d,λq=>by rw[q]at m;simp at m,λq=>by rw[q]at n;simp at n⟩
theorem Sq: ∀l:List Int,srt l=true→l.Pairwise (· < ·)
 |[],_=>.nil
 |[_],_=>List.pairwise_singleton ..
 |x::y::l,h=>by
  unfold srt at h;simp only[Fo,decide_eq_true_eq]at h;have a:=Sq (y::l) h.2;refine List.pairwise_cons.mpr ⟨λz hz=> ?_,a⟩;rcases List.mem_cons.mp hz with rfl|hz
  ·exact h.1
  ·exact Int.lt_trans h.1 ((List.pairwise_cons.mp a).1 z hz)
theorem Acu(p:Nat→Bool): ∀F∈AM (Bz p 8),Pu (Bz p 8) (Eb (chOf (Dg (Bz p 8) F)) 8) F:=by
 have e:=Acs (p 0) (p 1) (p 2) (p 3) (p 4) (p 5) (p 6) (p 7);rw[←Xz]at e;generalize Bz p 8=a at e;intro F g;have e:=List.all_eq_true.mp e F g;unfold Xy at e;simp only[Fo,decide_eq_true_eq,Bool.or_eq_true]at e;obtain⟨⟨⟨⟨⟨⟨⟨⟨⟨i,j⟩,l⟩,m⟩,b⟩,n⟩,o⟩,r⟩,s⟩,d⟩:=e;refine⟨eq_of_beq i,eq_of_beq j,Sq _ l,Sq _ m,λh=> ?_,λk c=>of_decide_eq_true (List.all_eq_true.mp n k c),λk c=>of_decide_eq_true (List.all_eq_true.mp o k c),r,s,d⟩;rcases b with b|b
 ·exact absurd (List.isEmpty_iff.mp b) h
 ·exact λq=>by rw[q]at b;simp at b
theorem XB(a b:Nat→Nat): ∀n,cnt a b n≤n
 |0=>A7 _
 |n+1=>by
  have:=XB a b n;refine (?_:cnt a b n+(if a n=b n then 1 else 0)≤n+1)
  split <;> (first|lia|omega)
theorem Acv: ∀k,k<9→IX (Bl k)=decide (5≤k):=by decide+kernel
theorem Acw(A:Nat→Nat→Nat)(b:Nat→Nat)(i:Nat):MG A b i=decide (5≤cnt (A i) b 8):=Acv _ (F8 (XB _ _ 8))
theorem Acx{l:List Nat}{a:Nat→Nat}{h:Nat}(v:l.Nodup)(z:((List.range h).map a).Nodup)(w: ∀x,x∈l↔x∈(List.range h).map a):B5 λt E=>IZ h t E∧l=(List.range h).map λj=>a (t j):=by
 have F:=(Nw v z).mpr w;have G:l.length=h:=by have:=F.length_eq;simpa using this
 have u: ∀j (b:j<h),((List.range h).map a)[j]'(by simpa using b)=a j:=λj b=>by (first|((repeat(first|exact .head _|apply List.mem_cons_of_mem));done)|simp)
 have y: ∀j,j<h→((List.range h).map a).idxOf (a j)=j:=λj b=>by
  have:=z.idxOf_getElem j (by simpa using b);rwa[u j b]at this
 have o: ∀j (b:j<h),((List.range h).map a).idxOf (l.getD j 0)<h∧a (((List.range h).map a).idxOf (l.getD j 0))=l.getD j 0:=λj b=>by
  have c:j<l.length:=by (first|lia|omega)
  have e:l.getD j 0=l[j]:=by simp[List.getD,c]
  have d:l[j]∈(List.range h).map a:=(w _).mp (C0 c);have g:=List.idxOf_lt_length_iff.mpr d;rw[e];refine⟨by simpa using g,?_⟩;have A:((List.range h).map a).idxOf l[j]<h:=by simpa using g
  rw[←u _ A];exact List.getElem_idxOf g
 have r: ∀k,k<h→l.idxOf (a k)<h∧l.getD (l.idxOf (a k)) 0=a k:=λk m=>by
  have d:a k∈l:=(w _).mpr (B6 (List.mem_range.mpr m));have g:=List.idxOf_lt_length_iff.mpr d;refine⟨by (first|lia|omega),?_⟩;have:l.getD (l.idxOf (a k)) 0=l[l.idxOf (a k)]'g:=by simp[List.getD,g]
  rw[this];exact List.getElem_idxOf g
 refine⟨λj=>((List.range h).map a).idxOf (l.getD j 0),λk=>l.idxOf (a k),⟨λj b=>(o j b).1,λj b=> ?_,λk m=> ?_,?_⟩,?_⟩
 ·refine (?_:l.idxOf (a _)=j)
  rw[(o j b).2];have c:j<l.length:=by (first|lia|omega)
  have e:l.getD j 0=l[j]:=by simp[List.getD,c]
  rw[e];exact v.idxOf_getElem j c
 ·show((List.range h).map a).idxOf (l.getD _ 0)=k
  rw[(r k m).2,y k m]
 ·have B: ∀i,i<h→ ∀j,j<h→l.idxOf (a i)=l.idxOf (a j)→i=j:=λi s j b e=>by
   have C:=(r i s).2;rw[e,(r j b).2]at C;have:=y i s;rw[←C,y j b]at this;exact this.symm
  refine(Nw ?_ J8).mpr λx=> ?_
  ·rw[GC,GE]
   refine(List.nodup_iff_pairwise_ne.mp (J8 (n:=h))).imp_of_mem λ {i j} s b H e=>H (B i (List.mem_range.mp s) j (List.mem_range.mp b) e)
  ·rw[List.mem_map,List.mem_range]
   constructor
   ·rintro⟨k,m,rfl⟩
    exact(r k (List.mem_range.mp m)).1
   ·intro D
    refine⟨_,List.mem_range.mpr (o x D).1,?_⟩;rw[(o x D).2];have c:x<l.length:=by (first|lia|omega)
    have e:l.getD x 0=l[x]:=by simp[List.getD,c]
    rw[e];exact v.idxOf_getElem x c
 ·refine Hn (by simpa using G) λj I J=> ?_
  have b:j<h:=by (first|lia|omega)
  rw[J9,List.getElem_range];rw[(o j b).2];simp[List.getD,I]
section
noncomputable def F0(a:List Int)(b k:Nat):Nat:=((Dy a).getD k 0+16-b)%16
theorem Sr: ∀b,b<16→ ∀x,x<16→((x+16-b)%16+b)%16=x:=by decide+kernel
theorem Ss: ∀b,b<16→ ∀x,x<16→((x+b)%16+16-b)%16=x:=by decide+kernel
theorem Acy{Y:List TE}(d:Y.Pairwise λx y=>I6 x y=true∧I6 y x=false∧x.s≠y.s): ∃f,Nc Y f:=by
 classical
 have m:Y.Nodup:=d.imp λh e=>h.2.2 (by rw[e]);have g: ∀i (b:i<Y.length),Y.idxOf Y[i]=i:=λi b=>m.idxOf_getElem i b;refine⟨λe=>Y.length-Y.idxOf e,?_,λx n y o k=> ?_⟩
 ·rw[F6]
  intro i j b c l;rw[g i b,g j c];exact Jf b l
 ·obtain⟨i,b,rfl⟩:=F7 n
  obtain⟨j,c,rfl⟩:=F7 o;rw[g i b,g j c]at k⊢;rw[F6]at d;rcases Jh i j with h|h|h
  ·have:=d i j b c h
   exact⟨this.2.2,by rw[this.2.1,BQ (Jl (Nat.sub_le_sub_left (Bw h) _))]⟩
  ·subst h;exact absurd rfl k
  ·have:=d j i c b h
   exact⟨λe=>this.2.2 e.symm,by rw[this.1,C3 (Jf c h)]⟩
section
variable {a:List Int}(K:Ee a)
include K
theorem Ee.h3:(AM a).length=1∨(AM a).length=4∨(AM a).length=8:=by
 have:=K.hF
 split at this
 ·exact .inr (.inr this)
 ·split at this
  ·exact .inl this
  ·exact .inr (.inl this)
theorem Ee.ol:(CG a).length=(AM a).length:=by have:=K.perm.length_eq;simpa using this
theorem Ee.bl:(Dy a).length=(AM a).length:=by rw[←K.ol];simp[Dy]
theorem Ee.b16{k:Nat}(b:k<(AM a).length):(Dy a).getD k 0<16:=by
 have l:k<(Dy a).length:=by rw[K.bl];exact b
 have:(Dy a).getD k 0=(Dy a)[k]:=by simp[List.getD,l]
 rw[this];exact K.blt _ (C0 l)
theorem Ee.rot{b k:Nat}(c:b<16)(d:k<(AM a).length):Cw b (F0 a b k)=chOf (EB.getD ((Dy a).getD k 0) []):=by
 have:=K.b16 d;unfold Cw F0;rw[Sr b c _ this]
theorem Ee.text{b k:Nat}(d:b<16)(c:k<(AM a).length):sf (Cw b (F0 a b k))=BX (Dg a (CT a k)):=by
 rw[K.rot d c,(K.word k c).1];rfl
theorem Ee.best{e:Nat}(c:e<16):RM (Cw e) (chOf a) (F0 a e) (AM a).length:=by
 refine⟨λk h=>GI _ (by decide),λi j d b=> ?_⟩;have g:i<(AM a).length:=by (first|lia|omega)
 rw[K.text c g,K.text c b,K.rot c g,K.rot c b,(K.word i g).2,(K.word j b).2];exact⟨(K.ord i j d b).1,(K.ord i j d b).2.1⟩
theorem Ee.ranked{b:Nat}(r:b<16):B5 λm s=>Rm (Cw b) (chOf a) 16 (AM a).length (F0 a b) m s:=by
 have v: ∀i,i<(AM a).length→ ∀j,j<(AM a).length→i≠j→(Dy a).getD i 0≠(Dy a).getD j 0:=λi d j g t=>by
  rcases Nat.lt_or_gt_of_ne t with h|h
  ·exact(K.ord i j h g).2.2.2
  ·exact λe=>(K.ord j i h d).2.2.2 e.symm
 have w:((List.range (AM a).length).map (F0 a b)).Nodup:=by
  rw[GC,GE];refine(List.nodup_iff_pairwise_ne.mp (J8 (n:=(AM a).length))).imp_of_mem λ {i j} d g t e=> ?_;have d:=List.mem_range.mp d;have g:=List.mem_range.mp g;have y:=K.b16 d;have A:=K.b16 g;unfold F0 at e;exact v i d j g t (Sr b r _ y▸Sr b r _ A▸Am (λz=>(z+b)%16) e)
 have B:(hits (Cw b) (chOf a) 16).Nodup:=List.Nodup.sublist List.filter_sublist J8;have C: ∀x,x∈hits (Cw b) (chOf a) 16↔x∈(List.range (AM a).length).map (F0 a b):=λx=>by
  unfold hits;rw[List.mem_filter,List.mem_range,Acw,decide_eq_true_eq,List.mem_map];constructor
  ·rintro⟨D,E⟩
   have:=(K.hit ((x+b)%16) (GI _ (by decide))).mp E;obtain⟨k,c,e⟩:=F7 this;have u:k<(AM a).length:=by rw[←K.bl];exact c
   refine⟨k,List.mem_range.mpr u,?_⟩;have F:(Dy a).getD k 0=(x+b)%16:=by rw[←e];simp[List.getD,c]
   unfold F0;rw[F];exact Ss b r x D
  ·rintro⟨k,c,rfl⟩
   have c:=List.mem_range.mp c;refine⟨GI _ (by decide),?_⟩;have l:k<(Dy a).length:=by rw[K.bl];exact c
   have e:(Dy a).getD k 0=(Dy a)[k]:=by simp[List.getD,l]
   rw[K.rot r c];exact(K.hit _ (K.b16 c)).mpr (by rw[e];exact C0 l)
 obtain⟨m,s,o,e⟩:=Acx B w C;exact⟨m,s,o,e⟩
theorem Ee.oat{i:Nat}(b:i<(AM a).length): ∃h:i<(CG a).length,(CG a)[i]<(AM a).length∧CT a i=(AM a).getD (CG a)[i] []:=by
 have l:i<(CG a).length:=by rw[K.ol];exact b
 refine⟨l,List.mem_range.mp (K.perm.mem_iff.mp (C0 l)),?_⟩;unfold CT;rw[show(CG a).getD i 0=(CG a)[i] by simp[List.getD,l]]
theorem Ee.dnt{X:List TE}(g: ∀j,j<(AM a).length→(X.getD j tz).c=8-((AM a).getD j []).length∧(X.getD j tz).s=BX (Dg a ((AM a).getD j []))): ∃f,Nc ((CG a).map λj=>X.getD j tz) f:=by
 refine Acy ?_;rw[F6];intro i j l m h;have k:i<(AM a).length:=by rw[←K.ol];simpa using l
 have b:j<(AM a).length:=by rw[←K.ol];simpa using m
 obtain⟨li,n,o⟩:=K.oat k;obtain⟨u,r,t⟩:=K.oat b;rw[J9,J9];have d:=g _ n;have e:=g _ r;rw[←o]at d;rw[←t]at e;unfold I6;rw[d.1,d.2,e.1,e.2];have:=K.ord i j h b;exact⟨this.1,this.2.1,this.2.2.1⟩
end
end
section
theorem XC{kt:KT}{s:Ab}{L:Ae}(S:An kt s L){i j:Nat}(h:i<j){p q:Addr×Obj}(c:L[i]? =some p)(d:L[j]? =some q):p.1≠q.1:=by
 have b:=S.nd;rw[GC,GE]at b;obtain⟨e,g⟩:=List.getElem?_eq_some_iff.mp c;obtain⟨k,m⟩:=List.getElem?_eq_some_iff.mp d;have:=List.pairwise_iff_getElem.mp b i j e k h;rwa[g,m]at this
theorem Acz:lw 10= .For ((sT (lw 10))) (Ev (lw 10)) (AN (lw 10)) (Dt (lw 10)) (sP (lw 10)):=by kernel_rfl
theorem Ac0:Dt (lw 10)=[]:=by kernel_rfl
theorem Ac1(b:Env):exec (lw 10) b=(standAt (sP (lw 10))>>=λ_=>((eval (Ev (lw 10)) b>>=λv=>foldedSetIterable (Ev (lw 10)) b v>>=λx=>standAt (Ev (lw 10)).pos>>=λ_=>holding [x] (pyIter x))>>=λv=>runOwn (.forLoop ((sT (lw 10))) v (AN (lw 10)) (Dt (lw 10)) b) b)):=by
 rw[show exec (lw 10) b=exec (.For (sT (lw 10)) (Ev (lw 10)) (AN (lw 10)) (Dt (lw 10)) (sP (lw 10))) b from Am (λc=>exec c b) Acz,arm_exec_For];simp only[bind_assoc]
theorem Ac2:sT (lw 10)= .Tuple (Br ((sT (lw 10)))) (tK ((sT (lw 10)))) (gP ((sT (lw 10)))):=by kernel_rfl
theorem Ac3{w:Aa}{B:Al}{s:Ab}{t:Expr}{d:List Expr}{k:Nat}{p:Pos}{b c i v:Nat}(e:t= .Tuple d k p)(h:s.heap.get? b=some (liO c i)){Q:Unit→Ab→Prop}{E:Value→Ab→Prop}(g:Q () s):wpAny (model pw w) B (letOwnedTupleGo t (.ref b) (.ref v)) Q E s:=by
 rw[e];unfold letOwnedTupleGo;dsimp only;refine Af (Jr h ?_);dsimp only;rw[show((⟨[Value.ref c,.int i 0]⟩:Array Value)[0]? ==some (rawInt v))=false from rfl,Bool.and_false,AH (by decide)];exact Aq g
section
variable {w:Aa}{B:Al}{f cs cg gt gn:Nat}{l:LV}{s:Ab}{M:Ae}{sl:Array (Option Value)}{Z:Nat→Nat}{v0 v1:Value}{fj ma ua tu1 nm nu fk:Nat}{xs ys us vs:List Value}{a F:List Int}
theorem XD(uB:B.units≤2000)(g:AX ys F)(z:AX us (F.filter λk=> !decide (k∈a)))(C:AX vs (F.filter λk=>decide (k∈a))){n o r t:Addr×Obj}{c d e u v:Nat}
  (S:An (kt w) s ([n,o,r,t,(c,li (ys.filter (pk 0 a)) u),(d,li (ys.filter (pk 1 a)) v),(e,CY c d)]++([(ma,li us nm),(ua,li vs nu),(tu1,CY ma ua)]++M))):RcNeAt B s (.ref tu1) (.ref e) false:=by
 have b: ∀(i:Nat) {p:Addr×Obj},([n,o,r,t,(c,li (ys.filter (pk 0 a)) u),(d,li (ys.filter (pk 1 a)) v),(e,CY c d)]++([(ma,li us nm),(ua,li vs nu),(tu1,CY ma ua)]++M))[i]? =some p→s.heap.get? p.1=some p.2:=λi p h=>S.mem p (List.mem_of_getElem? h);have D:=XC S (i:=4) (j:=7) (by decide) rfl rfl;have E:=XC S (i:=5) (j:=8) (by decide) rfl rfl;have y:B.in1.units<cLine:=CM (Cz uB 1) (by decide);have G:=EqAt.of_refs D.symm (Sm (A:=B.in1) (b 7 rfl) (b 4 rfl) y (Xu z (Xs (m:=0) (a:=a) g)));have H:=EqAt.of_refs E.symm (Sm (A:=B.in1) (b 8 rfl) (b 5 rfl) y (Xu C (Xs (m:=1) (a:=a) g)));refine Abv (b 9 rfl) (b 6 rfl) (CM uB (by decide)) ⟨rfl,λj I J=> ?_⟩
 match j,I with
 |0,_=>exact G
 |1,_=>exact H
theorem Ac4(t:B.handled=none)(u:B.depth≤440)(uB:B.units≤2000)(r:AX xs a)(o:AX ys F)(K:F.length≤900)(v:AX us (F.filter λk=> !decide (k∈a)))(y:AX vs (F.filter λk=>decide (k∈a)))
  (S:An (kt w) s ([(f,Cy w.2 sl l Z v0 v1 (.ref fj) (.ref tu1) 2),(cg,Aw gt),(gt,li xs gn),(fj,li ys fk)]++([(ma,li us nm),(ua,li vs nu),(tu1,CY ma ua)]++M))) {Q:Flow→Ab→Prop} {E:Value→Ab→Prop}
  (z: ∀A,Ag (kt w) s A ([(f,Cy w.2 sl l Z v0 v1 (.ref fj) (.ref tu1) 2),(cg,Aw gt),(gt,li xs gn),(fj,li ys fk)]++([(ma,li us nm),(ua,li vs nu),(tu1,CY ma ua)]++M)) ([(f,Cy w.2 sl l Z v0 v1 (.ref fj) (.ref tu1) 2),(cg,Aw gt),(gt,li xs gn),(fj,li ys fk)]++M)→Q .next A):
  wpAny (model pw w) B (exec Gx (Bv f cs cg)) Q E s:=by
 refine Xq Ab4 (by rfl) (Hi (Aaz w f cs cg l sl Z v0 v1 (.ref fj) (.ref tu1)) (Ai (Ai (Ai te1689745043323611982 f) cs) cg) t u uB AR Ar _ (.refl _) S λC D G s1 n=> ?_);have H: ∀{a b c d e f g h i j:Addr×Obj},([a,b,c,d]++M).Sublist ([a,b,c,d,e,f,g]++([h,i,j]++M)):=λ {a b c d e f g h i j}=>(Nz [e,f,g,h,i,j] M).append_left [a,b,c,d];cases ys with
 |nil=>exact Hi (Aa0 w f cs cg l sl Z v0 v1 (.ref tu1) gt gn fj fk xs a) (Ai (Ai (Ai te9533652250162126650 f) cs) cg) t u uB (AD _ _ (Ah (λ_ _ _=>W6 (by decide) r) (Ah (λ_ _ _=>W6 (by decide) r) AC))) Ar _ (.refl _) n.sat λC D G s2 m=>⟨XD uB o v y m.sat,z s2 ((n.trans m).subs H)⟩
 |cons I ys=>
  have J:(I::ys).length≤900:=(G0 o).symm▸K;exact Hi (Aa1 w f cs cg l sl Z v0 v1 (.ref tu1) gt gn fj fk xs a (I::ys)) (Ai (Ai (Ai te9533652250162126650 f) cs) cg) t u uB (AD _ _ (Ah (λ_ _ _=>W7 (by decide) r o J (Jk _)) (Ah (λ_ _ _=>W7 (by decide) r o J (Jk _)) AC))) Ar _ (.refl _) n.sat λC D G s2 m=>⟨XD uB o v y m.sat,z s2 ((n.trans m).subs H)⟩
end
end
section
section
variable {w:Aa}{B:Al}{f cs cg gt gn:Nat}{l:LV}{s:Ab}{M:Ae}
noncomputable def Pv(M:Ae)(a:List Int)(e:TE):Prop:=(e.T,CF e)∈M∧Ke λch F b c=>e.s=sf ch∧(e.fj,li b c)∈M∧AX b F∧Pu a (Eb ch 8) F
theorem Ac5{a b:List Value}{n k:Nat}:li b k≠tu a n:=λe=>by
 have:=Am Obj.cls e;rw[BW,JI]at this;exact absurd (show "list"="tuple" from Value.type.inj this) (by decide)
theorem Ac6(k:B.handled=none)(m:B.depth≤440)(uB:B.units≤2000)(u:B.frames=some [Bv f cs cg]){v:Array BK}{e:TE}{Z:Nat→Nat}{y z A v3:Value}{b:Bool}{d:List Value}{a:List Int}(h:AX d a)(U:Pv M a e)
  (S:An (kt w) s ([(f,Cy w.2 v l Z y z A v3 (cond b 2 0)),(cg,Aw gt),(gt,li d gn)]++M)) {Q:Flow→Ab→Prop} {E:Value→Ab→Prop}
  (V: ∀D g G H I J K,Ag (kt w) s D ([(f,Cy w.2 v l Z y z A v3 (cond b 2 0)),(cg,Aw gt),(gt,li d gn)]++M) ([(f,Cy w.2 g l G H I J K 2),(cg,Aw gt),(gt,li d gn)]++M)→Q .next D):
  wpAny (model pw w) B (assign ((sT (lw 10))) (Bv f cs cg) (.ref e.T)>>=λ_=>execs (AN (lw 10)) (Bv f cs cg)) Q E s:=by
 obtain⟨W,ch,F,L,N,X,Y,hy,C⟩:=U;obtain⟨n,r⟩:=Ab8 W Y (λe=>Ac5 (Prod.mk.inj e).2);have t: ∀o:Addr×Obj,([o,(cg,Aw gt),(gt,li d gn)]++M).Perm ([o,(e.T,CF e)]++((cg,Aw gt)::(gt,li d gn)::(e.fj,li L N)::n)):=λo=>(r.append_left [_,_,_]).trans ((EF (l₁:=[_,_])).cons o);refine Af (Ab9 k m uB (S.perm (t _)) λs1 G c=> ?_);replace c:=(c.permL (t _).symm).permR ((t _).symm.trans (r.append_left [_,_,_]));rw[X]at c;rw[Ab1];refine CS (Aca k m uB u h C c.sat λs2 g O i P R nm nu us vs i1 i2 j=> ?_);replace c:=(c.trans j).permR (L'':=[(f,Cy w.2 g l O (.int e.c e.ct) (.str (sf ch) e.st) (.ref e.fj) (.ref i) 2),(cg,Aw gt),(gt,li d gn),(e.fj,li L N)]++([(P,li us nm),(R,li vs nu),(i,CY P R)]++((e.T,CF e)::n))) (AO [n] [_,_,_,_,_,_,_,_] [1,3,5,7,9,0,1,2,11,13,15] [1,3,5,9,11,13,15,7,2]);clear j;refine CS (Ac4 k m uB h hy C.lF i1 i2 c.sat λs3 T=>Aq ?_);exact V s3 g O _ _ _ _ ((c.trans T).permR (((List.Perm.swap _ _ _).append_left [_,_,_]).trans (r.symm.append_left [_,_,_])))
noncomputable abbrev XE(f cs cg a:Nat):Code:=.forLoop ((sT (lw 10))) (.ref a) (AN (lw 10)) (Dt (lw 10)) (Bv f cs cg)
inductive lwP (w:Aa) (f cg gt gn:Nat) (l:LV) (M:Ae) (D:List TE) (it du dn:Nat) (xs:List Value) (r:Result) (L':Ae) (ts:List Nat):Prop
 |mk (hr:r= .ok .next) (sl':Array (Option Value)) (x:List DictEntry) (n:Nat) (oi:Obj) (hL:L'=[(it,oi),(du,li (AL D) dn)]++([(f,Cf w.2 sl' l x n),(cg,ce (some (.ref gt))),(gt,li xs gn)]++M))
theorem Ac7(t:B.handled=none)(N:B.depth≤440)(uB:B.units≤2000)(A:B.frames=some [Bv f cs cg]){D:List TE}{d m C:Nat}{u:List Value}{a:List Int}(F:AX u a)(O: ∀e∈D,Pv M a e):
  ∀(k i:Nat),i+k=D.length→ ∀(n:Array BK) (Z:Nat→Nat) (g h j v3:Value) (b:Bool),
  RunsW w B (XE f cs cg d) ([(d,liO m i),(m,li (AL D) C)]++([(f,Cy w.2 n l Z g h j v3 (cond b 2 0)),(cg,Aw gt),(gt,li u gn)]++M))
   (lwP w f cg gt gn l M D d m C u):=by
 have G:B.under (XE f cs cg d)=B:=Lk rfl;have u2:B.units<cLine:=CM uB (by decide);intro k
 induction k with
 |zero=>
  intro i P n Z g h j v3 b s S;refine Ho ?_;rw[G];refine Fp (?_ :wpAny _ B (forTurn ((sT (lw 10))) (.ref d) (AN (lw 10)) (Dt (lw 10)) (Bv f cs cg)) _ _ s);unfold forTurn;refine Af (Ds (Af (Fp (O8 t (by (first|lia|omega)) (by (first|lia|omega)) (by simp[AL];(first|lia|omega)) (.refl _) S λs1 c=> ?_))));refine Aq ⟨rfl,?_⟩;rw[Ac0];exact codeAny_block (Aq ⟨_,[],⟨rfl,n,_,_,_,rfl⟩,c,c.toks⟩)
 |succ k R=>
  intro i P n Z g h j v3 b s S;have H:i<D.length:=by (first|lia|omega)
  refine Ho ?_;rw[G];refine Fp (?_ :wpAny _ B (forTurn ((sT (lw 10))) (.ref d) (AN (lw 10)) (Dt (lw 10)) (Bv f cs cg)) _ _ s);unfold forTurn;refine Af (Ds (Af (Fp (MK t (by (first|lia|omega)) (by (first|lia|omega)) (v:=.ref D[i].T) (by simp[AL,H]) (.refl _) S λs1 c=> ?_))));refine Af (Ac3 Ac2 (c.sat.mem (d,liO m (i+1)) (.head _)) ?_);have I: ∀{a b:Addr×Obj} {L:Ae},([a,b]++L).Perm (L++[a,b]):=ED;replace c:=c.permR I;have y: ∀{Q:AA→Ab→Prop} {E:Value→Ab→Prop} (k:Flow→Sem AA),wpAny (model pw w) B ((assign ((sT (lw 10))) (Bv f cs cg) (.ref D[i].T)>>=λ_=>execs (AN (lw 10)) (Bv f cs cg))>>=k) Q E s1→wpAny (model pw w) B (assign ((sT (lw 10))) (Bv f cs cg) (.ref D[i].T)>>=λ_=>execs (AN (lw 10)) (Bv f cs cg)>>=k) Q E s1:=λ {Q E} k z=>by rwa[bind_assoc]at z
  refine y _ (Af (Ac6 t N uB A F (O _ (C0 H)) c.sat.left λs2 J Z g h j v3 K=> ?_));replace c:=(c.trans (Ag.part _ c.sat (AW _) K)).permR I.symm;refine Aq ⟨rfl,B4 (R (i+1) (by (first|lia|omega)) J Z g h j v3 true s2 c.sat) λr s3 hz=> ?_⟩;obtain⟨U,ts,⟨V,W,X,Y,a5,a6⟩,o,ri⟩:=hz;exact⟨U,[],⟨V,W,X,Y,a5,a6⟩,c.trans o,(c.trans o).toks⟩
theorem Ac8(j:B.handled=none)(k:B.depth≤440)(uB:B.units≤2000)(m:B.frames=some [Bv f cs cg]){c:Array BK}{D:List TE}{d:Nat}{g:List Value}{a:List Int}(o:AX g a)(v: ∀e∈D,Pv M a e)
  (S:An (kt w) s ([(f,Cf w.2 c l [] 8),(l.du,li (AL D) d),(cg,Aw gt),(gt,li g gn)]++M)) {Q:Flow→Ab→Prop} {E:Value→Ab→Prop}
  (y: ∀t h x n,Ag (kt w) s t ([(f,Cf w.2 c l [] 8),(l.du,li (AL D) d),(cg,Aw gt),(gt,li g gn)]++M) ([(f,Cf w.2 h l x n),(l.du,li (AL D) d),(cg,Aw gt),(gt,li g gn)]++M)→Q .next t):
  wpAny (model pw w) B (exec (lw 10) (Bv f cs cg)) Q E s:=by
 rw[Ac1];refine Af (Ds (Af (Hi (Aar w f cs cg l c (AL D) d) (Ai (Ai (Ai te1007703403832356925 f) cs) cg) j k uB AR Ar _ (.refl _) S λz I J s1 b=> ?_)));generalize z 0=u at b⊢;replace b:=b.permR (L'':=[(u,liO l.du 0),(l.du,li (AL D) d)]++([(f,Cf w.2 c l [] 8),(cg,Aw gt),(gt,li g gn)]++M)) (AO [M] [_,_,_,_,_] [5,3,1,7,9,2] [1,3,5,7,9,2]);refine wpAny_runOwn (B4 (Ac7 (B:=B.mark none) j k uB m o v D.length 0 (Ga _) c (λ_=>0) .none .none .none .none false s1 b.sat) λr s2 hz=> ?_);obtain⟨K,L,⟨A,h,C,F,G,H⟩,i,N⟩:=hz;rw[H]at i;rw[A];exact y s2 h C F (((b.trans i).permR (AO [M] [_,_,_,_,_] [9,3,1,5,7,2] [0,5,1,3,5,7,2,9])).subs (EW _ [(u,G)]))
end
end
section
theorem Ac9{w:Aa}{k:Nat}: ∀(cs:List (Nat×List Nat)) (a:List (List Nat→List Nat→List Obj→Ak)),(∀e∈a,∀d b g i,AY k i b→Av w (e d b g))→ ∀q∈AE cs a,∀d b g i,AY k i b→Av w (q.2 d b g):=by
 intro cs
 induction cs with
 |nil=>intro a _ q j;cases a <;> cases j
 |cons c cs m=>
  intro a h q j d b g i l;cases a with
  |nil=>cases j
  |cons e a=>
   rcases List.mem_cons.mp j with rfl|j
   ·exact h e Bj d b g i l
   ·exact m a (λf n=>h f (BB _ n)) q j d b g i l
theorem Il{w:Aa}{g:Nat}{e:List Nat→List Nat→List Obj→Ak}{j:List (List Nat→List Nat→List Obj→Ak)}(h: ∀b a c d,AY g d a→Av w (e b a c))(t: ∀e∈j,∀b a c d,AY g d a→Av w (e b a c)): ∀f∈e::j,∀b a c d,AY g d a→Av w (f b a c):=λf i=>by
 rcases List.mem_cons.mp i with rfl|i
 ·exact h
 ·exact t f i
theorem Ada{w:Aa}{b:Nat}: ∀f∈([]:List (List Nat→List Nat→List Obj→Ak)),∀c a d e,AY b e a→Av w (f c a d):=λ_ h=>(nomatch h)
theorem Adb{w:Aa}{A:Al}{L:Ae}{H:List Nat}{E:List (Nat×(List Nat→List Nat→List Obj→Ak))}{W:List Wd}{d u n N:Nat}{D:List Nat}{en:Au→Au→AU→Du}{G:Au→Au→AU→Ae}{o:Sem AA}{T:Type}{t:Sem T}
  (k:AF w n o L H E W d u D en G N) (g:T→Flow) (K:(t>>=λx=>pure (.done (g x)))=o) (M:A.handled=none) (O:A.depth≤d) (P:A.units≤u) {s:Ab} (X: ∀q∈E,∀j a l r,AY s.toks r a→Av w (q.2 j a l)) (Y: ∀q∈W,∀j a l,(q.2 j a l).1=(q.2 j a l).2)
  {v:Ae} (F:Ae) (I:(L++F).Perm v) (S:An (kt w) s v) {Q:T→Ab→Prop} {y:Value→Ab→Prop}
  (fi: ∀b c i m,Ag (kt w) s m v (G b c i++F)→Jc g Q y (en b c i) m) (C:BR D=true:=by rfl):wpAny (model pw w) A t Q y s:=by
 have z:=Oa (R:=RQ g Q y) GJ (GL pw w w) (FJ pw w) (hS w) (H:=H) (E:=E) (W:=W) g K n M O P (λq U j a l r J=>(X q U j a l r J).frm) Y (S.part F I) λb c i=> ?_
 ·exact CA z (λx m h=>h x rfl) λe m h=>h
 ·have h:=Ge k b c i
  have V:=Am Prod.fst h;have Z:=Am (λx=>x.2.1) h;have h3:=Am (λx=>x.2.2.1) h;refine⟨V,λm st J _=> ?_⟩;have e1:(Hv w n b c i o L H E W d u).e=en b c i:=Z;rw[e1];exact Sh (fi b c i m (Ag.part F S I (st.pick h3 C)))
theorem XF(ns:List Int):Lt (chOf ns):=λi _=>by
 unfold chOf ch;cases decide ((i:Int)∈ns)
 ·exact .inr rfl
 ·exact .inl rfl
theorem Adc: ∀c,c<16→ ∀d,d<16→c≠d→BX (EB.getD c [])≠BX (EB.getD d []):=by decide+kernel
theorem Su{a:List Nat}{x:Nat}(b:x<16):((a.drop 12).take 16).getD x 0=a.getD (12+x) 0:=by
 simp only[List.getD,List.getElem?_take_of_lt b,List.getElem?_drop]
theorem XG{i j a:Nat}(b:a<16)(c:i<16)(d:j<16)(g:i≠j):(i+a)%16≠(j+a)%16:=λe=>g (Ss a b i c▸Ss a b j d▸Am (λz=>(z+16-a)%16) e)
theorem Ade(x:Int): ∃a:Nat,x.fmod 16=(a:Int)∧a<16:=by
 have c:=Int.fmod_nonneg_of_pos x (b:=16) (by decide);have d:=Int.fmod_lt_of_pos x (b:=16) (by decide);exact⟨(x.fmod 16).toNat,by (first|lia|omega),by (first|lia|omega)⟩
theorem Adf{b l a:Nat}{d:List Nat}(e:AY l a d)(c:31≤d.length)(r:810≤l)(m:b<16):IY (Cw b) (De b ((d.drop 12).take 16)) 16:=by
 have n: ∀x,12+x%16<30:=λx=>DV (Nat.add_lt_add_left (GI x (by decide)) 12) (by decide);have o:=λx=>Dz (n x) c;refine⟨by decide,λi _=>XF _,λi j a g k=>Adc _ (GI _ (by decide)) _ (GI _ (by decide)) (XG m a g k),λi a=> ?_,λi j a g k=> ?_⟩
 ·unfold De
  rw[Su (GI _ (by decide))];exact Ay r (I3 e (n (i+b)) c).1
 ·unfold De
  rw[Su (GI _ (by decide)),Su (GI _ (by decide))];rcases Nat.lt_or_gt_of_ne (XG m a g k)with h|h
  ·exact CN (I3 e (Nat.add_lt_add_left h 12) (o _)).2
  ·exact EY (I3 e (Nat.add_lt_add_left h 12) (o _)).2
theorem Sv{T:List Nat}:(Cm T).length=16:=rfl
theorem XH{a:Nat}(b:a<16)(T:List Nat):(Cm T).drop a++(Cm T).take a=B9 (Cw a) (De a T) 16:=by
 revert a;exact@(GN 16 (by kernel_rfl))
theorem Adg{w:Aa}{d:Bool}{c n e t a:Nat}{A:Nat→Nat→Nat}{g b i:Nat→Nat}{h:Nat}(H:d=true→Av w (RO c n e t a A g b i h)):Av w (R0 d c n e t a A g b i h):=by
 cases d with
 |false=>
  intro l m o k s S _;have j:=S.nd;have:((R0 false c n e t a A g b i h).pre.map (·.1))=0::0::c::[248]:=rfl;rw[this]at j;exact absurd Bj (List.nodup_cons.mp j).1
 |true=>exact H rfl
section
variable {w:Aa}{B:Al}{f cs cg sc sn:Nat}{s:Ab}{xs:List Value}{ns:List Int}{p:Nat→Bool}
noncomputable def DS(a:List Int)(b c:Nat)(d:Nat→Nat):List Value:=((List.range (AM a).length).map λk=>.str (sf (Cw b (F0 a b k))) (d k)).take c
theorem Adh(I:B.handled=none)(J:B.depth≤440)(uB:B.units≤2000)(j:AX xs ns)(X:ns.length≤63)(l:810≤s.toks){Y:Nat→List Value}{Z:Nat→Int}(H:RT xs Y Z p)
  (S:An (kt w) s [(f,fr [] 0),(cs,Aw sc),(cg,ce none),(sc,li xs sn),(248,AP [])]) {Q:Flow→Ab→Prop} {E:Value→Ab→Prop}
  (L: ∀m y b M a N n o r t u T O P v,a<16→1≤b→AX u (Bz p 8)→Ag (kt w) s m [(f,fr [] 0),(cs,Aw sc),(cg,ce none),(sc,li xs sn),(248,AP [])] [(f,EC w.2 y b M a N n o r [] 5),(cs,Aw sc),(cg,Aw t),(sc,li xs sn),(248,AP O),(t,li u (Bz p 8).length),(n,li (Cm T) 16),(o,li (B9 (Cw a) (De a T) 16) 0),(r,li (DS (Bz p 8) a b P) v)]→Q .next m):
  wpAny (model pw w) B (execs [lw 0,lw 1,lw 2,lw 3,lw 4,lw 5] (Bv f cs cg)) Q E s:=by
 have K:=XA p;have xl:xs.length=ns.length:=G0 j;obtain⟨a,z,d⟩:=Ade ns.sum;obtain⟨W,ip,R⟩:=K.ranked d;have U:xs.length%9<9:=GI _ (by decide);obtain⟨b,A⟩: ∃b,b=9-xs.length%9:=⟨_,rfl⟩
 have C:1≤b:=A▸Nat.sub_pos_of_lt U;have g: ∀T,(Cm T).length≤1000:=λT=>by rw[Sv];decide
 refine Adb (sD w f cs cg sc sn xs.length b a ns.sum xs p (F0 (Bz p 8) a) (AM (Bz p 8)).length) id (Ai (Ai (Ai te14873425280484609581 f) cs) cg) I J uB
  (Ac9 _ _ (Il (λ_ _ _ _ _=>pQ H) (Il (λ_ _ _ _ _=>DG rfl (by (first|lia|omega))) (Il (λ_ _ _ _ _=>WL j rfl) (Il (λ_ _ _ _ _=>pK) (Il (λ_ _ _ _ _=>H3 (.int _ _) .none .none (by (first|((repeat(first|exact .head _|apply List.mem_cons_of_mem));done)|simp)) (g _) (by rw[slicePick_from'])) (Il (λ_ _ _ _ _=>H3 .none (.int _ _) .none (by (first|((repeat(first|exact .head _|apply List.mem_cons_of_mem));done)|simp)) (g _) (by rw[slicePick_upto'])) (Il (λ_ _ _ _ _=>WV (by simp[Sv];(first|lia|omega)) (XH d _)) (Il (λ_ _ _ _ _=>ON (JM _ _)) (Il (λas ts gh hi D=>Adg λF=>oS K.h3 (Adf D (Ef F) l d) (XF _) ?_ R (K.best d) C) Ada))))))))))
  (Bi _ _ (Az (λ_ _ _=> ?_) (Az (λ_ _ _=> ?_) (Az (λ_ _ _=> ?_) Bp)))) [] (by rw[BV] <;> exact .refl _) S λe c ω s1 h V G=> ?_
 ·exact Ay l (RH D (k:=30) (Ef F))
 ·rw[Ny _ (by decide)];rfl
 ·rw[show((9:Int)-(xs.length%9:Nat))=(b:Int) by (first|lia|omega)]
 ·rw[z]
 ·obtain rfl:V= .next:=G
  rw[BV]at h;exact L s1 (λi=>[c 8,c 11,c 28,c 29,c 31].getD i 0) b (c 7) a (c 10) (e 4) (e 9) (e 10) (e 2) _ (Lb c) _ (λk=>De a (Lb c) (F0 (Bz p 8) a k)) _ d C (JM _ _) h
end
end
section
theorem Adi(b:Bool)(v:Nat): ∀F∈I5 b v,F.length≤8:=by
 intro F c;unfold I5 at c
 split at c
 ·rcases List.mem_cons.mp c with rfl|c
  ·exact(by decide:1≤8)
  ·obtain⟨i,_,c⟩:=List.mem_flatMap.mp c
   obtain⟨j,_,rfl⟩:=List.mem_map.mp c;exact(by decide:3≤8)
 ·split at c
  ·rcases List.mem_cons.mp c with rfl|c
   ·exact B7 _
   ·cases c
  ·obtain⟨k,_,rfl⟩:=List.mem_map.mp c
   exact(by decide:2≤8)
theorem Sw(a:List Int)(j:Nat):((AM a).getD j []).length≤8:=by
 by_cases h:j<(AM a).length
 ·rw[show(AM a).getD j []=(AM a)[j] by simp[List.getD,h]]
  exact Adi _ _ _ (C0 h)
 ·rw[show(AM a).getD j []=[] by simp[List.getD,FG h]]
  exact B7 _
theorem Pw{h:Nat}{T b:Nat→Nat}{F:Nat→List Int}{a:List Int}{o:List Obj}:(Cx h T b F a o).length=h:=by simp[Cx]
theorem Adj{h:Nat}{T b:Nat→Nat}{F:Nat→List Int}{a:List Int}{o:List Obj}{j:Nat}(c:j<h):(Cx h T b F a o).getD j tz=⟨T j,8-(F j).length,Ao o (2+2*j),BX (DM a (F j) 8),Ao o (3+2*j),b j⟩:=by simp[Cx,List.getD,c]
theorem Sy{X:List TE}{b:List Nat}{n:Nat}:(b.map λj=>Value.ref (X.getD j tz).T).take n=AL ((b.map λj=>X.getD j tz).take n):=by
 unfold AL;rw[List.map_take,BZ];rfl
structure Nv(a:List Int)(X:List TE)(fa:Nat→Nat):Prop where
 len:X.length=(AM a).length
 at': ∀j,j<(AM a).length→(X.getD j tz).c=8-((AM a).getD j []).length∧(X.getD j tz).s=BX (Dg a ((AM a).getD j []))∧(X.getD j tz).fj=fa j
section
variable {w:Aa}{B:Al}{f cs cg sc gt gn:Nat}{s:Ab}{a:List Int}{gv:List Value}{R:Ae}{nw t0 tn t1 pl cd td:Nat}{y:Nat→Nat}
theorem Adk(e:B.handled=none)(g:B.depth≤440)(uB:B.units≤2000)(K:Ee a)(h:AX gv a)
  (S:An (kt w) s ([(f,EC w.2 y nw t0 tn t1 pl cd td [] 5),(cs,Aw sc),(cg,Aw gt),(gt,li gv gn),(329,AP [])]++R)) {Q:Flow→Ab→Prop} {E:Value→Ab→Prop}
  (i: ∀c j l m,Ag (kt w) s c ([(f,EC w.2 y nw t0 tn t1 pl cd td [] 5),(cs,Aw sc),(cg,Aw gt),(gt,li gv gn),(329,AP [])]++R) ([(f,EC w.2 y nw t0 tn t1 pl cd td [Ad w Fs j (.int (Dq a) l)] 6),(cs,Aw sc),(cg,Aw gt),(gt,li gv gn),(329,AP m)]++R)→Q .next c):
  wpAny (model pw w) B (exec (lw 6) (Bv f cs cg)) Q E s:=by
 have ek:(a.map Int.toNat).map Int.ofNat=a:=by
  rw[BZ];conv=>rhs;rw[←List.map_id a]
  exact DU λk b=>Int.toNat_of_nonneg (K.a8 k b).1
 have n: ∀k∈a.map Int.toNat,k<8:=λk b=>by
  obtain⟨z,hz,rfl⟩:=List.mem_map.mp b;have:=K.a8 z hz;(first|lia|omega)
 refine Cn (sR w f cs cg sc gt gn nw t0 tn t1 pl cd td (Dq a) y gv) id (Ai (Ai (Ai te9550894505775361806 f) cs) cg) e g uB (AD _ _ (Ah (λ_ _ _=>sQ (ks:=a.map Int.toNat) (by rw[ek];exact h) n) AC)) Ar R (.refl _) S λo r t s1 d=>Fi ?_;exact i s1 _ _ _ d
theorem Adl(I:B.handled=none)(J:B.depth≤440)(uB:B.units≤2000)(K:Ee a)(F:AX gv a)(L:a.length≤8){u m:Nat}
  (S:An (kt w) s ([(f,EC w.2 y nw t0 tn t1 pl cd td [Ad w Fs u (.int (Dq a) m)] 6),(cs,Aw sc),(cg,Aw gt),(gt,li gv gn)]++R)) {Q:Flow→Ab→Prop} {E:Value→Ab→Prop}
  (M: ∀U Z y7 tr V X l (g:Nat→Nat→Nat),Nv a X l→Ag (kt w) s U ([(f,EC w.2 y nw t0 tn t1 pl cd td [Ad w Fs u (.int (Dq a) m)] 6),(cs,Aw sc),(cg,Aw gt),(gt,li gv gn)]++R) (([(f,EC w.2 y nw t0 tn t1 pl cd td [Ad w Fs u (.int (Dq a) m),Ad w LY Z (.ref tr),Ad w LW y7 (.ref V)] 8),(cs,Aw sc),(cg,Aw gt),(gt,li gv gn),(V,li (AL (((CG a).map λj=>X.getD j tz).take nw)) 0)]++((List.range (AM a).length).map λj=>(l j,li (BD ((AM a).getD j []) (g j)) 0))++TL X)++R)→Q .next U):
  wpAny (model pw w) B (execs [lw 7,lw 8] (Bv f cs cg)) Q E s:=by
 have N:gv.length=a.length:=G0 F;have v: ∀{h:Nat} {T l:Nat→Nat} {o:List Obj},(AM a).length=h→(∀W n,Av w (Nf W n (Cx h T l (λj=>(AM a).getD j []) a o) (CG a)))∧Nv a (Cx h T l (λj=>(AM a).getD j []) a o) l:=λ {h T l o} d=>by
  have z: ∀j,j<(AM a).length→((Cx h T l (λj=>(AM a).getD j []) a o).getD j tz).c=8-((AM a).getD j []).length∧((Cx h T l (λj=>(AM a).getD j []) a o).getD j tz).s=BX (Dg a ((AM a).getD j []))∧((Cx h T l (λj=>(AM a).getD j []) a o).getD j tz).fj=l j:=λj O=>by
   rw[Adj (by (first|lia|omega))];exact⟨rfl,rfl,rfl⟩
  obtain⟨φ,D⟩:=K.dnt (X:=Cx h T l (λj=>(AM a).getD j []) a o) λj O=>⟨(z j O).1,(z j O).2.1⟩
  have h3:=K.h3;exact⟨λW n=>sE (by rw[Pw,←d];exact K.perm) D (by rw[Pw];(first|lia|omega)) (by rw[Pw];(first|lia|omega)),by rw[Pw,d],z⟩
 have t:=K.hF
 by_cases A:Lf a=true
 ·rw[AS A]at t
  have G:AM a=I5 true (Dq a):=by unfold AM;rw[A]
  have d:=t;have C:Av w (Ib gt gn (Dq a) m gv 8 (AM a)):=by rw[G];exact rO N L (of_decide_eq_true A) K.v8
  refine Cn (sV w f cs cg sc gt gn nw t0 tn t1 pl cd td (Dq a) m u y gv a (AM a) (CG a)) id (Ai (Ai (Ai te5837675800663238876 f) cs) cg) I J uB (AD _ _ (Ah (λ_ _ _=>C) (Ah (λ_ _ _=>RY F (by decide) (by decide) λj _=>Sw a j) (Ah (λ_ _ _=>(v d).1 _ _) (Ah (λ_ _ _=>H3 .none (.int _ _) .none (by (first|((repeat(first|exact .head _|apply List.mem_cons_of_mem));done)|simp)) (by rw[BY,K.ol,d];decide) (by rw[slicePick_upto'])) AC))))) Ar R (.refl _) S λe r b s1 k=>Fi ?_;rw[Sy]at k;refine M s1 (r 0) (r 1) (e 10) (e 22) (Cx 8 (λj=>e (12+j)) (λj=>e (1+j)) (λj=>(AM a).getD j []) a (R7 b)) (λj=>e (1+j)) (λj i=>Ao (W1 b) (1+3*j+i)) (v d).2 ?_;rw[d];exact k
 ·have H:Lf a=false:=by simpa using A
  have Y:a.length%2=0:=by
   have:=of_decide_eq_false H;(first|lia|omega)
  have G:AM a=I5 false (Dq a):=by unfold AM;rw[H]
  rw[AH A]at t
  by_cases P:Dq a=0
  ·rw[AS P]at t
   have d:=t;have C:Av w (Ib gt gn (Dq a) m gv 1 (AM a)):=by rw[G,P];exact rP N L Y
   refine Cn (sS w f cs cg sc gt gn nw t0 tn t1 pl cd td (Dq a) m u y gv a (AM a) (CG a)) id (Ai (Ai (Ai te5837675800663238876 f) cs) cg) I J uB (AD _ _ (Ah (λ_ _ _=>C) (Ah (λ_ _ _=>RY F (by decide) (by decide) λj _=>Sw a j) (Ah (λ_ _ _=>(v d).1 _ _) (Ah (λ_ _ _=>H3 .none (.int _ _) .none (by (first|((repeat(first|exact .head _|apply List.mem_cons_of_mem));done)|simp)) (by rw[BY,K.ol,d];decide) (by rw[slicePick_upto'])) AC))))) Ar R (.refl _) S λe r b s1 k=>Fi ?_;rw[Sy]at k;refine M s1 (r 0) (r 1) (e 3) (e 8) (Cx 1 (λj=>e (5+j)) (λj=>e (1+j)) (λj=>(AM a).getD j []) a [b 4,b 5,b 6,b 7]) (λj=>e (1+j)) (λj i=>Ao [b 0,b 1,b 2,b 3] (1+3*j+i)) (v d).2 ?_;rw[d];exact k
  ·rw[AH P]at t
   have d:=t;have C:Av w (Ib gt gn (Dq a) m gv 4 (AM a)):=by rw[G];exact rQ N L Y (by (first|lia|omega)) K.v8
   refine Cn (sU w f cs cg sc gt gn nw t0 tn t1 pl cd td (Dq a) m u y gv a (AM a) (CG a)) id (Ai (Ai (Ai te5837675800663238876 f) cs) cg) I J uB (AD _ _ (Ah (λ_ _ _=>C) (Ah (λ_ _ _=>RY F (by decide) (by decide) λj _=>Sw a j) (Ah (λ_ _ _=>(v d).1 _ _) (Ah (λ_ _ _=>H3 .none (.int _ _) .none (by (first|((repeat(first|exact .head _|apply List.mem_cons_of_mem));done)|simp)) (by rw[BY,K.ol,d];decide) (by rw[slicePick_upto'])) AC))))) Ar R (.refl _) S λe r b s1 k=>Fi ?_;rw[Sy]at k;refine M s1 (r 0) (r 1) (e 6) (e 14) (Cx 4 (λj=>e (8+j)) (λj=>e (1+j)) (λj=>(AM a).getD j []) a (R6 b)) (λj=>e (1+j)) (λj i=>Ao [b 0,b 1,b 2,b 3,b 4,b 5,b 6,b 7,b 8,b 9,b 10,b 11,b 12] (1+3*j+i)) (v d).2 ?_;rw[d];exact k
end
end
section
theorem Adm:Pi=[lw 0,lw 1,lw 2,lw 3,lw 4,lw 5]++(lw 6::([lw 7,lw 8]++(lw 9::lw 10::[lw 11]))):=by kernel_rfl
section
variable {a:List Int}{X:List TE}{fa:Nat→Nat}{nw:Nat}
noncomputable abbrev Im(a:List Int)(X:List TE)(nw:Nat):List TE:=((CG a).map λj=>X.getD j tz).take nw
theorem Adn(K:Ee a)(T:Nv a X fa):(TL X).Perm (TL (Im a X nw)++TL (((CG a).map λj=>X.getD j tz).drop nw)):=by
 have b:X.Perm ((CG a).map λj=>X.getD j tz):=by
  have:=(K.perm.map λj=>X.getD j tz).symm;rw[←T.len,O2]at this;exact this
 have e:TL (Im a X nw)++TL (((CG a).map λj=>X.getD j tz).drop nw)=TL ((CG a).map λj=>X.getD j tz):=by
  unfold TL;rw[←BC,NF]
 rw[e];exact b.map _
theorem XI(K:Ee a):(Im a X nw).length=min nw (AM a).length:=by
 show(((CG a).map λj=>X.getD j tz).take nw).length=_;rw[NN,BY,K.ol]
theorem Ado(K:Ee a)(T:Nv a X fa){c:Nat}(e:c<16){b:Nat→Nat}(A:Al)(s:Ab):Le A s (DS a c nw b) (DP (Im a X nw)):=by
 have l1:(DS a c nw b).length=min nw (AM a).length:=by unfold DS;rw[NN,BY,F9]
 have g:(DP (Im a X nw)).length=min nw (AM a).length:=by unfold DP;rw[BY,XI K]
 refine⟨l1.trans g.symm,λj h n=> ?_⟩;have d:j<(AM a).length:=DV (l1▸h) (Nat.min_le_right _ _);have i:(DS a c nw b)[j]= .str (BX (Dg a (CT a j))) (b j):=by
  simp only[DS,Lp,J9,List.getElem_range,K.text e d]
 obtain⟨o,k,l⟩:=K.oat d;have m:(DP (Im a X nw))[j]= .str (BX (Dg a (CT a j))) (X.getD (CG a)[j] tz).st:=by
  simp only[DP,J9,Lp,(T.at' _ k).2.1,l]
 rw[i,m];have:=EqAt.str_str (A:=A) (s:=s) (BX (Dg a (CT a j))) (b j) (BX (Dg a (CT a j))) (X.getD (CG a)[j] tz).st;rwa[show(BX (Dg a (CT a j))==BX (Dg a (CT a j)))=true from beq_self_eq_true _]at this
theorem Adp(K:Ee a)(T:Nv a X fa)(h: ∀F∈AM a,Pu a (Eb (chOf (Dg a F)) 8) F){g:Nat→Nat→Nat}{M:Ae}(i: ∀q∈TL (Im a X nw),q∈M)(k: ∀q∈(List.range (AM a).length).map λj=>(fa j,li (BD ((AM a).getD j []) (g j)) 0),q∈M): ∀e∈Im a X nw,Pv M a e:=by
 intro e d;refine⟨i _ (B6 d),?_⟩;obtain⟨j,b,rfl⟩:=List.mem_map.mp (Hl d);have b:j<(AM a).length:=List.mem_range.mp (K.perm.mem_iff.mp b);have c:=T.at' j b;refine⟨chOf (Dg a ((AM a).getD j [])),(AM a).getD j [],BD ((AM a).getD j []) (g j),0,c.2.1,?_,JM _ _,h _ ?_⟩
 ·rw[c.2.2]
  exact k _ (B6 (List.mem_range.mpr b))
 ·rw[show(AM a).getD j []=(AM a)[j] by simp[List.getD,b]]
  exact C0 b
end
theorem Adq{w:Aa}{A:Al}{c:Code}{L Lt:Ae}{H:List Nat}{E:List (Nat×(List Nat→List Nat→List Obj→Ak))}{W:List Wd}{o d u n N:Nat}{v:List Nat}{f:Au→Au→AU→Code}{y:Au→Au→AU→Ae}
  (k:AI w n c L H E W o d u v (λb g i=>.again (f b g i)) y N) (F:Ae) (z:(L++F).Perm Lt) (C:A.handled=none) (D:A.depth≤d) (G:A.units≤u) (X: ∀q∈E,∀j l m,Av w (q.2 j l m)) (Y: ∀q∈W,∀j l m,(q.2 j l m).1=(q.2 j l m).2)
  {s:Ab} (S:An (kt w) s Lt) {R:Result→Ab→Prop} (fi: ∀b g i r,Ag (kt w) s r Lt (y b g i++F)→codeAny (model pw w) A (f b g i) R r) (t:BR v=true:=by rfl):codeAny (model pw w) A c R s:=by
 have B:=S.perm z.symm;refine N0 GJ (GL pw w w) (FJ pw w) (hS w) (H:=H) (E:=E) (W:=W) (ag:=o) n C D G (λq I j l m _ _=>(X q I j l m).frm) Y B.left λb g i=> ?_;have h:=Ge k b g i;have J:=Am Prod.fst h;have K:=Am (λx=>x.2.1) h;have M:=Am (λx=>x.2.2.1) h;refine⟨J,λr O Q _=> ?_⟩;have P:(Ej den rooms GM ⟨pw,w.2⟩ ⟨pw,(wR true w).params⟩ ⟨pw,(wR false w).params⟩ (kt w) n b g i ⟨den c,c,[],L,[],[],[],H,E,W,o,d,u,.free⟩).e= .again (f b g i):=K;rw[P];exact fi b g i r (((O.pick M t).frame B).permL z)
theorem Adr{w:Aa}{B:Al}{f m r c:Nat}(N:B.handled=none)(O:B.depth≤440)(uB:B.units≤2000)(ae:B.frames=some [Bv f m r]){k:List Value}{ns:List Int}(hI:AX k ns)(hl:ns.length≤63){s:Ab}(ht:810≤s.toks)
  (S:An (kt w) s [(f,fr [] 0),(m,Aw c),(r,ce none),(c,li k 0),(248,AP []),(329,AP [])]) {Q:Flow→Ab→Prop} {E:Value→Ab→Prop}
  (hQ: ∀s' v1 v2,Ag (kt w) s s' [(f,fr [] 0),(m,Aw c),(r,ce none),(c,li k 0),(248,AP []),(329,AP [])] [(c,li k 0),(248,AP v1),(329,AP v2)]→Q (.ret IK) s'):wpAny (model pw w) B (execs Pi (Bv f m r)) Q E s:=by
 obtain⟨Y,Z,p,H⟩:=pV hI hl;have K:=XA p;have Sd:=Acu p;have ai:(Bz p 8).length≤8:=QF p 8;rw[Adm];have S:An (kt w) s ([(f,fr [] 0),(m,Aw c),(r,ce none),(c,li k 0),(248,AP [])]++[(329,AP [])]):=S;refine Hb (Adh N O uB hI hl ht H S.left λs1 y nw t0 b t1 P R U d z T t u h ac al V G=> ?_);generalize ea:Bz p 8=a at*;have G:=(Ag.frame S G).permR (L'':=[(f,EC w.2 y nw t0 b t1 P R U [] 5),(m,Aw c),(r,Aw d),(d,li z a.length),(329,AP [])]++[(c,li k 0),(248,AP t),(P,li (Cm T) 16),(R,li (B9 (Cw b) (De b T) 16) 0),(U,li (DS a b nw u) h)]) (AO [] [_,_,_,_,_,_,_,_,_,_] [1,3,5,11,13,7,15,17,19,9] [1,3,5,7,9,11,13,15,17,19]);refine CS (Adk N O uB K V G.sat λs2 y5 t5 e I=> ?_);have I:=(G.trans I).permR (L'':=[(f,EC w.2 y nw t0 b t1 P R U [Ad w Fs y5 (.int (Dq a) t5)] 6),(m,Aw c),(r,Aw d),(d,li z a.length)]++[(329,AP e),(c,li k 0),(248,AP t),(P,li (Cm T) 16),(R,li (B9 (Cw b) (De b T) 16) 0),(U,li (DS a b nw u) h)]) (.refl _);refine Hb (Adl N O uB K V ai I.sat λs3 y6 y7 tr du X fa g TX v=> ?_);have h3:=K.h3;have pd:=Adn (nw:=nw) K TX;have dl:=XI (X:=X) (nw:=nw) K;generalize eD:Im a X nw=D at pd dl;generalize ((CG a).map λj=>X.getD j tz).drop nw=F at pd;generalize aj:((List.range (AM a).length).map λj=>(fa j,li (BD ((AM a).getD j []) (g j)) 0))=C at v;have ak:(((CG a).map λj=>X.getD j tz).take nw)=D:=eD;rw[ak]at v;let l:LV:=⟨nw,t0,b,t1,P,R,U,Dq a,t5,tr,du,λi=>[y 0,y 1,y 2,y 3,y 4,y5,y6,y7].getD i 0⟩
 have v:Ag (kt w) s s3 _ (([(f,Cf w.2 ⟨[]⟩ l [] 8),(m,Aw c),(r,Aw d),(d,li z a.length),(l.du,li (AL D) 0)]++C++TL X)++[(329,AP e),(c,li k 0),(248,AP t),(l.pl,li (Cm T) 16),(l.cd,li (B9 (Cw b) (De b T) 16) 0),(l.td,li (DS a b nw u) h)]):=I.trans v;have q1:(([(f,Cf w.2 ⟨[]⟩ l [] 8),(m,Aw c),(r,Aw d),(d,li z a.length),(l.du,li (AL D) 0)]++C++TL X)++[(329,AP e),(c,li k 0),(248,AP t),(l.pl,li (Cm T) 16),(l.cd,li (B9 (Cw b) (De b T) 16) 0),(l.td,li (DS a b nw u) h)]).Perm ([(f,Cf w.2 ⟨[]⟩ l [] 8),(l.du,li (AL D) 0),(l.td,li (DS a b nw u) h)]++TL D++([(m,Aw c),(r,Aw d),(d,li z a.length),(329,AP e),(c,li k 0),(248,AP t),(l.pl,li (Cm T) 16),(l.cd,li (B9 (Cw b) (De b T) 16) 0)]++C++TL F)):=
  (((pd.append_left _).append_right _).trans (AO [C,TL D,TL F] [(f,Cf w.2 ⟨[]⟩ l [] 8),(m,Aw c),(r,Aw d),(d,li z a.length),(l.du,li (AL D) 0),(329,AP e),(c,li k 0),(248,AP t),(l.pl,li (Cm T) 16),(l.cd,li (B9 (Cw b) (De b T) 16) 0),(l.td,li (DS a b nw u) h)] [0,12,0,6,1,3,5,7,9,2,0,1,4,6,11,13,15,17,19,21] [0,4,1,9,21,4,0,9,3,5,7,11,13,15,17,19,2,6]))
 have v:=v.permR q1;refine CS (Aby N O uB (by (first|lia|omega)) (by (first|lia|omega)) v.sat (λA s=>by rw[←eD];exact Ado K TX ac A s) λs4 J=> ?_);have q2:([(f,Cf w.2 ⟨[]⟩ l [] 8),(l.du,li (AL D) 0),(l.td,li (DS a b nw u) h)]++TL D++([(m,Aw c),(r,Aw d),(d,li z a.length),(329,AP e),(c,li k 0),(248,AP t),(l.pl,li (Cm T) 16),(l.cd,li (B9 (Cw b) (De b T) 16) 0)]++C++TL F)).Perm ([(f,Cf w.2 ⟨[]⟩ l [] 8),(l.du,li (AL D) 0),(r,Aw d),(d,li z a.length)]++([(l.pl,li (Cm T) 16),(l.cd,li (B9 (Cw b) (De b T) 16) 0),(c,li k 0),(248,AP t),(329,AP e)]++(TL D++C++[(m,Aw c),(l.td,li (DS a b nw u) h)]++TL F))):=
  AO [C,TL D,TL F] [(f,Cf w.2 ⟨[]⟩ l [] 8),(m,Aw c),(r,Aw d),(d,li z a.length),(l.du,li (AL D) 0),(329,AP e),(c,li k 0),(248,AP t),(l.pl,li (Cm T) 16),(l.cd,li (B9 (Cw b) (De b T) 16) 0),(l.td,li (DS a b nw u) h)] [0,4,1,9,21,4,0,9,3,5,7,11,13,15,17,19,2,6] [0,4,1,9,5,7,0,5,17,19,13,15,11,0,8,0,4,0,1,4,2,3,21,6]
 have J:=(v.trans J).permR q2;have ad:=Adp (nw:=nw) K TX Sd (g:=g) (M:=[(l.pl,li (Cm T) 16),(l.cd,li (B9 (Cw b) (De b T) 16) 0),(c,li k 0),(248,AP t),(329,AP e)]++(TL D++C++[(m,Aw c),(l.td,li (DS a b nw u) h)]++TL F)) (λq W=>by rw[eD]at W;exact BG _ (Dh _ (Dh _ (Dh _ W)))) (λq W=>by rw[aj]at W;exact BG _ (Dh _ (Dh _ (BG _ W))));rw[eD]at ad;refine CS (Ac8 N O uB ae V ad J.sat λs5 am x n L=> ?_);have q3: ∀o:Obj,([(f,o),(l.du,li (AL D) 0),(r,Aw d),(d,li z a.length)]++([(l.pl,li (Cm T) 16),(l.cd,li (B9 (Cw b) (De b T) 16) 0),(c,li k 0),(248,AP t),(329,AP e)]++(TL D++C++[(m,Aw c),(l.td,li (DS a b nw u) h)]++TL F))).Perm ([(f,o),(l.pl,li (Cm T) 16),(l.cd,li (B9 (Cw b) (De b T) 16) 0)]++([(c,li k 0),(248,AP t),(329,AP e)]++([(l.du,li (AL D) 0),(r,Aw d),(d,li z a.length)]++(TL D++C++[(m,Aw c),(l.td,li (DS a b nw u) h)]++TL F)))):=λo=>
  AO [TL D++C++[(m,Aw c),(l.td,li (DS a b nw u) h)]++TL F] [(f,o),(l.du,li (AL D) 0),(r,Aw d),(d,li z a.length),(l.pl,li (Cm T) 16),(l.cd,li (B9 (Cw b) (De b T) 16) 0),(c,li k 0),(248,AP t),(329,AP e)] [1,3,5,7,9,11,13,15,17,2] [1,9,11,13,15,17,3,5,7,2]
 have L:=(J.trans L).permR (q3 _);refine CS (Abz N O uB (by rw[Sv];decide) (XH ac T) L.sat λs6 aa=> ?_);have aa:=L.trans aa;refine hQ s6 t e (aa.subs ?_);exact(EW [(c,li k 0),(248,AP t),(329,AP e)] _).trans (Nz _ _)
theorem Ads{w:Aa}{A:Al}(i:A.handled=none)(m:A.depth≤420)(n:A.units≤1900)(j:A.frames=some []){b:Nat}{c:List Value}{k:List Int}(o:AX c k)(t:k.length≤63){s:Ab}(u:810≤s.toks)(S:An (kt w) s [(b,li c 0),(248,AP []),(329,AP [])]):
  codeAny (model pw w) A (.call (.ref 332) ⟨[.ref b],[]⟩) (λr v=>r= .ok (.ret IK)∧B5 λe g=>Ag (kt w) s v [(b,li c 0),(248,AP []),(329,AP [])] [(b,li c 0),(248,AP e),(329,AP g)]) s:=by
 refine Adq (sW w b) [(b,li c 0),(248,AP []),(329,AP [])] (.refl _) i m n AR Ar S λh y z s1 d=> ?_;refine codeAny_func ?_;exact Adr (B:=A.deeper (Bv (h 0) (h 1) (h 2))) i (by refine (?_:A.depth+1≤440);(first|lia|omega)) (by refine (?_:A.units+3≤2000);(first|lia|omega)) (Around.frames_deeper j) o t (Ay u d.toks) d.sat λs2 e g l=>⟨rfl,e,g,d.trans l⟩
end
set_option maxHeartbeats 4000000
section
open PySem.W.ZRun
theorem Adt(P:Aj):Js=(frag P).map (·.1):=by kernel_rfl
theorem Adu(P:Aj):B5 λa b=>(o3 P).data= .dict a b∧nsFind a (Str.ofString "law")=some (.ref 332):=by
 rw[show o3=tw11556547117343562602 from te11556547117343562602];have h:(match(tw11556547117343562602 P).data with| .dict a _=>nsFind a (Str.ofString "law")|_=>none)=some (.ref 332):=by kernel_rfl
 revert h;cases(tw11556547117343562602 P).data <;> intro h <;> first|cases h|exact⟨_,_,rfl,h⟩
theorem Adv{h:Heap}{P:Aj}{a:Str→Option Value}{b:Addr}(g:h.Ns 3 a)(e:h.get? 3=some (o3 P))(c:a (Str.ofString "law")=some (.ref b)):b=332:=by
 obtain⟨o,r,s,d,i,_,j⟩:=g;obtain⟨m,n,k,l⟩:=Adu P;rw[e]at d;cases d;rw[k]at i;cases i;rw[←j,l]at c;cases c;rfl
noncomputable def Sz(a:List Value):Obj:={cls:=.type "list",data:=.seq a.toArray}
theorem Adw{g a:Array GenState}(h:Dv g a)(e:g= #[]):AllBare a:=by
 obtain⟨x,b,c⟩:=h;subst e;intro y d;have:y∈a.toList:=Array.mem_toList_iff.mpr d;rw[b]at this;simp only[List.nil_append]at this;exact c y this
theorem Adx{w:Aa}{s:Ab}{d:List Value}(e:InK frag w s.heap)(h:s.heap.get? 333=some (Sz d))(g: ∀a o,(kt w).get a=some o→s.heap.get? a=some o∧a≠333∧a≠248∧a≠329):An (kt w) s [(333,Sz d),(248,tableObj #[]),(329,tableObj #[])]:=by
 have i:s.heap.get? 248=some (tableObj #[]):=e 248 (PJ w.2) (by kernel_rfl);have j:s.heap.get? 329=some (tableObj #[]):=e 329 (PK w.2) (by kernel_rfl);refine⟨λp b=> ?_,by (first|((repeat(first|exact .head _|apply List.mem_cons_of_mem));done)|simp),λa o c=>(g a o c).1,λp b a o c=> ?_⟩
 ·simp only[Jo,Jm,or_false]at b
  rcases b with rfl|rfl|rfl
  ·exact h
  ·exact i
  ·exact j
 ·have z:=(g a o c).2
  simp only[Jo,Jm,or_false]at b;rcases b with rfl|rfl|rfl
  ·exact z.1
  ·exact z.2.1
  ·exact z.2.2
theorem Ady(w:Aa):(kt w).get 248=none:=by kernel_rfl
theorem Adz(w:Aa):(kt w).get 329=none:=by kernel_rfl
theorem Ad0(w:Aa):(kt w).get 333=none:=by kernel_rfl
theorem XJ{h:Heap}(f:Nat×Obj→Bool): ∀{K:Frag},AllIn h K→AllIn h (List.filter f K)
 |[],_=>trivial
 |p::K,a=>by
  have z:=XJ f a.2
  by_cases e:f p=true
  ·rw[NC e];exact⟨a.1,z⟩
  ·rw[ND e];exact z
theorem Ad1{T:KT}{h d:Heap}(H:KT.Holds h 1 0 T)(i:T.get 333=none)(j:T.get 248=none)(k:T.get 329=none)(c: ∀b o,h.get? b=some o→d.get? b=some o): ∀a o,T.get a=some o→d.get? a=some o∧a≠333∧a≠248∧a≠329:=by
 intro a o e;have g:=KT.Holds.get H e;rw[Nat.one_mul,Lz]at g;refine⟨c a o g,?_,?_,?_⟩ <;> rintro rfl
 ·rw[i]at e;cases e
 ·rw[j]at e;cases e
 ·rw[k]at e;cases e
theorem Ad2{F G:Aj→Frag}(e:F=G){P:Aj}{h d:Heap}(g:AllIn h (F P))(i:(LN (G P)).get 333=none)(j:(LN (G P)).get 248=none)(k:(LN (G P)).get 329=none)(c: ∀b o,h.get? b=some o→d.get? b=some o): ∀a o,(LN (G P)).get a=some o→d.get? a=some o∧a≠333∧a≠248∧a≠329:=by
 subst e;exact Ad1 (holds_of (XJ Tr g)) i j k c
theorem Ad3{w:Aa}{h d:Heap}(e:AllIn h (frag w.2))(c: ∀b o,h.get? b=some o→d.get? b=some o): ∀a o,(kt w).get a=some o→d.get? a=some o∧a≠333∧a≠248∧a≠329:=
 Ad2 te11500880152897323899 e (Ad0 w) (Ady w) (Adz w) c
theorem XK{w:Aa}{h:Heap}(d:InK frag w h)(c:Addr)(o:Obj){b:Addr}(e:List.lookup c (frag w.2)=some o)(g:o.cls= .type "code")(i: ∃a:Array Value,o.data= .fields a∧a[11]? =some (.ref b)):isCodeTable h b:=by
 obtain⟨a,j,k⟩:=i;exact⟨c,o,a,d c o e,g,j,k⟩
theorem Ad4(d:DefRec)(i:List (Str×PySem.Expr))(u:defOf q (Str.ofString "law")=some (d,i)):WalkX q Iv (XL q []) (obsZ Js) (valZ frag 333 810) PySem.Challenge.rw_oh0120_01.row.toRowW d i λf e=>PySem.call f e:=by
 intro w m a mg mb G y fa o pm cd aa dV kV ho M ac hD j N O P as L n s v z C;obtain⟨Q,U,V,W⟩:=z_facts Adt y;have b:=Laid.keeps L;refine Ground.open G ?_;intro T B D TE TW
 wrow_args n s v z C
 have g:=InK.keeps w m.heap a.heap U b;obtain⟨k,E⟩:=script_at L;rw[V]at k E;subst k;have X:d.name=Str.ofString "law":=defOf_name u;rw[X]at j;have Y:a.heap.get? 3=some (o3 w.2):=g 3 (o3 w.2) (by kernel_rfl);have F:=Adv T.g Y j;subst F;rename_i ns hs ad K ae ai aj ak e al ra Z am an ao hL w1 r0;have l:=script_obj L hL;have S:=Adx g l (Ad3 Q b);have H:Sz e=li e 0:=(BW e 0).symm;have S:An (kt w) a [(333,li e 0),(248,AP []),(329,AP [])]:=H▸S;have tk:810≤a.toks:=script_toks L W;have R:=Ads (w:=w) (A:=callerA) rfl (by decide) (by decide) rfl Z (by (first|lia|omega)) tk S;rw[←PI]at R;have I:isCodeTable a.heap 248:=XK g 252 (SM w.2) (by kernel_rfl) rfl ⟨_,rfl,rfl⟩;have J:isCodeTable a.heap 329:=XK g 331 (SN w.2) (by kernel_rfl) rfl ⟨_,rfl,rfl⟩;have e1:a.heap.get? 248=some (tableObj #[]):=g 248 (PJ w.2) (by kernel_rfl);have e2:a.heap.get? 329=some (tableObj #[]):=g 329 (PK w.2) (by kernel_rfl);refine x_call (c:=.call (.ref 332) ⟨[.ref 333],[]⟩) (hd:=none) (B4 R λr s' hr=> ?_) (by intro h;cases h);obtain⟨rfl,v1,v2,t⟩:=hr;refine Aq ?_;exact⟨.inl ⟨_,_,[],rfl,λ_=>rfl,ReadsW.bool true,by wrow_post,λ_=>⟨List.nodup_nil,λ_ hm=>(nomatch hm)⟩⟩,xJ l I J e1 e2 t,t.os,Adw t.gens N⟩
theorem holdsAll:PySem.Challenge.rw_oh0120_01.Holds:=main Ad4
end
end
end Mine
set_option maxHeartbeats 4000000 in
theorem PySem.Challenge.cw_oh0120_01_holds : PySem.Challenge.rw_oh0120_01.Holds :=
  Mine.holdsAll
