import PyProof.Rows.All
import PyProof.MinMaxWalk
import PyProof.SumAny
import PyProof.StrReplace2
import KE.KSortTup
import Wide.FinOn
import OpenK.AllK
import Wide.All
import PySem.Challenge.RW_oh0120_01
set_option Elab.async false
open PySem renaming wpAny_bind->Af,Shared->Ab,World->Aa,wpAny_pure->Ap,Params->Aj,Fin->AE,Around->Al,codeAny_mono->B5,codeAny_call_builtin->DV,wpAny_seqItems->Dc,wpAny_holding->Dl,wpAny_standAt->Du,wpAny_mono->CE,codeAny_builtin->EK,wpAny_onRaise->Fo,codeAny_of_tree->Hp,wpAny_rule->FI,wpAny_of_eq->GI,wpAny_load->Jo
open Nat renaming le_trans->AC,le_refl->A8,add_le_add_right->CC,le_of_lt->Bw,lt_of_le_of_lt->CQ,le_of_ble_eq_true->Eg,zero_le->B8,lt_of_lt_of_le->Eh,ne_of_lt->CS,le_of_lt_succ->Ei,succ_le_succ->Ev,lt_trans->DC,le_of_not_lt->FG,lt_succ_of_le->Gb,ne_of_gt->EZ,le_add_right->GF,eq_of_beq_eq_true->Jc,lt_succ_self->Hn,lt_of_le_of_ne->Im,le_succ_of_le->Ip,sub_lt_sub_left->Jd,lt_or_eq_of_le->Je,succ_pos->GH,lt_trichotomy->Jf,exists_eq_add_of_le'->Le,zero_lt_succ->Ji,not_lt_of_le->Jj,add_sub_cancel_left->Lf,zero_add->Hq,lt_of_succ_lt_succ->Lg,le_antisymm->Jl,lt_irrefl->Iq,mod_lt->GJ,not_lt_zero->J7,add_right_comm->Lk,lt_add_of_pos_right->Nz,le_succ->Jn,add_sub_cancel'->ND,sub_zero->Ka,le_of_eq->Kb,add_sub_cancel->NE,lt_succ_of_lt->NF,add_assoc->Ls,succ_ne_self->NH,lt_or_ge->Lw,add_zero->Lx
open List renaming mem_cons_self->Bj,mem_append_right->BG,mem_cons_of_mem->BB,map_append->BC,mem_map_of_mem->B7,append_nil->BR,length_map->BZ,mem_append_left->Dk,replicate->Cd,map_map->B0,getElem?_eq_getElem->Eu,getElem_mem->Db,append_assoc->Dt,map_congr_left->DW,sublist_append_left->EY,perm_append_comm->EF,pairwise_iff_getElem->F9,length_append->EH,nodup_iff_pairwise_ne->GC,perm_middle->EJ,nodup_append->Fm,map_cons->Ej,getElem_of_mem->Ga,length_range->Gc,range_eq_range'->Hl,mem_of_mem_take->Hm,reverse_perm->GD,pairwise_map->GE,length_cons->GG,getElem?_append_left->J2,mem_singleton->Io,ext_getElem->Ho,getElem?_eq_none->J3,take_add_one->Jg,getElem?_map->Jh,not_mem_nil->Jk,perm_ext_iff_of_nodup->Nu,getElem?_append_right->Nv,nodup_range->J5,getElem_map->J6,sublist_append_right->Nx,drop_eq_getElem_cons->Ny,getElem?_range->Li,mem_cons->Jm,range_succ->J8,length->Ir,take_of_length_le->NA,getElem_take->Ll,take_append_drop->NC,take_length->Lo,getElem_inj->Lp,eq_nil_of_length_eq_zero->Ps,nodup_cons->Lq,count_append->NG,range'_succ->NI,length_take->NJ,filter_cons_of_pos->Pu,filter_cons_of_neg->Pv,sublist_cons_self->Pw,range_succ_eq_map->Px
open List.Perm renaming refl->AX,append_right->FD
open Bool renaming false_eq_true->CR,false_ne_true->FF,and_eq_true->Fn,not_eq_true'->Lm,or_false->Lu,not_true->Lv
open PyProof.Rows renaming IntsAre->AV
open PySem.Around renaming under_plainId->EG,under_of_weight->Lh
open PySem.Flow.ret renaming inj->CZ
open Option.some renaming inj->FH
open Int renaming toNat_natCast->J4,fmod_eq_emod_of_nonneg->Nw
open Array renaming length_toList->Lj,getElem?_eq_getElem->Pt
open List.cons renaming inj->J9
open PySem PySem.W PySem.W.X PyProof.Rows PySem.SeqAt PySem.W.Fast PySem.W.SL
set_option maxRecDepth 100000
set_option linter.all false
set_option genInjectivity false
set_option compiler.extract_closed false
set_option genSizeOf false
set_option bootstrap.genMatcherCode false
namespace Mine
noncomputable section
set_option maxHeartbeats 400000
noncomputable abbrev Ai:= @congrFun
noncomputable abbrev Am:= @congrArg
noncomputable abbrev BH:= @decide_eq_false
noncomputable abbrev AI:= @if_neg
noncomputable abbrev CD:= @decide_eq_true
noncomputable abbrev AS:= @if_pos
inductive B6 {A0 A1:Type} (P:A0→A1→Prop):Prop
 |mk (a0:A0) (a1:A1) (h:P a0 a1):B6 P
inductive Ew {A0 A1 A2:Type} (P:A0→A1→A2→Prop):Prop
 |mk (a0:A0) (a1:A1) (a2:A2) (h:P a0 a1 a2):Ew P
inductive Kc {A0 A1 A2 A3:Type} (P:A0→A1→A2→A3→Prop):Prop
 |mk (a0:A0) (a1:A1) (a2:A2) (a3:A3) (h:P a0 a1 a2 a3):Kc P
inductive Ly {A0 A1 A2 A3 A4:Type} (P:A0→A1→A2→A3→A4→Prop):Prop
 |mk (a0:A0) (a1:A1) (a2:A2) (a3:A3) (a4:A4) (h:P a0 a1 a2 a3 a4):Ly P
inductive Sz {A0 A1 A2 A3 A4 A5:Type} (P:A0→A1→A2→A3→A4→A5→Prop):Prop
 |mk (a0:A0) (a1:A1) (a2:A2) (a3:A3) (a4:A4) (a5:A5) (h:P a0 a1 a2 a3 a4 a5):Sz P
inductive SA {A0 A1 A2 A3 A4 A5 A6:Type} (P:A0→A1→A2→A3→A4→A5→A6→Prop):Prop
 |mk (a0:A0) (a1:A1) (a2:A2) (a3:A3) (a4:A4) (a5:A5) (a6:A6) (h:P a0 a1 a2 a3 a4 a5 a6):SA P
set_option maxHeartbeats 8000000
noncomputable def SB(b:Type)(a:Array b)(p:b→Bool)(i j:Nat):Bool:=
 match Nat.beq i 0&&Nat.beq j a.size with
 |true=>a.toList.any p
 |false=>a.any p i j
theorem SC:SB= @Array.any.{0}:=by
 funext α as p i j;unfold SB
 split
 ·rename_i h
  rw[Fn]at h;have a:=Jc h.1;have b:=Jc h.2;subst a b;rw[Array.any_toList]
 ·rfl
noncomputable def NK(b:Builtin)(a:String):Option Builtin:=
 match decide (a="type.__new__")with
 |true=>some b
 |false=>treeTable a
theorem XO:treeTable=NK Builtin.«type.__new__»:=by
 funext id;unfold NK
 by_cases h:id="type.__new__"
 ·subst h
  rw[CD rfl];exact(by kernel_rfl)
 ·rw[BH h]
noncomputable def Lz(a:String→Option Builtin)(p:Program)(w:Aa):Nat→SharedT→Thread→Option SharedT
 |0,_,_=>none
 |n+1,s,t=>match t.atExitBegin with
  |some l=>(match l with|[]=>some s|_::_=>none)
  |none=>match stepT (denote a) p w s t with
   |some (b,c)=>Lz a p w n b c
   |none=>none
theorem SD{c:String→Option Builtin}{p:Program}{w:Aa}: ∀{n:Nat} {s d:SharedT} {t:Thread},Lz c p w n s t=some d→importEnds c p w n s.abs t=some d.abs
 |0,_,_,_,h=>by cases h
 |n+1,s,d,t,h=>by
  unfold Lz at h;unfold importEnds;cases g:t.atExitBegin with
  |some l=>
   rw[g]at h;cases l with
   |nil=>cases h;rfl
   |cons a b=>cases h
  |none=>
   rw[g]at h;cases e:stepT (denote c) p w s t with
   |none=>rw[e]at h;cases h
   |some r=>obtain⟨i,j⟩:=r;rw[e]at h;dsimp only;rw[stepT_spec e];exact SD h
noncomputable def LA(c:String→Option Builtin)(p:Program)(w:Aa)(a:Nat)(b:Option Value):Nat→SharedT→Thread→Option SharedT
 |0,_,_=>none
 |n+1,s,t=>match through t with
  |true=>some s
  |false=>match stepOk a b t with
   |false=>none
   |true=>match stepT (denote c) p w s t with
    |some (d,e)=>LA c p w a b n d e
    |none=>none
theorem SE{c:String→Option Builtin}{p:Program}{w:Aa}{a:Nat}{b:Option Value}: ∀{n:Nat} {s d:SharedT} {t:Thread},LA c p w a b n s t=some d→topRun c p w a b n s.abs t=some d.abs
 |0,_,_,_,h=>by cases h
 |n+1,s,d,t,h=>by
  unfold LA at h;unfold topRun;cases g:through t with
  |true=>rw[g]at h;cases h;rfl
  |false=>
   rw[g]at h;cases i:stepOk a b t with
   |false=>rw[i]at h;cases h
   |true=>
    rw[i]at h;cases e:stepT (denote c) p w s t with
    |none=>rw[e]at h;cases h
    |some r=>obtain⟨j,k⟩:=r;rw[e]at h;dsimp only;rw[stepT_spec e];exact SE h
noncomputable def LB:List Obj→Nat→BT→BT
 |[],_,t=>t
 |o::l,n,t=>LB l (n+1) (t.ins n o)
noncomputable def Kd:List Obj→Nat→BT→Bool
 |[],_,_=>true
 |o::l,n,t=>((t.ins n o).get n).isSome&&Kd l (n+1) (t.ins n o)
theorem SF{life:Life}: ∀{l:List Obj} {n:Nat} {t:BT} {os:Array Obj},Kd l n t=true→absHeap t n life=⟨os,life⟩→absHeap (LB l n t) (n+l.length) life=⟨os++l.toArray,life⟩
 |[],n,t,os,_,e=>by
  refine (?_:absHeap t (n+0) life=_);rw[Lx,e];simp
 |o::l,n,t,os,h,e=>by
  unfold Kd at h;rw[Fn]at h;have a:=absHeap_ins (life:=life) h.1;rw[e]at a;have b:=SF (l:=l) h.2 (a.trans (show Heap.push ⟨os,life⟩ o=⟨os.push o,life⟩from rfl));refine (?_:absHeap (LB l (n+1) (t.ins n o)) (n+(l.length+1)) life=_);rw[show n+(l.length+1)=n+1+l.length by (first|lia|omega),b];congr 1;apply Array.ext';simp
noncomputable def Py(s:Ab):SharedT:=⟨LB s.heap.objs.toList 0 .nil,s.heap.objs.size,s.heap.life,s.gens,s.drawn,s.toks,s.os⟩
theorem XQ{s:Ab}(h:Kd s.heap.objs.toList 0 .nil=true):(Py s).abs=s:=by
 obtain⟨⟨a,b⟩,g,d,t,os⟩:=s;have e:=SF (life:=b) (os:= #[]) h (by
  unfold absHeap BT.list;rfl)
 rw[Hq]at e;refine (?_:Shared.mk (absHeap (LB a.toList 0 .nil) a.size b) g d t os=_);have c:a.toList.length=a.size:=rfl;rw[←c,e];congr 1;congr 1;simp
noncomputable def LC(c:String→Option Builtin)(p:Program)(w:Aa)(N:Nat):Option Ab:=
 match Lz c (opening p) w N ⟨.nil,0,{},#[],{},1,(start (opening p)).1.os⟩ (start (opening p)).2 with
 |none=>none
 |some sT=>match fenceModules? p sT.abs with
  |none=>none
  |some a=>match a.heap.isNs mainGlobals&&a.gens.size==0&&Kd a.heap.objs.toList 0 .nil with
   |false=>none
   |true=>match LA c p w a.heap.objs.size (a.heap.nsMap mainGlobals "__annotations__") N (Py a) (topStub p)with
    |none=>none
    |some b=>match staticsOk (importedModules p.main.body) a.heap b.abs.heap&&namesBound p b.abs.heap&&gensDone b.abs&&laidKept a.heap b.abs.heap with
     |true=>some b.abs
     |false=>none
theorem XR{b:String→Option Builtin}{p:Program}{w:Aa}{N:Nat}{s:Ab}(h:LC b p w N=some s):openEnds b p w N=some s:=by
 unfold LC at h;cases c:Lz b (opening p) w N ⟨.nil,0,{},#[],{},1,(start (opening p)).1.os⟩ (start (opening p)).2 with
 |none=>rw[c]at h;cases h
 |some sT=>
  rw[c]at h;dsimp only at h;have m:importEnds b (opening p) w N (start (opening p)).1 (start (opening p)).2=some sT.abs:=by
   have:=SD c;exact this
  cases d:fenceModules? p sT.abs with
  |none=>rw[d]at h;cases h
  |some a=>
   rw[d]at h;dsimp only at h;cases e:(a.heap.isNs mainGlobals&&a.gens.size==0&&Kd a.heap.objs.toList 0 .nil)with
   |false=>rw[e]at h;cases h
   |true=>
    rw[e]at h;dsimp only at h;obtain⟨i,j⟩:=Bool.and_eq_true_iff.mp e;cases g:LA b p w a.heap.objs.size (a.heap.nsMap mainGlobals "__annotations__") N (Py a) (topStub p)with
    |none=>rw[g]at h;cases h
    |some l=>
     rw[g]at h;dsimp only at h;have k:=SE g;rw[XQ j]at k;unfold openEnds fencedOpening topFrom;rw[m];show(Option.bind (some sT.abs) (fenceModules? p)).bind _=_;rw[Option.bind_some,d,Option.bind_some,i];dsimp only;rw[k,Option.bind_some];exact h
noncomputable def XS:Stmt:=.Pass ⟨0,0,0,0⟩
noncomputable def AF:List Stmt→Nat→Stmt
 |[],_=>XS
 |s::_,0=>s
 |_::l,n+1=>AF l n
noncomputable def SG:Arguments:={posonlyargs:=[],args:=[],vararg:=none,kwonlyargs:=[],kw_defaults:=[],kwarg:=none,defaults:=[]}
noncomputable def Pz:Scope:={kind:=.function,names:=[],isGenerator:=false,isCoroutine:=false,more:=[]}
noncomputable def PB:Expr:=.Name ⟨⟨[]⟩⟩ ⟨0,0,0,0⟩
noncomputable def A9:List Expr→Nat→Expr
 |[],_=>PB
 |s::_,0=>s
 |_::l,n+1=>A9 l n
noncomputable def PC:List Comprehension→List Expr
 |[]=>[]
 |g::l=>g.target::g.iter::(g.ifs++PC l)
noncomputable def SH:List Keyword→List Expr
 |[]=>[]
 |k::l=>k.value::SH l
structure EI where
 k:List Expr:=[]
 p:Pos:=⟨0,0,0,0⟩
 s:Scope:=Pz
 n:Str:=⟨⟨[]⟩⟩
 a:Arguments:=SG
 c:Nat:=0
 g:List Comprehension:=[]
noncomputable def eI:Expr→EI
 | .BoolOp _ h _=>{k:=h}
 | .BinOp l _ r _=>{k:=[l,r]}
 | .UnaryOp _ o _=>{k:=[o]}
 | .Lambda a b s _=>{k:=[b],s:=s,a:=a}
 | .IfExp t b o p=>{k:=[t,b,o],p:=p}
 | .ListComp e g s p=>{k:=e::PC g,s:=s,p:=p,g:=g}
 | .GeneratorExp e g s p=>{k:=e::PC g,s:=s,p:=p,g:=g}
 | .Compare l _ r p=>{k:=l::r,p:=p}
 | .Call f a k p=>{k:=f::(a++SH k),p:=p}
 | .Attribute v _ p=>{k:=[v],p:=p}
 | .Subscript v s p=>{k:=[v,s],p:=p}
 | .List d p=>{k:=d,p:=p}
 | .Tuple d c p=>{k:=d,c:=c,p:=p}
 | .Name n p=>{n:=n,p:=p}
 | .Constant (.str s) _ _=>{n:=s}
 |_=>{}
noncomputable def Br(e:Expr):List Expr:=(eI e).k
noncomputable def Fp(e:Expr):Scope:=(eI e).s
noncomputable def gP(e:Expr):Pos:=(eI e).p
noncomputable def PD(e:Expr):Str:=(eI e).n
noncomputable def XT(e:Expr):Arguments:=(eI e).a
noncomputable def tK(e:Expr):Nat:=(eI e).c
noncomputable def eE(e:Expr)(i:Nat):Expr:=A9 (eI e).k i
structure SI where
 k:List Expr:=[]
 b:List Stmt:=[]
 e:List Stmt:=[]
 f:List Stmt:=[]
 h:List ExceptHandler:=[]
 p:Pos:=⟨0,0,0,0⟩
noncomputable def sI:Stmt→SI
 | .Return (some v) p=>{k:=[v],p:=p}
 | .Assign a v p=>{k:=v::a,p:=p}
 | .AugAssign t _ v p=>{k:=[t,v],p:=p}
 | .For t i b e p=>{k:=[t,i],b:=b,e:=e,p:=p}
 | .While t b e p=>{k:=[t],b:=b,e:=e,p:=p}
 | .If t b e p=>{k:=[t],b:=b,e:=e,p:=p}
 | .Expr v p=>{k:=[v],p:=p}
 | .Try b h e f p=>{b:=b,h:=h,e:=e,f:=f,p:=p}
 | .FunctionDef _ _ b _ _ _ _ _ _ _=>{b:=b}
 | .ClassDef _ _ _ b _ _ _ _ _ _ _=>{b:=b}
 |_=>{}
noncomputable def Ke(s:Stmt):List Expr:=(sI s).k
noncomputable def AO(s:Stmt):List Stmt:=(sI s).b
noncomputable def Dv(s:Stmt):List Stmt:=(sI s).e
noncomputable def LD(s:Stmt):List Stmt:=(sI s).f
noncomputable def LE(s:Stmt):List ExceptHandler:=(sI s).h
noncomputable def sP(s:Stmt):Pos:=(sI s).p
noncomputable def sT(s:Stmt):Expr:=A9 (sI s).k 0
noncomputable def Ex(s:Stmt):Expr:=A9 (sI s).k 1
noncomputable def Hr(e:Expr):Comprehension:=(eI e).g.headD ⟨PB,PB,[],0⟩
noncomputable def XU(l:List Stmt):Str:=(eI (sT (AF l 0))).n
noncomputable abbrev SJ{a:Type}(_:a):Prop:=True
theorem Be{b:Type}{a s:b}(h:a=s):SJ s:=trivial
noncomputable def Bf{a:Type}(s:a)(_:SJ s):a:=s
noncomputable abbrev LF:Program:=PySem.Challenge.pw_oh0120_01
noncomputable def _root_.PySem.W.Fast.tw749736533983998154:Program:=LF
theorem _root_.PySem.W.Fast.te749736533983998154:LF=tw749736533983998154:=rfl
noncomputable def XV:Stmt→Stmt→Stmt
 | .FunctionDef a b _ c d e _ g h i,.FunctionDef _ _ l _ _ _ s _ _ _=>.FunctionDef a b l c d e s g h i
 |s,_=>s
noncomputable def B1:Stmt→Stmt
 | .FunctionDef a b _ c d e _ g h i=>.FunctionDef a b [] c d e Pz g h i
 |s=>s
noncomputable def Kg:Stmt→List Stmt→Stmt
 | .ClassDef a b c _ d e f g h i j,l=>.ClassDef a b c l d e f g h i j
 |s,_=>s
noncomputable def tp(i:Nat):Stmt:=AF LF.main.body i
noncomputable def mm(i:Nat):Stmt:=AF (AO (tp 6)) i
noncomputable def B2(s r:Stmt):Stmt:=XV s r
noncomputable def XW:Stmt:=Bf _ (Be (a:=tp 0) (by conv=>lhs;whnf))
noncomputable def XX:Stmt:=B2 (Bf _ (Be (a:=B1 (tp 1)) (by conv=>lhs;whnf))) (tp 1)
noncomputable def XY:Stmt:=Bf _ (Be (a:=tp 2) (by conv=>lhs;whnf))
noncomputable def m3(i:Nat):Stmt:=AF (AO (tp 3)) i
noncomputable def XZ:Stmt:=B2 (Bf _ (Be (a:=B1 (m3 0)) (by conv=>lhs;whnf))) (m3 0)
noncomputable def X2:Stmt:=B2 (Bf _ (Be (a:=B1 (m3 1)) (by conv=>lhs;whnf))) (m3 1)
noncomputable def X3:Stmt:=B2 (Bf _ (Be (a:=B1 (m3 2)) (by conv=>lhs;whnf))) (m3 2)
noncomputable def X4:Stmt:=B2 (Bf _ (Be (a:=B1 (m3 3)) (by conv=>lhs;whnf))) (m3 3)
noncomputable def X5:Stmt:=Bf _ (Be (a:=Kg (tp 3) []) (by conv=>lhs;whnf))
noncomputable def X6:Stmt:=Kg X5 [XZ,X2,X3,X4]
noncomputable def m4(i:Nat):Stmt:=AF (AO (tp 4)) i
noncomputable def X7:Stmt:=Bf _ (Be (a:=m4 0) (by conv=>lhs;whnf))
noncomputable def X8:Stmt:=Bf _ (Be (a:=m4 1) (by conv=>lhs;whnf))
noncomputable def X9:Stmt:=Bf _ (Be (a:=m4 2) (by conv=>lhs;whnf))
noncomputable def Yb:Stmt:=Bf _ (Be (a:=m4 3) (by conv=>lhs;whnf))
noncomputable def Yc:Stmt:=B2 (Bf _ (Be (a:=B1 (m4 4)) (by conv=>lhs;whnf))) (m4 4)
noncomputable def Yd:Stmt:=B2 (Bf _ (Be (a:=B1 (m4 5)) (by conv=>lhs;whnf))) (m4 5)
noncomputable def Ye:Stmt:=B2 (Bf _ (Be (a:=B1 (m4 6)) (by conv=>lhs;whnf))) (m4 6)
noncomputable def Yg:Stmt:=Bf _ (Be (a:=m4 7) (by conv=>lhs;whnf))
noncomputable def Yh:Stmt:=B2 (Bf _ (Be (a:=B1 (m4 8)) (by conv=>lhs;whnf))) (m4 8)
noncomputable def Yi:Stmt:=B2 (Bf _ (Be (a:=B1 (m4 9)) (by conv=>lhs;whnf))) (m4 9)
noncomputable def Yj:Stmt:=B2 (Bf _ (Be (a:=B1 (m4 10)) (by conv=>lhs;whnf))) (m4 10)
noncomputable def Yk:Stmt:=Bf _ (Be (a:=m4 11) (by conv=>lhs;whnf))
noncomputable def Yl:Stmt:=Bf _ (Be (a:=m4 12) (by conv=>lhs;whnf))
noncomputable def Ym:Stmt:=Bf _ (Be (a:=m4 13) (by conv=>lhs;whnf))
noncomputable def Yn:Stmt:=Bf _ (Be (a:=m4 14) (by conv=>lhs;whnf))
noncomputable def Yo:Stmt:=Bf _ (Be (a:=Kg (tp 4) []) (by conv=>lhs;whnf))
noncomputable def Yp:Stmt:=Kg Yo [X7,X8,X9,Yb,Yc,Yd,Ye,Yg,Yh,Yi,Yj,Yk,Yl,Ym,Yn]
noncomputable def Yq:Stmt:=B2 (Bf _ (Be (a:=B1 (tp 5)) (by conv=>lhs;whnf))) (tp 5)
noncomputable def Yr:Stmt:=Bf _ (Be (a:=mm 0) (by conv=>lhs;whnf))
noncomputable def Ys:Stmt:=B2 (Bf _ (Be (a:=B1 (mm 1)) (by conv=>lhs;whnf))) (mm 1)
noncomputable def Yt:Stmt:=B2 (Bf _ (Be (a:=B1 (mm 2)) (by conv=>lhs;whnf))) (mm 2)
noncomputable def Yu:Stmt:=B2 (Bf _ (Be (a:=B1 (mm 3)) (by conv=>lhs;whnf))) (mm 3)
noncomputable def Yv:Stmt:=B2 (Bf _ (Be (a:=B1 (mm 4)) (by conv=>lhs;whnf))) (mm 4)
noncomputable def Yw:Stmt:=B2 (Bf _ (Be (a:=B1 (mm 5)) (by conv=>lhs;whnf))) (mm 5)
noncomputable def Yx:Stmt:=B2 (Bf _ (Be (a:=B1 (mm 6)) (by conv=>lhs;whnf))) (mm 6)
noncomputable def Yy:Stmt:=B2 (Bf _ (Be (a:=B1 (mm 7)) (by conv=>lhs;whnf))) (mm 7)
noncomputable def Yz:Stmt:=B2 (Bf _ (Be (a:=B1 (mm 8)) (by conv=>lhs;whnf))) (mm 8)
noncomputable def YA:Stmt:=B2 (Bf _ (Be (a:=B1 (mm 9)) (by conv=>lhs;whnf))) (mm 9)
noncomputable def YB:Stmt:=B2 (Bf _ (Be (a:=B1 (mm 10)) (by conv=>lhs;whnf))) (mm 10)
noncomputable def YC:Stmt:=B2 (Bf _ (Be (a:=B1 (mm 11)) (by conv=>lhs;whnf))) (mm 11)
noncomputable def YD:Stmt:=B2 (Bf _ (Be (a:=B1 (mm 12)) (by conv=>lhs;whnf))) (mm 12)
noncomputable def YE:Stmt:=Bf _ (Be (a:=Kg (tp 6) []) (by conv=>lhs;whnf))
noncomputable def YF:Stmt:=Kg YE [Yr,Ys,Yt,Yu,Yv,Yw,Yx,Yy,Yz,YA,YB,YC,YD]
noncomputable def YG:Stmt:=Bf _ (Be (a:=tp 7) (by conv=>lhs;whnf))
noncomputable def YH:Stmt:=B2 (Bf _ (Be (a:=B1 (tp 8)) (by conv=>lhs;whnf))) (tp 8)
noncomputable def YI:Stmt:=Bf _ (Be (a:=tp 9) (by conv=>lhs;whnf))
noncomputable def YJ:Stmt:=B2 (Bf _ (Be (a:=B1 (tp 10)) (by conv=>lhs;whnf))) (tp 10)
noncomputable def YK:Stmt:=Bf _ (Be (a:=tp 11) (by conv=>lhs;whnf))
noncomputable def YL:Stmt:=Bf _ (Be (a:=tp 12) (by conv=>lhs;whnf))
noncomputable def YM:Stmt:=B2 (Bf _ (Be (a:=B1 (tp 13)) (by conv=>lhs;whnf))) (tp 13)
noncomputable def YN:Stmt:=Bf _ (Be (a:=tp 14) (by conv=>lhs;whnf))
noncomputable def YO:Stmt:=B2 (Bf _ (Be (a:=B1 (tp 15)) (by conv=>lhs;whnf))) (tp 15)
noncomputable def YP:Stmt:=Bf _ (Be (a:=tp 16) (by conv=>lhs;whnf))
noncomputable def YQ:Stmt:=B2 (Bf _ (Be (a:=B1 (tp 17)) (by conv=>lhs;whnf))) (tp 17)
noncomputable def YR:Stmt:=B2 (Bf _ (Be (a:=B1 (tp 18)) (by conv=>lhs;whnf))) (tp 18)
noncomputable def YS:Stmt:=B2 (Bf _ (Be (a:=B1 (tp 19)) (by conv=>lhs;whnf))) (tp 19)
noncomputable def YT:Stmt:=B2 (Bf _ (Be (a:=B1 (tp 20)) (by conv=>lhs;whnf))) (tp 20)
noncomputable def YU:Stmt:=B2 (Bf _ (Be (a:=B1 (tp 21)) (by conv=>lhs;whnf))) (tp 21)
noncomputable def YV:Stmt:=B2 (Bf _ (Be (a:=B1 (tp 22)) (by conv=>lhs;whnf))) (tp 22)
noncomputable def YW:Scope:=Bf _ (Be (a:=LF.main.scope) (by conv=>lhs;whnf))
noncomputable def YX:Given:=Bf _ (Be (a:=LF.given) (by conv=>lhs;whnf))
noncomputable def pw:Program:={main:={body:=[XW,XX,XY,X6,Yp,Yq,YF,YG,YH,YI,YJ,YK,YL,YM,YN,YO,YP,YQ,YR,YS,YT,YU,YV],scope:=YW,futureAnnotations:=false,file:="/claim/cut.py",more:=[]},modules:=[],parses:=[],absent:=[],harvested:=[],given:=YX}
theorem PE:PySem.Challenge.pw_oh0120_01=pw:=by kernel_rfl
noncomputable def SK:Stmt→Arguments
 | .FunctionDef _ a _ _ _ _ _ _ _ _=>a
 |_=>SG
noncomputable def EM:Stmt→Scope
 | .FunctionDef _ _ _ _ _ _ s _ _ _=>s
 |_=>Pz
noncomputable def Fq(s:Stmt):Str:=XU (AO s)
noncomputable def top(i:Nat):Stmt:=AF pw.main.body i
noncomputable def mem(i j:Nat):Stmt:=AF (AO (top i)) j
noncomputable def zK(a b:String)(t c d e g h i:Nat)(v:Bool)(j k:Nat)(w l m:Value)(n o r s:Nat):Obj:=⟨.type "code",none,.fields ⟨[.str (Str.ofString a) t,.str (Str.ofString b) (t+1),.str (Str.ofString "/claim/cut.py") (t+2),.int c 0,.int d 0,.int e 0,.int g 0,.int h 0,.ref i,.bool v,.int j 0,.ref k,w,l,m,.ref n,.int o 0,.int r 0,.str (Str.ofString "/claim/cut.py") s]⟩,⟨[]⟩⟩
noncomputable def zF(a b:String)(x r:Stmt)(d e g m:Value)(c:Nat):Obj:=⟨.type "function",none,.func (PySem.FuncData.mk (Str.ofString a) (Str.ofString b) (SK x) (.stmts (AO r)) (EM r) 3 [] d e g m none (.ref c) .none 0),⟨[]⟩⟩
noncomputable def zS(P:Aj)(i:Nat)(l:Array Nat)(v:Value):DictEntry:=⟨PyData.keyHash P (Str.mk l),.str (Str.mk l) i,v⟩
noncomputable def zT(P:Aj)(i:Nat)(n:String):DictEntry:=⟨PyData.keyHash P (Str.ofString n),.str (Str.ofString n) i,.type n⟩
noncomputable def zB(P:Aj)(i:Nat)(n:String):DictEntry:=⟨PyData.keyHash P (Str.ofString n),.str (Str.ofString n) i,.builtin n⟩
noncomputable def zV(P:Aj)(i:Nat)(n:String)(v:Value):DictEntry:=⟨PyData.keyHash P (Str.ofString n),.str (Str.ofString n) i,v⟩
noncomputable def YY(P:Aj):List DictEntry:=[zV P 1 "__name__" (.str (Str.ofString "builtins") 160),zV P 2 "__doc__" (.builtin "builtins.__doc__:str#opaque"),zV P 3 "__package__" (.builtin "builtins.__package__:str#opaque"),zV P 4 "__loader__" (.builtin "builtins.__loader__:shared#opaque"),zV P 5 "__spec__" (.builtin "builtins.__spec__#opaque"),zB P 6 "__build_class__",⟨PyData.keyHash P (Str.mk ⟨[95,95,105,109,112,111,114,116,95,95]⟩),.str (Str.mk ⟨[95,95,105,109,112,111,114,116,95,95]⟩) 7,.builtin ("__imp"++"ort__")⟩,zB P 8 "abs",zB P 9 "all",zB P 10 "any",zB P 11 "ascii",zB P 12 "bin",zB P 13 "breakpoint",zB P 14 "callable"]
noncomputable def YZ(P:Aj):List DictEntry:=[zB P 15 "chr",zB P 16 "compile",zB P 17 "delattr",zB P 18 "dir",zB P 19 "divmod",zB P 20 "eval",zB P 21 "exec",zB P 22 "format",zB P 23 "getattr",zB P 24 "globals",zB P 25 "hasattr",zB P 26 "hash",zB P 27 "hex",zB P 28 "id"]
noncomputable def Y0(P:Aj):List DictEntry:=[zB P 29 "input",zB P 30 "isinstance",zB P 31 "issubclass",zB P 32 "iter",zB P 33 "aiter",zB P 34 "len",zB P 35 "locals",zB P 36 "max",zB P 37 "min",zB P 38 "next",zB P 39 "anext",zB P 40 "oct",zB P 41 "ord",zB P 42 "pow"]
noncomputable def Y1(P:Aj):List DictEntry:=[zB P 43 "print",zB P 44 "repr",zB P 45 "round",zB P 46 "setattr",zB P 47 "sorted",zB P 48 "sum",zB P 49 "vars",zV P 50 "None" (.none),zV P 51 "Ellipsis" (.ellipsis),zV P 52 "NotImplemented" (.notImplemented),zV P 53 "False" (.bool false),zV P 54 "True" (.bool true),zT P 55 "bool",zT P 56 "memoryview"]
noncomputable def Y2(P:Aj):List DictEntry:=[zT P 57 "bytearray",zT P 58 "bytes",zT P 59 "classmethod",zT P 60 "complex",zT P 61 "dict",zT P 62 "enumerate",zT P 63 "filter",zT P 64 "float",zT P 65 "frozenset",zT P 66 "property",zT P 67 "int",zT P 68 "list",zT P 69 "map",zT P 70 "object"]
noncomputable def Y3(P:Aj):List DictEntry:=[zT P 71 "range",zT P 72 "reversed",zT P 73 "set",zT P 74 "slice",zT P 75 "staticmethod",zT P 76 "str",zT P 77 "super",zT P 78 "tuple",zT P 79 "type",zT P 80 "zip",zV P 81 "__debug__" (.bool true),zT P 82 "BaseException",zT P 83 "BaseExceptionGroup",zT P 84 "Exception"]
noncomputable def Y4(P:Aj):List DictEntry:=[zT P 85 "GeneratorExit",zT P 86 "KeyboardInterrupt",zT P 87 "SystemExit",zT P 88 "ArithmeticError",zT P 89 "AssertionError",zT P 90 "AttributeError",zT P 91 "BufferError",zT P 92 "EOFError",zT P 93 "ImportError",zT P 94 "LookupError",zT P 95 "MemoryError",zT P 96 "NameError",zT P 97 "OSError",zT P 98 "ReferenceError"]
noncomputable def Y5(P:Aj):List DictEntry:=[zT P 99 "RuntimeError",zT P 100 "StopAsyncIteration",zT P 101 "StopIteration",zT P 102 "SyntaxError",zT P 103 "SystemError",zT P 104 "TypeError",zT P 105 "ValueError",zT P 106 "Warning",zT P 107 "FloatingPointError",zT P 108 "OverflowError",zT P 109 "ZeroDivisionError",zT P 110 "BytesWarning",zT P 111 "DeprecationWarning",zT P 112 "EncodingWarning"]
noncomputable def Y6(P:Aj):List DictEntry:=[zT P 113 "FutureWarning",zT P 114 "ImportWarning",zT P 115 "PendingDeprecationWarning",zT P 116 "ResourceWarning",zT P 117 "RuntimeWarning",zT P 118 "SyntaxWarning",zT P 119 "UnicodeWarning",zT P 120 "UserWarning",zT P 121 "BlockingIOError",zT P 122 "ChildProcessError",zT P 123 "ConnectionError",zT P 124 "FileExistsError",zT P 125 "FileNotFoundError",zT P 126 "InterruptedError"]
noncomputable def Y7(P:Aj):List DictEntry:=[zT P 127 "IsADirectoryError",zT P 128 "NotADirectoryError",zT P 129 "PermissionError",zT P 130 "ProcessLookupError",zT P 131 "TimeoutError",zT P 132 "IndentationError",zT P 133 "_IncompleteInputError",zT P 134 "IndexError",zT P 135 "KeyError",zT P 136 "ModuleNotFoundError",zT P 137 "NotImplementedError",zT P 138 "PythonFinalizationError",zT P 139 "RecursionError",zT P 140 "UnboundLocalError"]
noncomputable def Y8(P:Aj):List DictEntry:=[zT P 141 "UnicodeError",zT P 142 "BrokenPipeError",zT P 143 "ConnectionAbortedError",zT P 144 "ConnectionRefusedError",zT P 145 "ConnectionResetError",zT P 146 "TabError",zT P 147 "UnicodeDecodeError",zT P 148 "UnicodeEncodeError",zT P 149 "UnicodeTranslateError",zT P 150 "ExceptionGroup",zV P 151 "EnvironmentError" (.type "OSError"),zV P 152 "IOError" (.type "OSError"),zB P 153 "open",zV P 154 "quit" (.builtin "builtins.quit#opaque")]
noncomputable def Y9(P:Aj):List DictEntry:=[zV P 155 "exit" (.builtin "builtins.exit#opaque"),zV P 156 "copyright" (.builtin "builtins.copyright#opaque"),zV P 157 "credits" (.builtin "builtins.credits#opaque"),zV P 158 "license" (.builtin "builtins.license#opaque"),zV P 159 "help" (.builtin "builtins.help#opaque")]
noncomputable def o0(P:Aj):Obj:=⟨.type "dict",none,.dict ⟨YY P++(YZ P++(Y0 P++(Y1 P++(Y2 P++(Y3 P++(Y4 P++(Y5 P++(Y6 P++(Y7 P++(Y8 P++(Y9 P)))))))))))⟩ 159,⟨[]⟩⟩
noncomputable def o1(P:Aj):Obj:=⟨.type "dict",none,.dict ⟨[zV P 162 "builtins" (.ref 4),zV P 163 "__main__" (.ref 5),zV P 285 "_heapq" (.ref 13)]⟩ 3,⟨[]⟩⟩
noncomputable def o2(P:Aj):Obj:=⟨.none,none,.dict ⟨[zS P 186 ⟨[105,109,112,111,114,116,46,108,111,97,100,101,100,46,95,104,101,97,112,113]⟩ (.bool true),zS P 191 ⟨[99,108,97,115,115,46,95,102,114,111,122,101,110,95,105,109,112,111,114,116,108,105,98,95,101,120,116,101,114,110,97,108,46,95,76,111,97,100,101,114,66,97,115,105,99,115]⟩ (.ref 16),zS P 207 ⟨[119,97,116,99,104,101,100,46,105,109,112,111,114,116]⟩ (.ref 20),zS P 208 ⟨[99,108,97,115,115,46,95,102,114,111,122,101,110,95,105,109,112,111,114,116,108,105,98,95,101,120,116,101,114,110,97,108,46,70,105,108,101,76,111,97,100,101,114]⟩ (.ref 22),zS P 229 ⟨[99,108,97,115,115,46,95,102,114,111,122,101,110,95,105,109,112,111,114,116,108,105,98,95,101,120,116,101,114,110,97,108,46,69,120,116,101,110,115,105,111,110,70,105,108,101,76,111,97,100,101,114]⟩ (.ref 27),zS P 257 ⟨[99,108,97,115,115,46,95,102,114,111,122,101,110,95,105,109,112,111,114,116,108,105,98,46,77,111,100,117,108,101,83,112,101,99]⟩ (.ref 33),zV P 286 "sys.modules.booked-epoch" (.int 3 0),zS P 304 ⟨[105,109,112,111,114,116,46,108,97,116,101,114,45,108,97,105,100,46,95,104,101,97,112,113]⟩ (.bool true),zV P 306 "watched.library" (.ref 38),zV P 0 "watched.library-objects" (.str (Str.mk ⟨[13]⟩) 0)]⟩ 10,⟨[]⟩⟩
noncomputable def Za(P:Aj)(r:List DictEntry):List DictEntry:=(zV P 165 "__name__" (.str (Str.ofString "law_oh0120_01") 772))::(zV P 166 "__doc__" .none)::(zV P 167 "__package__" .none)::(zV P 168 "__loader__" (.builtin "__main__.__loader__#opaque"))::(zV P 169 "__spec__" .none)::(zV P 170 "__annotations__" (.ref 6))::(zV P 171 "__builtins__" (.ref 4))::r
noncomputable def Zb(P:Aj)(r:List DictEntry):List DictEntry:=(zV P 173 "__file__" (.str (Str.ofString "/claim/cut.py") 172))::(zV P 174 "__cached__" .none)::(zV P 312 "heapify" (.builtin "_heapq.heapify"))::(zV P 315 "heapreplace" (.builtin "_heapq.heapreplace"))::(zV P 328 "_wall" (.ref 49))::(zV P 387 "_tuplegetter" (.ref 88))::(zV P 515 "Match" (.ref 163))::r
noncomputable def Zc(P:Aj)(r:List DictEntry):List DictEntry:=(zV P 523 "_calculate_ratio" (.ref 173))::(zV P 719 "SequenceMatcher" (.ref 270))::(zV P 727 "nlargest" (.ref 280))::(zV P 738 "get_close_matches" (.ref 286))::(zV P 741 "_initial_missing" (.ref 287))::(zV P 754 "reduce" (.ref 295))::(zV P 771 "sorted_list_difference" (.ref 302))::r
noncomputable def Zd(P:Aj)(r:List DictEntry):List DictEntry:=(zV P 779 "_law_text" (.ref 307))::(zV P 785 "_law_great" (.ref 312))::(zV P 791 "_law_code" (.ref 317))::(zV P 797 "_law_flips" (.ref 322))::(zV P 803 "_law_turned" (.ref 327))::(zV P 809 "law" (.ref 332))::r
noncomputable def o3(P:Aj):Obj:=⟨.type "dict",none,.dict ⟨Za P (Zb P (Zc P (Zd P [])))⟩ 27,⟨[]⟩⟩
noncomputable def o4(P:Aj):Obj:=⟨.type "module",some 0,.plain,⟨[]⟩⟩
noncomputable def Ze(P:Aj):Obj:=zK "__new__" "Match.__new__" 409 30 4 0 0 3 104 true 316 105 .none (.ref 106) (.ref 107) 108 416 30 417
noncomputable def Zf(P:Aj):Obj:=zF "__new__" "Match.__new__" (mem 4 4) (m4 4) .none .none (.str (Str.ofString "Create new instance of Match(a, b, size)") 418) (.str (Str.ofString "cpy313.difflib") 329) 109
noncomputable def Zg(P:Aj):Obj:=zK "_make" "Match._make" 420 34 2 0 0 3 111 true 316 112 .none (.ref 113) (.ref 114) 115 426 34 427
noncomputable def Zh(P:Aj):Obj:=⟨.type "function",none,.func (PySem.FuncData.mk (Str.ofString "_make") (Str.ofString "Match._make") (SK (mem 4 5)) (.stmts (AO (m4 5))) (EM (m4 5)) 3 [] .none .none (.str (Str.ofString "Make a new Match object from a sequence or iterable") 428) (.str (Str.ofString "cpy313.difflib") 329) (some 120) (.ref 116) .none 0),⟨[]⟩⟩
noncomputable def Zi(P:Aj):Obj:=⟨.type "classmethod",some 118,.fields ⟨[.ref 117,.bool false]⟩,⟨[]⟩⟩
noncomputable def Zj(P:Aj)(r:List DictEntry):List DictEntry:=(zV P 395 "__module__" (.str (Str.ofString "cpy313.difflib") 329))::(zV P 399 "__firstlineno__" (.int 24 398))::(zV P 401 "__doc__" (.str (Str.ofString "Match(a, b, size)") 400))::(zV P 403 "__slots__" (.ref 101))::(zV P 407 "_fields" (.ref 102))::(zV P 408 "_field_defaults" (.ref 103))::(zV P 419 "__new__" (.ref 164))::r
noncomputable def Zk(P:Aj)(r:List DictEntry):List DictEntry:=(zV P 441 "_make" (.ref 119))::(zV P 452 "_replace" (.ref 128))::(zV P 453 "__replace__" (.ref 128))::(zV P 461 "__repr__" (.ref 135))::(zV P 468 "_asdict" (.ref 142))::(zV P 476 "__getnewargs__" (.ref 149))::(zV P 480 "__match_args__" (.ref 150))::r
noncomputable def Zl(P:Aj)(r:List DictEntry):List DictEntry:=(zV P 490 "a" (.ref 152))::(zV P 500 "b" (.ref 155))::(zV P 510 "size" (.ref 158))::(zV P 511 "__static_attributes__" (.ref 160))::r
noncomputable def NL(P:Aj):Obj:=⟨.type "dict",none,.dict ⟨Zj P (Zk P (Zl P []))⟩ 2,⟨[]⟩⟩
noncomputable def NM(P:Aj):Obj:=⟨.type "type",none,.cls (PySem.ClassData.mk (Str.ofString "Match") [.type "tuple"] [.ref 163,.type "tuple",.type "object"] 162 (Str.ofString "Match") false [] [] false none false),⟨[some (.ref 93),none,some (.str (Str.ofString "Match") 388),some (.str (Str.ofString "Match") 396),some .none,some (.bool false)]⟩⟩
noncomputable def Zm(P:Aj):Obj:=⟨.type "staticmethod",none,.fields ⟨[.ref 110]⟩,⟨[]⟩⟩
noncomputable def Zn(P:Aj):Obj:=zK "_calculate_ratio" "_calculate_ratio" 516 67 2 0 0 3 167 true 316 168 .none (.ref 169) (.ref 170) 171 521 67 522
noncomputable def Zo(P:Aj):Obj:=zF "_calculate_ratio" "_calculate_ratio" (top 5) (tp 5) .none .none .none (.str (Str.ofString "cpy313.difflib") 329) 172
noncomputable def Zp(P:Aj):Obj:=⟨.type "tuple",none,.seq ⟨[.none,.str (Str.ofString "") 539,.str (Str.ofString "") 540,.bool true]⟩ 0,⟨[]⟩⟩
noncomputable def Zq(P:Aj):Obj:=zK "__init__" "SequenceMatcher.__init__" 541 146 5 0 0 3 182 true 316 183 .none (.ref 184) (.ref 185) 186 549 146 550
noncomputable def Zr(P:Aj):Obj:=zF "__init__" "SequenceMatcher.__init__" (mem 6 1) (mm 1) (.ref 181) .none (.str (Fq (mm 1)) 551) (.str (Str.ofString "cpy313.difflib") 329) 187
noncomputable def Zs(P:Aj):Obj:=zK "set_seqs" "SequenceMatcher.set_seqs" 553 174 3 0 0 3 189 true 316 190 .none (.ref 191) (.ref 192) 193 559 174 560
noncomputable def Zt(P:Aj):Obj:=zF "set_seqs" "SequenceMatcher.set_seqs" (mem 6 2) (mm 2) .none .none (.str (Fq (mm 2)) 561) (.str (Str.ofString "cpy313.difflib") 329) 194
noncomputable def Zu(P:Aj):Obj:=zK "set_seq1" "SequenceMatcher.set_seq1" 563 185 2 0 0 3 196 true 316 197 .none (.ref 198) (.ref 199) 200 568 185 569
noncomputable def Zv(P:Aj):Obj:=zF "set_seq1" "SequenceMatcher.set_seq1" (mem 6 3) (mm 3) .none .none (.str (Fq (mm 3)) 570) (.str (Str.ofString "cpy313.difflib") 329) 201
noncomputable def Zw(P:Aj):Obj:=zK "set_seq2" "SequenceMatcher.set_seq2" 572 210 2 0 0 3 203 true 316 204 .none (.ref 205) (.ref 206) 207 577 210 578
noncomputable def Zx(P:Aj):Obj:=zF "set_seq2" "SequenceMatcher.set_seq2" (mem 6 4) (mm 4) .none .none (.str (Fq (mm 4)) 579) (.str (Str.ofString "cpy313.difflib") 329) 208
noncomputable def Zy(P:Aj):Obj:=zK "__chain_b" "SequenceMatcher.__chain_b" 581 237 1 0 0 3 210 true 316 211 .none (.ref 212) (.ref 213) 214 596 237 597
noncomputable def Zz(P:Aj):Obj:=zF "__chain_b" "SequenceMatcher.__chain_b" (mem 6 5) (mm 5) .none .none .none (.str (Str.ofString "cpy313.difflib") 329) 215
noncomputable def ZB(P:Aj):Obj:=⟨.type "tuple",none,.seq ⟨[.int 0 599,.none,.int 0 600,.none]⟩ 0,⟨[]⟩⟩
noncomputable def ZC(P:Aj):Obj:=zK "find_longest_match" "SequenceMatcher.find_longest_match" 601 261 5 0 0 3 218 true 316 219 .none (.ref 220) (.ref 221) 222 623 261 624
noncomputable def ZD(P:Aj):Obj:=zF "find_longest_match" "SequenceMatcher.find_longest_match" (mem 6 6) (mm 6) (.ref 217) .none (.str (Fq (mm 6)) 625) (.str (Str.ofString "cpy313.difflib") 329) 223
noncomputable def ZE(P:Aj):Obj:=zK "get_matching_blocks" "SequenceMatcher.get_matching_blocks" 627 336 1 0 0 3 225 true 316 226 .none (.ref 227) (.ref 228) 229 650 336 651
noncomputable def ZF(P:Aj):Obj:=zF "get_matching_blocks" "SequenceMatcher.get_matching_blocks" (mem 6 7) (mm 7) .none .none (.str (Fq (mm 7)) 652) (.str (Str.ofString "cpy313.difflib") 329) 230
noncomputable def SM(P:Aj):Obj:=zK "ratio" "SequenceMatcher.ratio" 670 390 1 0 0 3 247 true 316 248 .none (.ref 249) (.ref 250) 251 675 390 676
noncomputable def ZG(P:Aj):Obj:=zF "ratio" "SequenceMatcher.ratio" (mem 6 10) (mm 10) .none .none (.str (Fq (mm 10)) 677) (.str (Str.ofString "cpy313.difflib") 329) 252
noncomputable def ZH(P:Aj):Obj:=zK "quick_ratio" "SequenceMatcher.quick_ratio" 679 414 1 0 0 3 254 true 316 255 .none (.ref 256) (.ref 257) 258 689 414 690
noncomputable def ZJ(P:Aj):Obj:=zF "quick_ratio" "SequenceMatcher.quick_ratio" (mem 6 11) (mm 11) .none .none (.str (Fq (mm 11)) 691) (.str (Str.ofString "cpy313.difflib") 329) 259
noncomputable def ZK(P:Aj):Obj:=zK "real_quick_ratio" "SequenceMatcher.real_quick_ratio" 693 437 1 0 0 3 261 true 316 262 .none (.ref 263) (.ref 264) 265 699 437 700
noncomputable def ZL(P:Aj):Obj:=zF "real_quick_ratio" "SequenceMatcher.real_quick_ratio" (mem 6 12) (mm 12) .none .none (.str (Fq (mm 12)) 701) (.str (Str.ofString "cpy313.difflib") 329) 266
noncomputable def ZM(P:Aj)(r:List DictEntry):List DictEntry:=(zV P 531 "__module__" (.str (Str.ofString "cpy313.difflib") 329))::(zV P 535 "__firstlineno__" (.int 71 534))::(zV P 537 "__doc__" (.str (Fq (top 6)) 536))::(zV P 552 "__init__" (.ref 188))::(zV P 562 "set_seqs" (.ref 195))::(zV P 571 "set_seq1" (.ref 202))::(zV P 580 "set_seq2" (.ref 209))::r
noncomputable def ZO(P:Aj)(r:List DictEntry):List DictEntry:=(zV P 598 "_SequenceMatcher__chain_b" (.ref 216))::(zV P 626 "find_longest_match" (.ref 224))::(zV P 653 "get_matching_blocks" (.ref 231))::(zV P 660 "get_opcodes" (.ref 238))::(zV P 669 "get_grouped_opcodes" (.ref 246))::(zV P 678 "ratio" (.ref 253))::(zV P 692 "quick_ratio" (.ref 260))::r
noncomputable def ZP(P:Aj)(r:List DictEntry):List DictEntry:=(zV P 702 "real_quick_ratio" (.ref 267))::(zV P 713 "__static_attributes__" (.ref 268))::(zV P 715 "__dict__" (.ref 271))::(zV P 717 "__weakref__" (.ref 272))::r
noncomputable def ZQ(P:Aj):Obj:=⟨.type "dict",none,.dict ⟨ZM P (ZO P (ZP P []))⟩ 3,⟨[]⟩⟩
noncomputable def ZR(P:Aj):Obj:=⟨.type "type",none,.cls (PySem.ClassData.mk (Str.ofString "SequenceMatcher") [.type "object"] [.ref 270,.type "object"] 269 (Str.ofString "SequenceMatcher") true [] [] false none false),⟨[none,none,some (.str (Str.ofString "SequenceMatcher") 524),some (.str (Str.ofString "SequenceMatcher") 532),some (.builtin "object.__new__"),some (.bool true)]⟩⟩
noncomputable def ZS(P:Aj):Obj:=⟨.type "tuple",none,.seq ⟨[.none]⟩ 0,⟨[]⟩⟩
noncomputable def ZU(P:Aj):Obj:=zK "nlargest" "nlargest" 722 446 3 0 0 3 276 true 316 277 .none .none .none 278 725 446 726
noncomputable def ZV(P:Aj):Obj:=zF "nlargest" "nlargest" (top 8) (tp 8) (.ref 275) .none .none (.str (Str.ofString "heapq") 720) 279
noncomputable def ZW(P:Aj):Obj:=⟨.type "tuple",none,.seq ⟨[.int 3 730,.float 4603579539098121011 731]⟩ 0,⟨[]⟩⟩
noncomputable def ZX(P:Aj):Obj:=zK "get_close_matches" "get_close_matches" 732 492 4 0 0 3 282 true 316 283 .none .none .none 284 735 492 736
noncomputable def ZY(P:Aj):Obj:=zF "get_close_matches" "get_close_matches" (top 10) (tp 10) (.ref 281) .none (.str (Fq (tp 10)) 737) (.str (Str.ofString "cpy313.difflib") 728) 285
noncomputable def ZZ(P:Aj):Obj:=⟨.type "tuple",none,.seq ⟨[.ref 287]⟩ 0,⟨[]⟩⟩
noncomputable def Z0(P:Aj):Obj:=zK "reduce" "reduce" 742 535 3 0 0 3 289 true 316 290 .none (.ref 291) (.ref 292) 293 751 535 752
noncomputable def Z1(P:Aj):Obj:=zF "reduce" "reduce" (top 13) (tp 13) (.ref 288) .none (.str (Fq (tp 13)) 753) (.str (Str.ofString "cpy313.functools") 739) 294
noncomputable def Z3(P:Aj):Obj:=zK "sorted_list_difference" "sorted_list_difference" 757 560 2 0 0 3 296 true 316 297 .none (.ref 298) (.ref 299) 300 768 560 769
noncomputable def Z4(P:Aj):Obj:=zF "sorted_list_difference" "sorted_list_difference" (top 15) (tp 15) .none .none (.str (Fq (tp 15)) 770) (.str (Str.ofString "cpy313.unittest.util") 755) 301
noncomputable def Z5(P:Aj):Obj:=zK "_law_text" "_law_text" 774 600 1 0 0 3 303 true 316 304 .none .none .none 305 777 600 778
noncomputable def Z6(P:Aj):Obj:=zF "_law_text" "_law_text" (top 17) (tp 17) .none .none .none (.str (Str.ofString "law_oh0120_01") 772) 306
noncomputable def Z7(P:Aj):Obj:=zK "_law_great" "_law_great" 780 602 1 0 0 3 308 true 316 309 .none .none .none 310 783 602 784
noncomputable def Z8(P:Aj):Obj:=zF "_law_great" "_law_great" (top 18) (tp 18) .none .none .none (.str (Str.ofString "law_oh0120_01") 772) 311
noncomputable def Z9(P:Aj):Obj:=zK "_law_code" "_law_code" 786 604 0 0 0 3 313 true 316 314 .none .none .none 315 789 604 790
noncomputable def zA(P:Aj):Obj:=zF "_law_code" "_law_code" (top 19) (tp 19) .none .none .none (.str (Str.ofString "law_oh0120_01") 772) 316
noncomputable def zC(P:Aj):Obj:=zK "_law_flips" "_law_flips" 792 612 2 0 0 3 318 true 316 319 .none .none .none 320 795 612 796
noncomputable def zD(P:Aj):Obj:=zF "_law_flips" "_law_flips" (top 20) (tp 20) .none .none .none (.str (Str.ofString "law_oh0120_01") 772) 321
noncomputable def zE(P:Aj):Obj:=zK "_law_turned" "_law_turned" 798 619 2 0 0 3 323 true 316 324 .none .none .none 325 801 619 802
noncomputable def zH(P:Aj):Obj:=zF "_law_turned" "_law_turned" (top 21) (tp 21) .none .none .none (.str (Str.ofString "law_oh0120_01") 772) 326
noncomputable def SN(P:Aj):Obj:=zK "law" "law" 804 621 1 0 0 3 328 true 316 329 .none .none .none 330 807 621 808
noncomputable def zJ(P:Aj):Obj:=zF "law" "law" (top 22) (tp 22) .none .none .none (.str (Str.ofString "law_oh0120_01") 772) 331
noncomputable def PF(P:Aj):Obj:=⟨.none,none,.fields ⟨[]⟩,⟨[]⟩⟩
noncomputable def PG(P:Aj):Obj:=⟨.none,none,.fields ⟨[]⟩,⟨[]⟩⟩
noncomputable def zL(P:Aj)(r:List (Addr×Obj)):List (Addr×Obj):=(0,o0 P)::(1,o1 P)::(2,o2 P)::(3,o3 P)::(4,o4 P)::(109,Ze P)::(110,Zf P)::(116,Zg P)::(117,Zh P)::(119,Zi P)::(162,NL P)::r
noncomputable def zM(P:Aj)(r:List (Addr×Obj)):List (Addr×Obj):=(163,NM P)::(164,Zm P)::(172,Zn P)::(173,Zo P)::(181,Zp P)::(187,Zq P)::(188,Zr P)::(194,Zs P)::(195,Zt P)::(201,Zu P)::(202,Zv P)::r
noncomputable def zN(P:Aj)(r:List (Addr×Obj)):List (Addr×Obj):=(208,Zw P)::(209,Zx P)::(215,Zy P)::(216,Zz P)::(217,ZB P)::(223,ZC P)::(224,ZD P)::(230,ZE P)::(231,ZF P)::(248,PF P)::(252,SM P)::r
noncomputable def zO(P:Aj)(r:List (Addr×Obj)):List (Addr×Obj):=(253,ZG P)::(259,ZH P)::(260,ZJ P)::(266,ZK P)::(267,ZL P)::(269,ZQ P)::(270,ZR P)::(275,ZS P)::(279,ZU P)::(280,ZV P)::(281,ZW P)::r
noncomputable def zP(P:Aj)(r:List (Addr×Obj)):List (Addr×Obj):=(285,ZX P)::(286,ZY P)::(288,ZZ P)::(294,Z0 P)::(295,Z1 P)::(301,Z3 P)::(302,Z4 P)::(306,Z5 P)::(307,Z6 P)::(311,Z7 P)::(312,Z8 P)::r
noncomputable def zQ(P:Aj)(r:List (Addr×Obj)):List (Addr×Obj):=(316,Z9 P)::(317,zA P)::(321,zC P)::(322,zD P)::(326,zE P)::(327,zH P)::(329,PG P)::(331,SN P)::(332,zJ P)::r
noncomputable def frag(P:Aj):Frag:=zL P (zM P (zN P (zO P (zP P (zQ P [])))))
noncomputable def Jp:List Addr:=[0,1,2,3,4,109,110,116,117,119,162,163,164,172,173,181,187,188,194,195,201,202,208,209,215,216,217,223,224,230,231,248,252,253,259,260,266,267,269,270,275,279,280,281,285,286,288,294,295,301,302,306,307,311,312,316,317,321,322,326,327,329,331,332]
noncomputable def q:Program:=view pw [0,22]
noncomputable def It:List Str:=["_wall","_tuplegetter","Match","_calculate_ratio","SequenceMatcher","nlargest","get_close_matches","_initial_missing","reduce","sorted_list_difference","_law_text","_law_great","_law_code","_law_flips","_law_turned"]
noncomputable def Xt(s:Ab):Bool:=xlAt q [] s&&recOk [] s
noncomputable def lhs(b:Builtin)(w:Aa):=(LC (NK b) pw w 5034).map (λs=>openSeen q It (importedModules pw.main.body) Xt true s)
noncomputable def rhs(w:Aa):=some (openGood q It)
noncomputable def lhs2(b:Builtin)(w:Aa):=(LC (NK b) pw w 5034).map (λs=>obsZ Jp s)
noncomputable def rhs2(w:Aa):=some (valZ frag 333 810 w)
lay_quick lhs rhs lhs2 rhs2
theorem key: ∀w,tw14720033549999066060 tw4202317264376624991 w=tw1938990355778164159 w:=by
 delta tw4202317264376624991;rw[←SC];intro w;kernel_rfl
theorem key2: ∀w,tw4616964263069932676 tw4202317264376624991 w=some (valZ tw11500880152897323899 333 810 w):=by
 delta tw4202317264376624991;rw[←SC];intro w;kernel_rfl
theorem left:LeftO pw q It Xt (obsZ Jp) (valZ frag 333 810) 5034:=by
 intro w;have k:lhs Builtin.«type.__new__» w=rhs w:=by
  have d:=Ai (Ai te14720033549999066060 Builtin.«type.__new__») w;have e:=Ai te1938990355778164159 w;rw[d,e,te4202317264376624991];exact key w
 have c:lhs2 Builtin.«type.__new__» w=some (valZ frag 333 810 w):=by
  have d:=Ai (Ai te4616964263069932676 Builtin.«type.__new__») w;rw[d,te4202317264376624991,te11500880152897323899];exact key2 w
 unfold lhs rhs at k;unfold lhs2 at c;rw[←XO]at k c;cases h:LC treeTable pw w 5034 with
 |none=>rw[h]at k;cases k
 |some s=>
  rw[h]at k c;rw[XR h];have a:=FH k;have b:=FH c;refine (?_:some (_,_)=some (_,_));rw[←a,←b]
theorem zR:LeftO PySem.Challenge.pw_oh0120_01 q It Xt (obsZ Jp) (valZ frag 333 810) 5034:=by
 rw[PE];exact left
noncomputable def SO(p:Program):OpenLaw:={prog:=p,name:=Str.ofString "law",about:=[Str.ofString "get_close_matches"],foot:=6,most:=some 63,bound:=none,writes:=false}
noncomputable def said:Bool:=(SO pw).wellSaid
lay_quick said
theorem zU:PySem.Challenge.rw_oh0120_01.wellSaid=true:=by
 show(SO PySem.Challenge.pw_oh0120_01).wellSaid=true;rw[PE];exact te393242166362349930.trans (by kernel_rfl)
theorem main(walk: ∀d a,defOf q (Str.ofString "law")=some (d,a)→WalkX q It (XL q []) (obsZ Jp) (valZ frag 333 810) PySem.Challenge.rw_oh0120_01.row.toRowW d a λf b=>PySem.call f b):PySem.Challenge.rw_oh0120_01.Holds:=by
 refine holds_law zU λsaid=> ?_;refine holds_openX (q:=q) (loose:=It) (Xt:=Xt) (XP:=XL q []) (Yf:=obsZ Jp) (Ya:=valZ frag 333 810) (N:=5034) zR (λs e=>xl_of s (Bool.and_eq_true_iff.mp e).1) XL.keeps (by rfl) (by rfl) (by rfl) (λs e=>recFacts_of (Bool.and_eq_true_iff.mp e).2) (by rfl) (by first|assumption|decide+kernel) (by decide+kernel) ⟨rfl,rfl,rfl,rfl,rfl,by decide+kernel⟩ ?hw ?hc
 case hw=>w_witness2
 case hc=>exact walk _ _ (by rfl)
section
noncomputable abbrev Ae:Type:=List (Addr×Obj)
noncomputable abbrev Aw:Type:=Nat→Nat
inductive EN where
 |addr (a:Nat)
 |code (c:Code)
 |led (l:Ae)
 |val (v:Option Value)
 |tree (t:Sem Fin)
structure Ak where
 d:Nat
 u:Nat
 h:Option Value
 c:Code
 idx:List Nat
 pre:Ae
 na:Nat
 nt:Nat
 no:Nat:=0
 r:List Nat→List Nat→Result
 outs:List Nat→List Nat→List Obj→List Obj
 news:List Nat→List Nat→List Obj→List Obj
 rx:List Obj→Result→Result:=λ_ r=>r
 gn:Option (Nat×Code):=none
inductive Jq where
 |free
 |wait (g:Nat) (c:Code)
 |quiet
noncomputable def PH:Jq→Bool
 | .quiet=>true
 |_=>false
structure Kf where
 c:Code
 hd:Option Value
 k:Result→Sem Fin
 d:Nat
 u:Nat
noncomputable abbrev Wd:Type:=Nat×(List Nat→List Nat→List Obj→Value×Value)
structure St where
 cur:Sem Fin
 c:Code
 fs:List Kf
 L:Ae
 as:List Nat
 ts:List Nat
 gh:List Obj
 H:List Nat
 E:List (Nat×(List Nat→List Nat→List Obj→Ak))
 W:List Wd
 ag:Nat
 d:Nat
 u:Nat
 gn:Jq
inductive Dw where
 |done (f:Flow)
 |err (e:Value)
 |again (c:Code)
 |bad (n:Nat)
structure Bx where
 e:Dw
 L:Ae
 ts:List Nat
 ask:List EN
 say:List EN
noncomputable def Ey:Ae→Nat→Obj→Ae
 |[],_,_=>[]
 |p::l,0,o=>(p.1,o)::l
 |p::l,i+1,o=>p::Ey l i o
noncomputable def DM:Ae→Nat→Option (Addr×Obj)
 |[],_=>none
 |p::_,0=>some p
 |_::l,i+1=>DM l i
noncomputable def pick(L:Ae):List Nat→Option Ae
 |[]=>some []
 |i::is=>match DM L i with
  |none=>none
  |some p=>match pick L is with
   |none=>none
   |some l=>some (p::l)
noncomputable def put:Ae→List Nat→List Obj→Ae
 |L,i::a,o::os=>put (Ey L i o) a os
 |L,_,_=>L
noncomputable def BI:List Nat→List Obj→Ae
 |a::b,o::os=>(a,o)::BI b os
 |_,_=>[]
noncomputable def Dm(a:Aw):Nat→List Nat
 |0=>[]
 |n+1=>a 0::Dm (λi=>a (i+1)) n
noncomputable def PI(a:Aw)(n:Nat):Aw:=λi=>a (i+n)
noncomputable abbrev AU:Type:=Nat→Obj
noncomputable def Jr(a:AU):Nat→List Obj
 |0=>[]
 |n+1=>a 0::Jr (λi=>a (i+1)) n
noncomputable def SP(a:AU)(n:Nat):AU:=λi=>a (i+n)
noncomputable def SQ:Option (Nat×Code)→Nat→Nat→Bool
 |none,a,b=>Nat.beq a b
 |some _,_,_=>true
noncomputable def DN:List Nat→Nat→Bool
 |[],_=>false
 |j::a,i=>match Nat.beq j i with
  |true=>true
  |false=>DN a i
noncomputable def DD:Ae→Nat→List Nat→Ae
 |[],_,_=>[]
 |p::l,i,a=>match DN a i with
  |true=>DD l (i+1) a
  |false=>p::DD l (i+1) a
noncomputable def Bk:Ae→List Obj→Ae
 |p::l,o::os=>(p.1,o)::Bk l os
 |_,_=>[]
noncomputable def Iu:List Kf→Option Value
 |[]=>none
 |f::a=>match f.hd with
  |some v=>some v
  |none=>Iu a
noncomputable def SR(a:Option Value):Bool:=match a with
 |none=>true
 |some v=> !decide (v=byPass)
noncomputable def PJ(a b:Option Value):Option Value:=match a with
 |some v=>some v
 |none=>b
noncomputable def BS:List Nat→Bool
 |[]=>true
 |i::a=>match a.all (λj=> !Nat.beq i j)with
  |true=>BS a
  |false=>false
section
variable (den:Code→Sem Fin)(rooms:List (Code→Sem Unit))(its:List Value)(S S1 S2:Setting)(kt:KT)
noncomputable def skip:Nat→Sem Fin→Sem Fin
 |0,t=>t
 |n+1,t=>match t with
  | .load a _ k=>match kt.get a with
   |some o=>skip n (k o)
   |none=>t
  |t=>t
noncomputable def PK:List (Code→Sem Unit)→Nat→Option (Code→Sem Unit)
 |[],_=>none
 |r::_,0=>some r
 |_::l,n+1=>PK l n
noncomputable def NN:List Value→Nat→Option Value
 |[],_=>none
 |r::_,0=>some r
 |_::l,n+1=>NN l n
noncomputable def Iv(e:Expr)(n:Nat):Bool:=match e with
 | .ListComp _ a _ _=>match nthC a n with
  |some g=>g.is_async==0
  |none=>false
 |_=>false
where nthC:List Comprehension→Nat→Option Comprehension
 |[],_=>none
 |g::_,0=>some g
 |_::l,n+1=>nthC l n
noncomputable def bad(n:Nat)(st:St):Bx:=⟨.bad n,st.L,st.ts,[],[]⟩
noncomputable def chk(x y:EN)(o:Bx):Bx:=⟨o.e,o.L,o.ts,x::o.ask,y::o.say⟩
noncomputable def Iw{a:Type _}(n:Nat)(st:St)(x:Option a)(f:a→Bx):Bx:=match x with
 |none=>bad n st
 |some o=>f o
noncomputable def Gd(n:Nat)(st:St)(b:Bool)(o:Bx):Bx:=match b with
 |false=>bad n st
 |true=>o
noncomputable def Hs(n:Nat)(st:St)(l:List Nat)(f:Nat→List Nat→Bx):Bx:=match l with
 |[]=>bad n st
 |i::H=>f i H
section
variable (ih:Aw→Aw→AU→St→Bx)(α τ:Aw)(ω:AU)(st:St)
noncomputable def SS(v:Value)(g:Kf)(a:List Kf):List Wd→Bx
 |[]=>ih α τ ω {st with cur:=g.k (.ok (.ret v)),c:=g.c,fs:=a,W:=[],d:=g.d,u:=g.u}
 |q::W=>match q.1 with
  |m+1=>ih α τ ω {st with cur:=g.k (.ok (.ret v)),c:=g.c,fs:=a,W:=(m,q.2)::W,d:=g.d,u:=g.u}
  |0=>chk (.val (some v)) (.val (some (q.2 st.as st.ts st.gh).1)) (ih α τ ω {st with cur:=g.k (.ok (.ret (q.2 st.as st.ts st.gh).2)),c:=g.c,fs:=a,W:=W,d:=g.d,u:=g.u})
noncomputable def ST(f:Flow):List Kf→Bx
 |[]=>⟨.done f,st.L,st.ts,[],[]⟩
 |g::a=>match f with
  | .ret v=>SS ih α τ ω st v g a st.W
  |f=>ih α τ ω {st with cur:=g.k (.ok f),c:=g.c,fs:=a,d:=g.d,u:=g.u}
noncomputable def SU(a:Code):List Kf→Nat→Bx
 |[],0=>⟨.again a,st.L,st.ts,[],[]⟩
 |[],b+1=>ih α τ ω {st with cur:=den a,c:=a,fs:=[],ag:=b}
 |f::d,b=>ih α τ ω {st with cur:=den a,c:=a,fs:=f::d,ag:=b}
noncomputable def SV(e:Value):List Kf→Bx
 |[]=>⟨.err e,st.L,st.ts,[],[]⟩
 |g::a=>ih α τ ω {st with cur:=g.k (.error e),c:=g.c,fs:=a,d:=g.d,u:=g.u}
noncomputable def SW(k:Setting→Sem Fin)(i:Nat)(H:List Nat):Bx:=match i with
 |0=>ih α τ ω {st with cur:=k S,H:=H}
 |_+1=>chk (.tree (k S1)) (.tree (k S2)) (ih α τ ω {st with cur:=k S1,H:=H})
noncomputable def PL(a:Addr)(k:Obj→Sem Fin)(i:Nat)(H:List Nat):Bx:=match i with
 |0=>Iw 3 st (kt.get a) λo=>ih α τ ω {st with cur:=k o,H:=H}
 |i+1=>Iw 4 st (DM st.L i) λp=>chk (.addr a) (.addr p.1) (ih α τ ω {st with cur:=k p.2,H:=H})
noncomputable def SX(a:Addr)(f:Obj→Obj)(k:Sem Fin)(i:Nat)(H:List Nat):Bx:=match i with
 |0=>bad 6 st
 |i+1=>Iw 7 st (DM st.L i) λp=>Gd 8 st (!(f p.2).isFreed) (chk (.addr a) (.addr p.1) (ih α τ ω {st with cur:=k,H:=H,L:=Ey st.L i (f p.2)}))
noncomputable def SY(a:Code)(k:Nat→Sem Fin):Jq→Bx
 | .free=>ih (λi=>α (i+1)) τ ω {st with cur:=k (α 0),as:=st.as++[α 0],gn:=.wait (α 0) a}
 |_=>bad 24 st
noncomputable def NO(b:Option Value)(k:Result→Sem Fin)(a:Code)(H:List Nat)(E:List (Nat×(List Nat→List Nat→List Obj→Ak))):Bx:=ih α τ ω {st with cur:=den a,c:=a,fs:=⟨st.c,b,k,st.d,st.u⟩::st.fs,H:=H,E:=E,d:=st.d+st.c.weight,u:=st.u+st.c.cUnits}
noncomputable def SZ(d:Option Value)(k:Result→Sem Fin)(E:List (Nat×(List Nat→List Nat→List Obj→Ak)))(e:Expr)(n:Nat)(c a:Value)(b:Env)(i:Nat)(H:List Nat):Bx:=match i with
 |0=>NO den ih α τ ω st d k (.compStart e n c a b) H E
 |i+1=>Hs 20 st H λj H=>Iw 21 st (DM st.L i) λp=>Iw 22 st (NN its j) λT=>Gd 23 st (Iv e n) (chk (.val (some c)) (.val (some (.ref p.1))) (chk (.val (some p.2.cls)) (.val (some T)) (NO den ih α τ ω st d k (.compLoop e n c a b) H E)))
noncomputable def PM(b:Option Value)(k:Result→Sem Fin)(a:Code)(E:List (Nat×(List Nat→List Nat→List Obj→Ak))):Bx:=match a with
 | .compStart e n g c d=>Hs 19 st st.H (SZ den its ih α τ ω st b k E e n g c d)
 |a=>NO den ih α τ ω st b k a st.H E
noncomputable def LG(d:Option Value)(k:Result→Sem Fin)(g:Code)(e:Ak)(E:List (Nat×(List Nat→List Nat→List Obj→Ak)))(b:Ae)(a t:List Nat)(o:List Obj):Option (Nat×Code)→Jq→Bx
 |none,c=>Gd 26 st (!PH c) (chk (.code g) (.code e.c) (chk (.led b) (.led e.pre) (chk (.val (PJ d (Iu st.fs))) (.val e.h)
  (ih α τ ω {st with cur:=k (e.rx o (e.r a t)),L:=put st.L e.idx (e.outs a t o)++BI a (e.news a t o),as:=st.as++a,ts:=st.ts++t,gh:=st.gh++o,E:=E,gn:=c}))))
 |some x,.wait h i=>chk (.addr h) (.addr x.1) (chk (.code i) (.code x.2) (chk (.code g) (.code e.c) (chk (.led b) (.led e.pre) (chk (.val (PJ d (Iu st.fs))) (.val e.h)
  (ih α τ ω {st with cur:=k (e.rx o (e.r a t)),L:=(Bk b (e.outs a t o)++BI a (e.news a t o))++DD st.L 0 e.idx,as:=st.as++a,ts:=st.ts++t,gh:=st.gh++o,E:=E,gn:=.free})))))
 |some _,_=>bad 25 st
noncomputable def Ix(st:St)(e:Ak)(a t:List Nat)(o:List Obj):Bool:=Nat.ble (st.d+st.c.weight) e.d&&Nat.ble (st.u+st.c.cUnits) e.u&&BS e.idx&&SQ e.gn (e.outs a t o).length e.idx.length&&Nat.beq (e.news a t o).length e.na
noncomputable def PN(b:Option Value)(k:Result→Sem Fin)(c:Code)(e:Ak)(E:List (Nat×(List Nat→List Nat→List Obj→Ak)))(a:Ae):Bx:=
 Gd 13 st (Ix st e (Dm α e.na) (Dm τ e.nt) (Jr ω e.no)) (LG ih (PI α e.na) (PI τ e.nt) (SP ω e.no) st b k c e E a (Dm α e.na) (Dm τ e.nt) (Jr ω e.no) e.gn st.gn)
noncomputable def S9(a:Option Value)(k:Result→Sem Fin)(b:Code):List (Nat×(List Nat→List Nat→List Obj→Ak))→Bx
 |[]=>PM den its ih α τ ω st a k b []
 |q::E=>match q.1 with
  |m+1=>PM den its ih α τ ω st a k b ((m,q.2)::E)
  |0=>Iw 12 st (pick st.L (q.2 st.as st.ts st.gh).idx) (PN ih α τ ω st a k b (q.2 st.as st.ts st.gh) E)
noncomputable def Ta(k:List (Code×Pos)→Sem Fin)(i:Nat)(H:List Nat):Bx:=Hs 17 st H λm H=>Iw 15 st (PK rooms i) λr=>Gd 16 st (Nat.blt (st.d+st.c.weight) 1000&&Nat.blt (st.u+st.c.cUnits) 9900)
 (chk (.tree (.stack k)) (.tree (PySem.W.R.bindR (r st.c) λ_=>skip kt m (k []))) (ih α τ ω {st with cur:=skip kt m (k []),H:=H}))
noncomputable def Tb(b:Sem Fin):Bx:=match b with
  | .pure fin=>match fin with
   | .done f=>ST ih α τ ω st f st.fs
   | .again c=>Gd 1 st c.quiet (SU den ih α τ ω st c st.fs st.ag)
  | .raise e=>SV ih α τ ω st e st.fs
  | .rule _ k=>ih α τ ω {st with cur:=k ()}
  | .at _ k=>ih α τ ω {st with cur:=k ()}
  | .point _ k=>ih α τ ω {st with cur:=k ()}
  | .ask k=>Hs 18 st st.H (SW S S1 S2 ih α τ ω st k)
  | .load a _ k=>Hs 2 st st.H (PL kt ih α τ ω st a k)
  | .loadIfAlive a k=>Hs 2 st st.H (PL kt ih α τ ω st a λo=>k (some o))
  | .update a _ f k=>Hs 5 st st.H (SX ih α τ ω st a f (k ()))
  | .alloc o k=>Gd 9 st (!o.isFreed) (ih (λi=>α (i+1)) τ ω {st with cur:=k (α 0),L:=st.L++[(α 0,o)],as:=st.as++[α 0]})
  | .newGen c k=>SY ih α τ ω st c k st.gn
  | .fresh k=>ih α (λi=>τ (i+1)) ω {st with cur:=k (τ 0),ts:=st.ts++[τ 0]}
  | .handled d k=>Gd 10 st (!d) (ih α τ ω {st with cur:=k (Iu st.fs)})
  | .call c g _ _ k=>Gd 11 st (SR g) (S9 den its ih α τ ω st g k c st.E)
  | .stack k=>Hs 17 st st.H (Ta rooms kt ih α τ ω st k)
  |_=>bad 14 st
noncomputable def Tc:Bx:=Tb den rooms its S S1 S2 kt ih α τ ω st st.cur
end
noncomputable def Ek:Nat→Aw→Aw→AU→St→Bx
 |0=>λ_ _ _ st=>bad 0 st
 |n+1=>Tc den rooms its S S1 S2 kt (Ek n)
end
end
set_option maxHeartbeats 200000
noncomputable def Dx(g a:Array GenState):Prop:= ∃x:List GenState,a.toList=g.toList++x∧ ∀y∈x,y.bare=true
theorem Dx.refl(g:Array GenState):Dx g g:=⟨[],(BR _).symm,λ_ h=>(nomatch h)⟩
theorem Dx.trans{a b c:Array GenState}(x:Dx a b)(y:Dx b c):Dx a c:=by
 obtain⟨n,d,e⟩:=x;obtain⟨m,g,h⟩:=y;exact⟨n++m,by rw[g,d,Dt],λz hz=>(List.mem_append.mp hz).elim (e z) (h z)⟩
theorem Dx.push(g:Array GenState){x:GenState}(h:x.bare=true):Dx g (g.push x):=⟨[x],by simp,λy a=>by rw[Io]at a;subst a;exact h⟩
theorem Dx.at{g a:Array GenState}(h:Dx g a){i:Nat}{x:GenState}(e:g[i]? =some x):a[i]? =some x:=by
 obtain⟨n,b,_⟩:=h;rw[←Array.getElem?_toList]at e⊢;rw[b,J2 (List.getElem?_eq_some_iff.mp e).1];exact e
theorem Dx.size{g a:Array GenState}(h:Dx g a):g.size≤a.size:=by
 obtain⟨n,b,_⟩:=h;rw[←Lj,←Lj,b,EH];(first|lia|omega)
noncomputable def PO(g:Nat)(a b:Array GenState):Prop:=b.size=a.size∧(∀k,k≠g→b[k]? =a[k]?)∧ ∀x,b[g]? =some x→x.bare=true
theorem Dx.off{a b c:Array GenState}(h:Dx a b){g:Nat}(t:a.size≤g)(o:PO g b c):Dx a c:=by
 obtain⟨x,k,n⟩:=h;obtain⟨o1,o2,o3⟩:=o;have u:b.size=a.size+x.length:=by rw[←Lj,k,EH,Lj]
 refine⟨c.toList.drop a.size,?_,λy r=> ?_⟩
 ·have e:c.toList.take a.size=a.toList:=by
   apply List.ext_getElem?;intro i
   by_cases d:i<a.size
   ·rw[List.getElem?_take_of_lt d,Array.getElem?_toList,o2 i (by (first|lia|omega)),←Array.getElem?_toList,k,J2 (by simpa using d)]
   ·rw[J3 (by simp;(first|lia|omega)),J3 (by simp;(first|lia|omega))]
  conv=>lhs;rw[←NC a.size c.toList,e]
 ·obtain⟨i,d,rfl⟩:=List.mem_iff_getElem.mp r
  have j:a.size+i<c.size:=by simp at d;(first|lia|omega)
  have e:(c.toList.drop a.size)[i]=c[a.size+i]:=by simp
  rw[e]
  by_cases q:a.size+i=g
  ·exact o3 _ (by rw[←q];simp[j])
  ·have l:=o2 _ q
   rw[Pt j]at l;have m:a.size+i<b.size:=by (first|lia|omega)
   rw[Pt m]at l;have s:=FH l;rw[s];apply n;have:b[a.size+i]=b.toList[a.size+i]'(by simpa using m):=by simp
   rw[this];have:b.toList[a.size+i]'(by simpa using m)=(a.toList++x)[a.size+i]'(by simp;(first|lia|omega)):=by simp[k]
   rw[this,List.getElem_append_right (by simp)];exact Db _
structure An(kt:KT)(s:Ab)(L:Ae):Prop where
 mem: ∀p∈L,s.heap.get? p.1=some p.2
 nd:(L.map (·.1)).Nodup
 old: ∀a o,kt.get a=some o→s.heap.get? a=some o
 apart: ∀p∈L,∀a o,kt.get a=some o→a≠p.1
structure Ag(kt:KT)(s s':Ab)(L L':Ae):Prop where
 sat:An kt s' L'
 keep: ∀b o,s.heap.get? b=some o→(∀p∈L,p.1≠b)→s'.heap.get? b=some o
 new: ∀p∈L',(∃q∈L,q.1=p.1)∨s.heap.objs.size≤p.1
 size:s.heap.objs.size≤s'.heap.objs.size
 gens:Dx s.gens s'.gens
 os:s'.os=s.os
 drawn:s'.drawn=s.drawn
 toks:s.toks≤s'.toks
theorem Ag.refl{kt:KT}{s:Ab}{L:Ae}(h:An kt s L):Ag kt s s L L:=
 ⟨h,λ_ _ e _=>e,λp a=>.inl ⟨p,a,rfl⟩,A8 _,.refl _,rfl,rfl,A8 _⟩
theorem Ag.trans{kt:KT}{s k a:Ab}{L l c:Ae}(x:Ag kt s k L l)(y:Ag kt k a l c):Ag kt s a L c:=by
 refine⟨y.sat,λb o e h=> ?_,λp d=> ?_,AC x.size y.size,x.gens.trans y.gens,y.os.trans x.os,y.drawn.trans x.drawn,AC x.toks y.toks⟩
 ·refine y.keep b o (x.keep b o e h) λp d q=> ?_
  rcases x.new p d with⟨r,g,i⟩|j
  ·exact h r g (i.trans q)
  ·exact absurd (q▸Heap.lt_size e:p.1<s.heap.objs.size) (Nat.not_lt.mpr j)
 ·rcases y.new p d with⟨r,g,e⟩|h
  ·rcases x.new r g with⟨t,m,i⟩|j
   ·exact .inl ⟨t,m,i.trans e⟩
   ·exact .inr (e▸j)
  ·exact .inr (AC x.size h)
theorem at?_mem(L:Ae): ∀(i:Nat) (p:Addr×Obj),DM L i=some p→p∈L:=by
 induction L with
 |nil=>intro i p h;cases i <;> cases h
 |cons r l a=>
  intro i p h;cases i with
  |zero=>cases h;exact Bj
  |succ i=>exact BB _ (a i p h)
theorem NP(L:Ae): ∀(i:Nat) (o:Obj),(Ey L i o).map (·.1)=L.map (·.1):=by
 induction L with
 |nil=>intro i o;cases i <;> rfl
 |cons r l a=>
  intro i o;cases i with
  |zero=>rfl
  |succ i=>exact Am (r.1:: ·) (a i o)
theorem PP(L:Ae): ∀(i:Nat) (o:Obj) (p q:Addr×Obj),(L.map (·.1)).Nodup→DM L i=some p→q∈Ey L i o→q=(p.1,o)∨(q∈L∧q.1≠p.1):=by
 induction L with
 |nil=>intro i o p q _ h;cases i <;> cases h
 |cons r l g=>
  intro i o p q d h c;rw[Ej,Lq]at d;cases i with
  |zero=>
   cases h;rcases List.mem_cons.mp c with e|c
   ·exact .inl e
   ·exact .inr ⟨BB _ c,λe=>d.1 (e▸B7 c)⟩
  |succ i=>
   rcases List.mem_cons.mp c with e|c
   ·subst e
    exact .inr ⟨Bj,λe=>d.1 (e▸B7 (at?_mem l i p h))⟩
   ·rcases g i o p q d.2 h c with e|⟨a,b⟩
    ·exact .inl e
    ·exact .inr ⟨BB _ a,b⟩
theorem An.set{kt:KT}{s:Ab}{L:Ae}(h:An kt s L){i:Nat}{p:Addr×Obj}(e:DM L i=some p){f:Obj→Obj}(k:(f p.2).isFreed=false):
  Ag kt s {s with heap:=s.heap.update p.1 f} L (Ey L i (f p.2)):=by
 have l:=h.mem p (at?_mem L i p e);have g:Heap.SameBut p.1 s.heap (s.heap.update p.1 f):=Heap.SameBut.update ..;have n:(s.heap.update p.1 f).get? p.1=some (f p.2):=by
  first|exact Heap.get?_update_self f l k|exact Heap.get?_update_self _ l k
 refine⟨⟨λq c=> ?_,?_,λa o d=> ?_,λq c a o d=> ?_⟩,λb o t u=> ?_,λq c=> ?_,Kb g.1.symm,.refl _,rfl,rfl,A8 _⟩
 ·rcases PP L i _ p q h.nd e c with rfl|⟨j,m⟩
  ·exact n
  ·exact(g.2 _ m).trans (h.mem q j)
 ·rw[NP];exact h.nd
 ·exact(g.2 _ (h.apart p (at?_mem L i p e) a o d)).trans (h.old a o d)
 ·rcases PP L i _ p q h.nd e c with rfl|⟨j,_⟩
  ·exact h.apart p (at?_mem L i p e) a o d
  ·exact h.apart q j a o d
 ·exact(g.2 _ (Ne.symm (u p (at?_mem L i p e)))).trans t
 ·have:q.1∈(Ey L i (f p.2)).map (·.1):=B7 c
  rw[NP]at this;obtain⟨r,v,w⟩:=List.mem_map.mp this;exact .inl ⟨r,v,w⟩
theorem An.push{kt:KT}{s:Ab}{L:Ae}(h:An kt s L){o:Obj}(j:o.isFreed=false):
  Ag kt s {s with heap:=s.heap.push o} L (L++[(s.heap.objs.size,o)]):=by
 have k: ∀p∈L,p.1<s.heap.objs.size:=λp i=>Heap.lt_size (h.mem p i);refine⟨⟨λq c=> ?_,?_,λa e d=>Heap.get?_push_of_some _ (h.old a e d),λq c a e d=> ?_⟩,λb e g _=>Heap.get?_push_of_some _ g,λq c=> ?_,?_,.refl _,rfl,rfl,A8 _⟩
 ·rcases List.mem_append.mp c with c|c
  ·exact Heap.get?_push_of_some _ (h.mem q c)
  ·rw[Io]at c
   subst c;exact Heap.get?_push_size _ j
 ·rw[BC,Fm]
  refine⟨h.nd,by simp,λa d b g=> ?_⟩;obtain⟨p,i,rfl⟩:=List.mem_map.mp d;simp only[Ej,List.map_nil,Io]at g;subst g;exact CS (k p i)
 ·rcases List.mem_append.mp c with c|c
  ·exact h.apart q c a e d
  ·rw[Io]at c
   subst c;exact CS (Heap.lt_size (h.old a e d))
 ·rcases List.mem_append.mp c with c|c
  ·exact .inl ⟨q,c,rfl⟩
  ·rw[Io]at c
   subst c;exact .inr (A8 _)
 ·refine (?_:s.heap.objs.size≤(s.heap.push o).objs.size)
  rw[Heap.size_push];(first|lia|omega)
theorem An.tok{kt:KT}{s:Ab}{L:Ae}(h:An kt s L):Ag kt s {s with toks:=s.toks+1} L L:=
 ⟨⟨h.mem,h.nd,h.old,h.apart⟩,λ_ _ e _=>e,λp a=>.inl ⟨p,a,rfl⟩,A8 _,.refl _,rfl,rfl,Jn _⟩
theorem Ag.regen{kt:KT}{s a:Ab}{L b:Ae}(x:Ag kt s a L b){c:Array GenState}(h:Dx s.gens c):Ag kt s {a with gens:=c} L b:=
 ⟨⟨x.sat.mem,x.sat.nd,x.sat.old,x.sat.apart⟩,x.keep,x.new,x.size,h,x.os,x.drawn,x.toks⟩
set_option maxHeartbeats 400000
theorem zW: ∀(l:Ae) (os:List Obj),os.length=l.length→(Bk l os).map (·.1)=l.map (·.1):=by
 intro l
 induction l with
 |nil=>intro os _;cases os <;> rfl
 |cons p l a=>
  intro os h;cases os with
  |nil=>cases h
  |cons o os=>exact Am (p.1:: ·) (a os (Nat.succ.inj h))
theorem zZ(L:Ae): ∀(i j:Nat) (o:Obj),i≠j→DM (Ey L i o) j=DM L j:=by
 induction L with
 |nil=>intro i j o _;cases i <;> rfl
 |cons p l a=>
  intro i j o h;cases i with
  |zero=>cases j with
   |zero=>exact absurd rfl h
   |succ j=>rfl
  |succ i=>cases j with
   |zero=>rfl
   |succ j=>exact a i j o (λe=>h (Am _ e))
theorem vA(L:Ae)(i:Nat)(o:Obj): ∀(a:List Nat),i ∉ a→pick (Ey L i o) a=pick L a:=by
 intro a
 induction a with
 |nil=>intro _;rfl
 |cons j a b=>
  intro h;rw[Jm,not_or]at h;unfold pick;rw[zZ L i j o h.1,b h.2]
theorem LH{L:Ae}{i:Nat}{b:List Nat}{a:Ae}(h:pick L (i::b)=some a):B6 λp l=>DM L i=some p∧pick L b=some l∧a=p::l:=by
 unfold pick at h;cases e:DM L i with
 |none=>rw[e]at h;cases h
 |some p=>
  rw[e]at h;dsimp only at h;cases c:pick L b with
  |none=>rw[c]at h;cases h
  |some l=>rw[c]at h;cases h;exact⟨p,l,rfl,rfl,rfl⟩
theorem LI{L:Ae}: ∀{d:List Nat} {c:Ae},pick L d=some c→(∀p∈c,p∈L)∧c.length=d.length:=by
 intro d
 induction d with
 |nil=>intro c h;cases h;exact⟨λ_ h=>(nomatch h),rfl⟩
 |cons i d g=>
  intro c h;obtain⟨p,l,j,k,rfl⟩:=LH h;obtain⟨a,b⟩:=g k;refine⟨λq e=> ?_,by rw[GG,GG,b]⟩;rcases List.mem_cons.mp e with rfl|e
  ·exact at?_mem L i q j
  ·exact a q e
theorem Td: ∀(a:List Nat) (os:List Obj) (L:Ae),(put L a os).map (·.1)=L.map (·.1):=by
 intro a
 induction a with
 |nil=>intro os L;cases os <;> rfl
 |cons i a b=>
  intro os L;cases os with
  |nil=>rfl
  |cons o os=>exact(b os (Ey L i o)).trans (NP L i o)
theorem PQ{i:Nat}{a:List Nat}(h:BS (i::a)=true):i ∉ a∧BS a=true:=by
 unfold BS at h;cases e:a.all (λj=> !Nat.beq i j)with
 |false=>rw[e]at h;cases h
 |true=>
  rw[e]at h;refine⟨λb=> ?_,h⟩;have:=List.all_eq_true.mp e i b;rw[Nat.beq_refl]at this;cases this
theorem vB: ∀(e:List Nat) (os:List Obj) (L:Ae) (g:Ae) (q:Addr×Obj),(L.map (·.1)).Nodup→pick L e=some g→BS e=true→os.length=e.length→q∈put L e os→
  q∈Bk g os∨(q∈L∧ ∀r∈g,r.1≠q.1):=by
 intro e
 induction e with
 |nil=>
  intro os L g q _ h _ _ j;cases h;have:put L [] os=L:=by cases os <;> rfl
  rw[this]at j;exact .inr ⟨j,λ_ h=>(nomatch h)⟩
 |cons i e s=>
  intro os L g q m h t n j;cases os with
  |nil=>cases n
  |cons o os=>
   obtain⟨p,l,u,v,rfl⟩:=LH h;obtain⟨w,y⟩:=PQ t;have:=s os (Ey L i o) l q (by rw[NP];exact m) (by rw[vA L i o e w];exact v) y (Nat.succ.inj n) j;rcases this with a|⟨a,b⟩
   ·exact .inl (BB _ a)
   ·rcases PP L i o p q m u a with rfl|⟨c,d⟩
    ·exact .inl Bj
    ·refine .inr ⟨c,λr k=> ?_⟩
     rcases List.mem_cons.mp k with rfl|k
     ·exact Ne.symm d
     ·exact b r k
theorem An.sub{kt:KT}{s:Ab}{L:Ae}(h:An kt s L){c:List Nat}{d:Ae}(e:pick L c=some d)(u:BS c=true):An kt s d:=by
 refine⟨λp v=>h.mem p ((LI e).1 p v),?_,h.old,λp v=>h.apart p ((LI e).1 p v)⟩;have key: ∀(c:List Nat) (d:Ae),pick L c=some d→BS c=true→(d.map (·.1)).Nodup:=by
  intro c
  induction c with
  |nil=>intro d e _;cases e;exact List.nodup_nil
  |cons i c m=>
   intro d e u;obtain⟨p,l,A,z,rfl⟩:=LH e;obtain⟨B,C⟩:=PQ u;rw[Ej,Lq];refine⟨λD=> ?_,m l z C⟩;have o: ∀(c:List Nat) (l:Ae),pick L c=some l→ ∀q∈l,∃j∈c,DM L j=some q:=by
    intro c
    induction c with
    |nil=>intro l e q g;cases e;cases g
    |cons j c m=>
     intro l e q g;obtain⟨I,E,a,b,rfl⟩:=LH e;rcases List.mem_cons.mp g with rfl|g
     ·exact⟨j,Bj,a⟩
     ·obtain⟨k,F,ek⟩:=m E b q g
      exact⟨k,BB _ F,ek⟩
   obtain⟨q,g,G⟩:=List.mem_map.mp D;obtain⟨j,n,H⟩:=o c l z q g;have w: ∀(L:Ae),(L.map (·.1)).Nodup→ ∀(i j:Nat) (p q:Addr×Obj),DM L i=some p→DM L j=some q→p.1=q.1→i=j:=by
    intro L
    induction L with
    |nil=>intro _ i j p q h;cases i <;> cases h
    |cons r L m=>
     intro t i j p q y n e;rw[Ej,Lq]at t;cases i with
     |zero=>
      cases j with
      |zero=>rfl
      |succ j=>
       cases y;exact absurd (e▸B7 (at?_mem L j q n)) t.1
     |succ i=>
      cases j with
      |zero=>
       cases n;exact absurd (e▸B7 (at?_mem L i p y)) t.1
      |succ j=>exact Am _ (m t.2 i j p q y n e)
   exact B (w L h.nd i j p q A H G.symm▸n)
 exact key c d e u
theorem vC{kt:KT}{s z:Ab}{L g:Ae}{j:List Nat}{d k:List Obj}{u:List Nat}(h:An kt s L)(e:pick L j=some g)(B:BS j=true)(A:d.length=j.length)
  (x:Ag kt s z g (Bk g d++BI u k)):Ag kt s z L (put L j d++BI u k):=by
 have n:=LI e;have C:=zW g d (A.trans n.2.symm);have v:=x.sat.nd;rw[BC,Fm,C]at v;have fresh: ∀p∈BI u k,s.heap.objs.size≤p.1:=λp i=>by
  rcases x.new p (BG _ i)with⟨q,c,l⟩|D
  ·exact absurd l (v.2.2 _ (B7 c) _ (B7 i))
  ·exact D
 have E: ∀p∈L,p.1<s.heap.objs.size:=λp i=>Heap.lt_size (h.mem p i);have t: ∀q∈put L j d,∃r∈L,r.1=q.1:=λq c=>by
  have:q.1∈(put L j d).map (·.1):=B7 c;rw[Td]at this;obtain⟨r,w,l⟩:=List.mem_map.mp this;exact⟨r,w,l⟩
 refine⟨⟨λq c=> ?_,?_,x.sat.old,λq c a o m=> ?_⟩,λb o y F=>x.keep b o y λp i=>F p (n.1 p i),λq c=> ?_,x.size,x.gens,x.os,x.drawn,x.toks⟩
 ·rcases List.mem_append.mp c with c|c
  ·rcases vB j d L g q h.nd e B A c with a|⟨a,b⟩
   ·exact x.sat.mem q (Dk _ a)
   ·exact x.keep _ _ (h.mem q a) b
  ·exact x.sat.mem q (BG _ c)
 ·rw[BC,Fm,Td]
  refine⟨h.nd,v.2.1,λa m b y=> ?_⟩;obtain⟨p,i,rfl⟩:=List.mem_map.mp m;obtain⟨q,c,rfl⟩:=List.mem_map.mp y;exact CS (Eh (E p i) (fresh q c))
 ·rcases List.mem_append.mp c with c|c
  ·obtain⟨r,w,l⟩:=t q c
   exact l▸h.apart r w a o m
  ·exact x.sat.apart q (BG _ c) a o m
 ·rcases List.mem_append.mp c with c|c
  ·exact .inl (t q c)
  ·exact .inr (fresh q c)
theorem Te: ∀(a:List Nat) (i:Nat),DN a i=true↔i∈a:=by
 intro a
 induction a with
 |nil=>intro i;simp[DN]
 |cons j c b=>
  intro i;unfold DN;cases e:Nat.beq j i with
  |true=>simp[Jc e]
  |false=>
   have:j≠i:=λq=>by subst q;rw[Nat.beq_refl]at e;cases e
   simp[b,Ne.symm this]
theorem vD: ∀(L:Ae) (k:Nat),DD L k []=L:=by
 intro L
 induction L with
 |nil=>intro k;rfl
 |cons p l a=>intro k;refine (?_:p::DD l (k+1) []=_);rw[a]
theorem vE(i:Nat)(a:List Nat): ∀(L:Ae) (k:Nat),i<k→DD L k (i::a)=DD L k a:=by
 intro L
 induction L with
 |nil=>intro k _;rfl
 |cons p l b=>
  intro k h;have e:DN (i::a) k=DN a k:=by
   unfold DN;have:Nat.beq i k=false:=by
    cases q:Nat.beq i k with
    |false=>rfl
    |true=>have:=Jc q;(first|lia|omega)
   rw[this];cases a <;> rfl
  show(match DN (i::a) k with|true=>_|false=>_)=_;rw[e,b (k+1) (by (first|lia|omega))];rfl
theorem vF: ∀(L:Ae) (i k:Nat) (a:List Nat) (p:Addr×Obj),DM L i=some p→k+i ∉ a→(DD L k a).Perm (p::DD L k ((k+i)::a)):=by
 intro L
 induction L with
 |nil=>intro i k a p h;cases i <;> cases h
 |cons q l c=>
  intro i k a p h b;cases i with
  |zero=>
   cases h;have d:DN a k=false:=by
    rw[←Bool.not_eq_true,Te];exact b
   have g:DN ((k+0)::a) k=true:=by rw[Te];(first|((repeat(first|exact .head _|apply List.mem_cons_of_mem));done)|simp)
   refine (?_:List.Perm (match DN a k with|true=>DD l (k+1) a|false=>q::DD l (k+1) a) (q::(match DN ((k+0)::a) k with|true=>DD l (k+1) ((k+0)::a)|false=>q::DD l (k+1) ((k+0)::a))));rw[d,g];dsimp only;rw[show k+0=k from rfl,vE k a l (k+1) (by (first|lia|omega))]
  |succ i=>
   have j:DM l i=some p:=h;have z:=c i (k+1) a p j (by rw[show k+1+i=k+(i+1) by (first|lia|omega)];exact b);rw[show k+1+i=k+(i+1) by (first|lia|omega)]at z;have e:DN ((k+(i+1))::a) k=DN a k:=by
    show(match Nat.beq (k+(i+1)) k with|true=>true|false=>DN a k)=_;have:Nat.beq (k+(i+1)) k=false:=by
     cases q:Nat.beq (k+(i+1)) k with
     |false=>rfl
     |true=>have:=Jc q;(first|lia|omega)
    rw[this]
   show(match DN a k with|true=>DD l (k+1) a|false=>q::DD l (k+1) a).Perm (p::(match DN ((k+(i+1))::a) k with|true=>DD l (k+1) ((k+(i+1))::a)|false=>q::DD l (k+1) ((k+(i+1))::a)));rw[e];cases DN a k with
   |true=>exact z
   |false=>exact(z.cons q).trans (List.Perm.swap _ _ _)
theorem vG{L:Ae}: ∀{a:List Nat} {b:Ae},pick L a=some b→BS a=true→L.Perm (b++DD L 0 a):=by
 intro a
 induction a with
 |nil=>intro b h _;cases h;rw[vD];exact AX _
 |cons i a c=>
  intro b h d;obtain⟨p,l,e,g,rfl⟩:=LH h;obtain⟨j,k⟩:=PQ d;have z:=c g k;have y:=vF L i 0 a p e (by rw[Hq];exact j);rw[Hq]at y;exact z.trans ((y.append_left l).trans EJ)
theorem An.permS{kt:KT}{s:Ab}{L b:Ae}(S:An kt s L)(h:L.Perm b):An kt s b:=
 ⟨λp a=>S.mem p (h.mem_iff.mpr a),(h.map _).nodup_iff.mp S.nd,S.old,λp a=>S.apart p (h.mem_iff.mpr a)⟩
theorem vH{kt:KT}{s v:Ab}{L g w:Ae}{j:List Nat}(h:An kt s L)(e:pick L j=some g)(z:BS j=true)(x:Ag kt s v g w):Ag kt s v L (w++DD L 0 j):=by
 have i:=vG e z;have S:=h.permS i;generalize DD L 0 j=F at i S;have A: ∀p∈F,p.1<s.heap.objs.size:=λp c=>Heap.lt_size (S.mem p (BG _ c));have m:=S.nd;rw[BC,Fm]at m;have y: ∀p∈g,∀q∈F,p.1≠q.1:=λp c q d=>m.2.2 _ (B7 c) _ (B7 d);refine⟨⟨λp c=> ?_,?_,x.sat.old,λp c a o k=> ?_⟩,λb o n B=>x.keep b o n λp c=>B p (i.mem_iff.mpr (Dk _ c)),λp c=> ?_,x.size,x.gens,x.os,x.drawn,x.toks⟩
 ·rcases List.mem_append.mp c with c|c
  ·exact x.sat.mem p c
  ·exact x.keep _ _ (S.mem p (BG _ c)) λq d=>y q d p c
 ·rw[BC,Fm]
  refine⟨x.sat.nd,m.2.1,λa k b n=> ?_⟩;obtain⟨p,c,rfl⟩:=List.mem_map.mp k;obtain⟨q,d,rfl⟩:=List.mem_map.mp n;rcases x.new p c with⟨r,t,u⟩|l
  ·rw[←u];exact y r t q d
  ·have:=A q d
   intro e;rw[e]at l;exact absurd this (Nat.not_lt.mpr l)
 ·rcases List.mem_append.mp c with c|c
  ·exact x.sat.apart p c a o k
  ·exact S.apart p (BG _ c) a o k
 ·rcases List.mem_append.mp c with c|c
  ·rcases x.new p c with⟨r,t,u⟩|l
   ·exact .inl ⟨r,i.mem_iff.mpr (Dk _ t),u⟩
   ·exact .inr l
  ·exact .inl ⟨p,i.mem_iff.mpr (BG _ c),rfl⟩
set_option maxHeartbeats 1000000
section
noncomputable def AY(a b:Nat):List Nat→Prop
 |[]=>a≤b
 |t::c=>a≤t∧AY (t+1) b c
theorem AY.le{c:Nat}: ∀{a:List Nat} {b:Nat},AY b c a→b≤c:=by
 intro a
 induction a with
 |nil=>intro b h;exact h
 |cons t a ih=>intro b h;have:=ih h.2;have:=h.1;(first|lia|omega)
theorem AY.app{b c:Nat}{ys:List Nat}: ∀{xs:List Nat} {a:Nat},AY a b xs→AY b c ys→AY a c (xs++ys):=by
 intro xs
 induction xs with
 |nil=>
  intro a h k;cases ys with
  |nil=>exact AC h k
  |cons y ys=>exact⟨AC h k.1,k.2⟩
 |cons t d ih=>intro a h k;exact⟨h.1,ih h.2 k⟩
noncomputable def LJ:List Nat→Aw→Aw
 |[],α=>α
 |x::a,α=>λi=>match i with
  |0=>x
  |i+1=>LJ a α i
theorem Tf(α:Aw): ∀a:List Nat,Dm (LJ a α) a.length=a:=by
 intro a
 induction a with
 |nil=>rfl
 |cons x b ih=>exact Am (x:: ·) ih
theorem LK: ∀(α:Aw) (n:Nat),(Dm α n).length=n:=by
 intro α n
 induction n generalizing α with
 |zero=>rfl
 |succ n ih=>exact Am (· +1) (ih _)
theorem Tg(α:Aw): ∀a:List Nat,PI (LJ a α) a.length=α:=by
 intro a
 induction a with
 |nil=>rfl
 |cons x b ih=>exact ih
noncomputable def NR:List Obj→AU→AU
 |[],α=>α
 |x::a,α=>λi=>match i with
  |0=>x
  |i+1=>NR a α i
theorem vI(α:AU): ∀a:List Obj,Jr (NR a α) a.length=a:=by
 intro a
 induction a with
 |nil=>rfl
 |cons x b ih=>exact Am (x:: ·) ih
theorem Th: ∀(α:AU) (n:Nat),(Jr α n).length=n:=by
 intro α n
 induction n generalizing α with
 |zero=>rfl
 |succ n ih=>exact Am (· +1) (ih _)
theorem vJ(α:AU): ∀a:List Obj,SP (NR a α) a.length=α:=by
 intro a
 induction a with
 |nil=>rfl
 |cons x b ih=>exact ih
theorem vK{α:Type}{prog:Program}{w:Aa}{A:Al}{Q:α→Ab→Prop}{E:Value→Ab→Prop}{s:Ab}{a:Addr}{k:Option Obj→Sem α}{o:Obj}(c:s.heap.get? a=some o)(x:wpAny (model prog w) A (k (some o)) Q E s):wpAny (model prog w) A (.loadIfAlive a k) Q E s:=λd p b=>by
 refine (?_:Sem.wp _ _ (k (s.heap.get? a)) _ _ _ _);rw[c];exact x d p b
section
variable (prog:Program)(w:Aa)(kt:KT)
noncomputable def NS:Option (Nat×Code)→Ab→Prop
 |none,_=>True
 |some x,s=>s.gens[x.1]? =some (.fresh x.2)
noncomputable def Js(kt:KT):Option (Nat×Code)→Ab→Ab→Ae→Ae→Prop
 |none,s,a,L,b=>Ag kt s a L b
 |some x,s,a,L,b=> ∃c,PO x.1 s.gens c∧Ag kt {s with gens:=c} a L b
noncomputable def vL(A:Al)(e:Option (Nat×Code))(c:Code)(L:Ae)(h i no:Nat)(r:List Nat→List Nat→List Obj→Result)(b d:List Nat→List Nat→List Obj→List Obj):Prop:=
 ∀s,An kt s L→NS e s→codeAny (model prog w) A c (λj g=>Ew λa t o=>a.length=h∧t.length=i∧o.length=no∧j=r a t o∧Js kt e s g L (Bk L (b a t o)++BI a (d a t o))∧AY s.toks g.toks t) s
noncomputable def LL(e:Ak):Prop:= ∀A:Al,A.depth≤e.d→A.units≤e.u→A.handled=e.h→vL prog w kt A e.gn e.c e.pre e.na e.nt e.no (λa t o=>e.rx o (e.r a t)) e.outs e.news
noncomputable def DX(s₀:Ab)(L₀:Ae)(e:Ak):Prop:= ∀A:Al,A.depth≤e.d→A.units≤e.u→A.handled=e.h→ ∀s,(∃L,Ag kt s₀ s L₀ L∧ ∀p∈e.pre,p∈L)→An kt s e.pre→NS e.gn s→
 codeAny (model prog w) A e.c (λc b=>Ew λa t o=>a.length=e.na∧t.length=e.nt∧o.length=e.no∧c=e.rx o (e.r a t)∧Js kt e.gn s b e.pre (Bk e.pre (e.outs a t o)++BI a (e.news a t o))∧AY s.toks b.toks t) s
theorem LL.frm{prog:Program}{w:Aa}{kt:KT}{e:Ak}(h:LL prog w kt e){s₀:Ab}{L₀:Ae}:DX prog w kt s₀ L₀ e:=λA a b c s _ S G=>h A a b c s S G
noncomputable def Jt(qt:Bool)(a:Jq)(s₀ s:Ab):Prop:=PH a=qt∧match a with
 | .free=>True
 | .wait g c=>s.gens[g]? =some (.fresh c)∧s₀.gens.size≤g
 | .quiet=>s.gens=s₀.gens
theorem Jt.le{qt:Bool}{a:Jq}{s₀ s b:Ab}(h:Jt qt a s₀ s)(d:PH a=false)(l:Dx s.gens b.gens):Jt qt a s₀ b:=by
 cases a with
 |free=>exact⟨h.1,trivial⟩
 |wait g c=>exact⟨h.1,l.at h.2.1,h.2.2⟩
 |quiet=>cases d
theorem Jt.q{qt:Bool}{b:Jq}{s₀ s:Ab}(h:Jt qt b s₀ s)(e:qt=true):s.gens=s₀.gens:=by
 obtain⟨a,d⟩:=h;cases b with
 |free=>rw[e]at a;cases a
 |wait g c=>rw[e]at a;cases a
 |quiet=>exact d
noncomputable def Ht(rooms:List (Code→Sem Unit)):Prop:= ∀i r,PK rooms i=some r→ ∀(c:Code) (A:Al) (s:Ab) (L:Ae) (Q:Unit→Ab→Prop) (E:Value→Ab→Prop),An kt s L→A.depth<1000→A.units<9900→Q () s→wpAny (model prog w) A (r c) Q E s
noncomputable def FJ(its:List Value):Prop:= ∀j T,NN its j=some T→ ∀(A:Al) (e:Expr) (n:Nat) (b:Value) (c:Env) (R:Result→Ab→Prop) (s:Ab) (a:Addr) (o:Obj),s.heap.get? a=some o→o.cls=T→Iv e n=true→
 codeAny (model prog w) A (.compLoop e n (.ref a) b c) R s→codeAny (model prog w) A (.compStart e n (.ref a) b c) R s
noncomputable def Dd(A:Al):List Kf→Al
 |[]=>A
 |f::a=>((Dd A a).under f.c).mark f.hd
noncomputable def Hu(A:Al)(R:Result→Ab→Prop):List Kf→Result→Ab→Prop
 |[]=>R
 |f::a=>λr s=>wpAny (model prog w) ((Dd A a).under f.c) (f.k r) (postC prog w (Dd A a) (Hu A R a)) (postE (Hu A R a)) s
noncomputable def Dy(A:Al)(R:Result→Ab→Prop)(c:Code)(a:List Kf)(t:Sem Fin)(s:Ab):Prop:=
 wpAny (model prog w) ((Dd A a).under c) t (postC prog w (Dd A a) (Hu prog w A R a)) (postE (Hu prog w A R a)) s
noncomputable def Bd(A:Al):List Kf→Nat→Nat→Prop
 |[],d,u=>A.depth≤d∧A.units≤u
 |f::a,d,u=>(Dd A (f::a)).depth≤d∧(Dd A (f::a)).units≤u∧Bd A a f.d f.u
theorem Bd.here{A:Al}: ∀{a:List Kf} {d u:Nat},Bd A a d u→(Dd A a).depth≤d∧(Dd A a).units≤u
 |[],_,_,h=>h
 |_::_,_,_,h=>⟨h.1,h.2.1⟩
theorem Ti{A:Al}(b:A.handled=none): ∀(a:List Kf),(Dd A a).handled=Iu a:=by
 intro a
 induction a with
 |nil=>exact b
 |cons f a ih=>
  refine (?_:f.hd.or ((Dd A a).under f.c).handled=_);have:((Dd A a).under f.c).handled=(Dd A a).handled:=rfl;rw[this,ih];have e:Iu (f::a)=(match f.hd with|some v=>some v|none=>Iu a):=rfl;rw[e];cases f.hd <;> rfl
noncomputable def Tj(A:Al)(R:Result→Ab→Prop)(e:Dw)(s:Ab):Prop:=match e with
 | .done f=>R (.ok f) s
 | .err x=>R (.error x) s
 | .again c=>codeAny (model prog w) A c R s
 | .bad _=>False
noncomputable def BF(qt:Bool)(A:Al)(R:Result→Ab→Prop)(s₀:Ab)(L₀:Ae)(o:Bx):Prop:=
 o.ask=o.say∧ ∀a,Ag kt s₀ a L₀ o.L→AY s₀.toks a.toks o.ts→(qt=true→a.gens=s₀.gens)→Tj prog w A R o.e a
theorem vM{β:Type}(a:Code):(Ly λe n d b c=>a= .compStart e n d b c)∨ ∀(F:Expr→Nat→Value→Value→Env→β) (K:Code→β),(match a with| .compStart e n d b c=>F e n d b c|a=>K a)=K a:=by
 cases a <;> first|exact .inl ⟨_,_,_,_,_,rfl⟩|exact .inr λ_ _=>rfl
section
variable {prog w kt}{A:Al}{R:Result→Ab→Prop}{s₀:Ab}{L₀:Ae}{qt:Bool}
variable (prog w kt A s₀ L₀ qt)in
structure Ci(st:St)(s:Ab):Prop where
 B:Bd A st.fs st.d st.u
 X: ∀q∈st.E,∀as ts gh hi,AY s₀.toks hi ts→DX prog w kt s₀ L₀ (q.2 as ts gh)
 Y: ∀q∈st.W,∀as ts gh,(q.2 as ts gh).1=(q.2 as ts gh).2
 D:Ag kt s₀ s L₀ st.L
 I:Jt qt st.gn s₀ s
 T:AY s₀.toks s.toks st.ts
theorem Hv{n:Nat}{st a:St}{s:Ab}(F:Ci prog w kt A s₀ L₀ qt st s){P:Prop}(G:BF prog w kt qt A R s₀ L₀ (bad n a))(e:a.L=st.L:=by rfl)(b:a.ts=st.ts:=by rfl):P:=(G.2 s (by refine (?_:Ag kt s₀ s L₀ a.L);rw[e];exact F.D) (by refine (?_:AY _ _ a.ts);rw[b];exact F.T) F.I.q).elim
theorem Tk{x y:EN}{o:Bx}(G:BF prog w kt qt A R s₀ L₀ (chk x y o)):x=y∧BF prog w kt qt A R s₀ L₀ o:=⟨(J9 G.1).1,(J9 G.1).2,G.2⟩
theorem De{x y:EN}{o:Aw→Aw→AU→Bx}{P:Prop}(G: ∀α τ ω,BF prog w kt qt A R s₀ L₀ (chk x y (o α τ ω)))(h:x=y→(∀α τ ω,BF prog w kt qt A R s₀ L₀ (o α τ ω))→P):P:=h (Tk (G id id λ_=>default)).1 λα τ ω=>(Tk (G α τ ω)).2
theorem PR{n:Nat}{st:St}{s:Ab}(F:Ci prog w kt A s₀ L₀ qt st s){b:Bool}{o:Bx}(G:BF prog w kt qt A R s₀ L₀ (Gd n st b o)):b=true∧BF prog w kt qt A R s₀ L₀ o:=by
 cases b with
 |false=>exact Hv F G
 |true=>exact⟨rfl,G⟩
theorem Hw{n:Nat}{st:St}{s:Ab}(F:Ci prog w kt A s₀ L₀ qt st s){b:Bool}{o:Aw→Aw→AU→Bx}{P:Prop}(G: ∀α τ ω,BF prog w kt qt A R s₀ L₀ (Gd n st b (o α τ ω)))(h:b=true→(∀α τ ω,BF prog w kt qt A R s₀ L₀ (o α τ ω))→P):P:=h (PR F (G id id λ_=>default)).1 λα τ ω=>(PR F (G α τ ω)).2
theorem Ju{a:Type _}{n:Nat}{st:St}{s:Ab}(F:Ci prog w kt A s₀ L₀ qt st s){x:Option a}{o:Aw→Aw→AU→a→Bx}{P:Prop}(G: ∀α τ ω,BF prog w kt qt A R s₀ L₀ (Iw n st x (o α τ ω)))(h: ∀v,x=some v→(∀α τ ω,BF prog w kt qt A R s₀ L₀ (o α τ ω v))→P):P:=by
 cases x with
 |none=>exact Hv F (G id id λ_=>default)
 |some v=>exact h v rfl G
theorem Iy{n:Nat}{st:St}{s:Ab}(F:Ci prog w kt A s₀ L₀ qt st s){l:List Nat}{o:Aw→Aw→AU→Nat→List Nat→Bx}{P:Prop}(G: ∀α τ ω,BF prog w kt qt A R s₀ L₀ (Hs n st l (o α τ ω)))(h: ∀i H,(∀α τ ω,BF prog w kt qt A R s₀ L₀ (o α τ ω i H))→P):P:=by
 cases l with
 |nil=>exact Hv F (G id id λ_=>default)
 |cons i H=>exact h i H G
theorem Ci.cur{st:St}{s:Ab}(F:Ci prog w kt A s₀ L₀ qt st s)(a:Sem Fin)(H:List Nat):Ci prog w kt A s₀ L₀ qt ⟨a,st.c,st.fs,st.L,st.as,st.ts,st.gh,H,st.E,st.W,st.ag,st.d,st.u,st.gn⟩ s:=⟨F.B,F.X,F.Y,F.D,F.I,F.T⟩
theorem Tl{c a:Code}(h:EN.code c= .code a):c=a:=by injection h
theorem Tm{c a:Ae}(h:EN.led c= .led a):c=a:=by injection h
theorem NT{c a:Option Value}(h:EN.val c= .val a):c=a:=by injection h
theorem PS{c a:Nat}(h:EN.addr c= .addr a):c=a:=by injection h
theorem Tn{c a:Sem Fin}(h:EN.tree c= .tree a):c=a:=by injection h
variable {den:Code→Sem Fin}{rooms:List (Code→Sem Unit)}{its:List Value}{S1 S2:Setting}{ih:Aw→Aw→AU→St→Bx}
section
variable (hden:den=denote table)
include hden
theorem PU{c:Code}{fs:List Kf}{s:Ab}(z:Dy prog w A R c fs (den c) s):codeAny (model prog w) (Dd A fs) c (Hu prog w A R fs) s:=by
 subst hden;exact y_code _ _ _ _ _ _ (wpOwn_of_wpAny z)
end
variable (IH: ∀(st:St) (s:Ab),(∀α τ ω,BF prog w kt qt A R s₀ L₀ (ih α τ ω st))→Ci prog w kt A s₀ L₀ qt st s→Dy prog w A R st.c st.fs st.cur s)
include IH
theorem LM{r:Result}{st:St}{c:Code}{g:Kf}{a:List Kf}{s:Ab}(B:Bd A (g::a) st.d st.u){W:List Wd}(Y: ∀q∈W,∀b h i,(q.2 b h i).1=(q.2 b h i).2)(F:Ci prog w kt A s₀ L₀ qt st s)
  (G: ∀α τ ω,BF prog w kt qt A R s₀ L₀ (ih α τ ω {st with cur:=g.k r,c:=g.c,fs:=a,W:=W,d:=g.d,u:=g.u})):Dy prog w A R c (g::a) (leafOf r) s:=by
 have z:=IH _ s G ⟨B.2.2,F.X,Y,F.D,F.I,F.T⟩;cases r with
 |ok f=>exact x_pure (y_done _ _ _ _ _ _ z)
 |error e=>exact x_raise (y_err _ _ _ z)
theorem vN{st:St}{c:Code}{v:Value}{g:Kf}{h:List Kf}{s:Ab}(B:Bd A (g::h) st.d st.u)(F:Ci prog w kt A s₀ L₀ qt st s): ∀{W:List Wd} (_: ∀q∈W,∀a b d,(q.2 a b d).1=(q.2 a b d).2)
  (_: ∀α τ ω,BF prog w kt qt A R s₀ L₀ (SS ih α τ ω st v g h W)),Dy prog w A R c (g::h) (.pure (.done (.ret v))) s:=by
 intro W Y G;cases W with
 |nil=>exact LM IH (r:=.ok (.ret v)) B Y F G
 |cons q W=>
  obtain⟨m,q⟩:=q;have i: ∀q∈W,∀a b d,(q.2 a b d).1=(q.2 a b d).2:=λr j=>Y r (BB _ j);cases m with
  |succ m=>exact LM IH (r:=.ok (.ret v)) B (W:=(m,q)::W) (List.forall_mem_cons.mpr ⟨Y (m+1,q) Bj,i⟩) F G
  |zero=>
   refine De G λe G=> ?_;rw[(FH (NT e)).trans (Y (0,q) Bj st.as st.ts st.gh)];exact LM IH (r:=.ok (.ret (q st.as st.ts st.gh).2)) B i F G
theorem vO{st:St}{s:Ab}(F:Ci prog w kt A s₀ L₀ qt st s){f:Flow}{c:Code}: ∀{a:List Kf} (_:Bd A a st.d st.u) (_: ∀α τ ω,BF prog w kt qt A R s₀ L₀ (ST ih α τ ω st f a)),Dy prog w A R c a (.pure (.done f)) s:=by
 intro a B G;cases a with
 |nil=>exact x_pure (y_done _ _ _ _ _ _ ((G id id λ_=>default).2 _ F.D F.T F.I.q))
 |cons g a=>
  cases f with
  |ret v=>exact vN IH B F F.Y G
  |_=>exact LM IH (r:=.ok _) B F.Y F G
theorem vP{st:St}{s:Ab}(F:Ci prog w kt A s₀ L₀ qt st s){e:Value}{c:Code}{a:List Kf}(B:Bd A a st.d st.u)(G: ∀α τ ω,BF prog w kt qt A R s₀ L₀ (SV ih α τ ω st e a)):Dy prog w A R c a (.raise e) s:=by
 cases a with
 |nil=>exact x_raise (y_err _ _ _ ((G id id λ_=>default).2 _ F.D F.T F.I.q))
 |cons g a=>exact LM IH (r:=.error e) B F.Y F G
theorem vQ{st:St}{s:Ab}(F:Ci prog w kt A s₀ L₀ qt st s){S:Setting}(hS:S=S1∨S=S2)(e:S=⟨prog,w.2⟩){k:Setting→Sem Fin}{i:Nat}{H:List Nat}(G: ∀α τ ω,BF prog w kt qt A R s₀ L₀ (SW S S1 S2 ih α τ ω st k i H)):Dy prog w A R st.c st.fs (.ask k) s:=by
 subst e;cases i with
 |zero=>exact x_skim 1 (IH _ s G (F.cur _ H):)
 |succ i=>
  refine De G λa G=>x_skim 1 ?_;have z:=(IH _ s G (F.cur _ H):)
  rcases hS with e|e
  ·rw[←e]at z;exact z
  ·have a:=Tn a
   rw[←e]at a;exact Eq.mp (Am (λt=>Dy prog w A R st.c st.fs t s) a) z
theorem To{st:St}{s:Ab}(F:Ci prog w kt A s₀ L₀ qt st s){a:Addr}{k:Obj→Sem Fin}{i:Nat}{H:List Nat}(G: ∀α τ ω,BF prog w kt qt A R s₀ L₀ (PL kt ih α τ ω st a k i H)): ∃o,s.heap.get? a=some o∧Dy prog w A R st.c st.fs (k o) s:=by
 cases i with
 |zero=>exact Ju F G λo e G=>⟨o,F.D.sat.old a o e,(IH _ s G (F.cur _ H):)⟩
 |succ i=>exact Ju F G λp e G=>De G λb G=>⟨p.2,PS b▸F.D.sat.mem p (at?_mem _ i p e),(IH _ s G (F.cur _ H):)⟩
theorem vR{st:St}{s:Ab}(F:Ci prog w kt A s₀ L₀ qt st s){a:Addr}{f:Obj→Obj}{k:Unit→Sem Fin}{l:Option Value}{i:Nat}{H:List Nat}(G: ∀α τ ω,BF prog w kt qt A R s₀ L₀ (SX ih α τ ω st a f (k ()) i H)):Dy prog w A R st.c st.fs (.update a l f k) s:=by
 cases i with
 |zero=>exact Hv F (G id id λ_=>default)
 |succ i=>exact Ju F G λp e G=>Hw F G λb G=>De G λc G=>PS c▸Af (m:=updatePart p.1 l f) (f:=k) (wpAny_updatePart (F.D.sat.mem p (at?_mem _ i p e)) (IH _ _ G ⟨F.B,F.X,F.Y,F.D.trans (F.D.sat.set e ((Lm _).mp b)),F.I,F.T⟩:))
theorem vS{st:St}{s:Ab}(F:Ci prog w kt A s₀ L₀ qt st s){a:Code}{k:Nat→Sem Fin}(G: ∀α τ ω,BF prog w kt qt A R s₀ L₀ (SY ih α τ ω st a k st.gn)):Dy prog w A R st.c st.fs (.newGen a k) s:=by
 cases h:st.gn with
 |wait g c=>rw[h]at G;exact Hv F (G id id λ_=>default)
 |quiet=>rw[h]at G;exact Hv F (G id id λ_=>default)
 |free=>
  rw[h]at G;have I:=F.I;rw[h]at I;exact Af (m:=newGen a) (f:=k) (wpAny_newGen (IH {st with cur:=k s.gens.size,as:=st.as++[s.gens.size],gn:=.wait s.gens.size a} {s with gens:=s.gens.push (.fresh a)} (λα τ ω=>G (λi=>match i with|0=>s.gens.size|i+1=>α i) τ ω) ⟨F.B,F.X,F.Y,F.D.regen (F.D.gens.trans (Dx.push s.gens (show(GenState.fresh a).bare=true from rfl))),⟨I.1,by (first|((repeat(first|exact .head _|apply List.mem_cons_of_mem));done)|simp),F.D.gens.size⟩,F.T⟩))
section
variable (hden:den=denote table)
include hden
theorem vT{st:St}{s:Ab}(F:Ci prog w kt A s₀ L₀ qt st s){c b:Code}(q:b.quiet=true){a:List Kf}{d:Nat}(B:Bd A a st.d st.u)(G: ∀α τ ω,BF prog w kt qt A R s₀ L₀ (SU den ih α τ ω st b a d)):Dy prog w A R c a (.pure (.again b)) s:=by
 refine x_pure (y_again _ _ _ _ _ _ q ?_);cases a with
 |nil=>
  cases d with
  |zero=>exact(G id id λ_=>default).2 _ F.D F.T F.I.q
  |succ d=>exact PU hden (IH _ s G ⟨B,F.X,F.Y,F.D,F.I,F.T⟩:)
 |cons g a=>exact PU hden (IH _ s G ⟨B,F.X,F.Y,F.D,F.I,F.T⟩:)
theorem PV{st:St}{s:Ab}(F:Ci prog w kt A s₀ L₀ qt st s){b:Option Value}{k:Result→Sem Fin}{a:Code}{e:List Nat}{E:List (Nat×(List Nat→List Nat→List Obj→Ak))}(g: ∀q∈E,∀h c i j,AY s₀.toks j c→DX prog w kt s₀ L₀ (q.2 h c i))
  (G: ∀α τ ω,BF prog w kt qt A R s₀ L₀ (NO den ih α τ ω st b k a e E)):codeAny (model prog w) (((Dd A st.fs).under st.c).mark b) a (Hu prog w A R (⟨st.c,b,k,st.d,st.u⟩::st.fs)) s:=by
 have d:=F.B.here;exact PU (fs:=⟨st.c,b,k,st.d,st.u⟩::st.fs) hden (IH _ s G ⟨⟨CC d.1 _,CC d.2 _,F.B⟩,g,F.Y,F.D,F.I,F.T⟩:)
theorem vU(hits:FJ prog w its){st:St}{s:Ab}(F:Ci prog w kt A s₀ L₀ qt st s){c:Option Value}{k:Result→Sem Fin}{E:List (Nat×(List Nat→List Nat→List Obj→Ak))}(d: ∀q∈E,∀l g m o,AY s₀.toks o g→DX prog w kt s₀ L₀ (q.2 l g m)){e:Expr}{n:Nat}{h a:Value}{b:Env}{i:Nat}{H:List Nat}
  (G: ∀α τ ω,BF prog w kt qt A R s₀ L₀ (SZ den its ih α τ ω st c k E e n h a b i H)):codeAny (model prog w) (((Dd A st.fs).under st.c).mark c) (.compStart e n h a b) (Hu prog w A R (⟨st.c,c,k,st.d,st.u⟩::st.fs)) s:=by
 cases i with
 |zero=>exact PV IH hden F d G
 |succ i=>
  refine Iy F G λj H G=>Ju F G λp r G=>Ju F G λt u G=>Hw F G λv G=>De G λy G=>De G λz G=> ?_;rw[FH (NT y)]at G⊢;exact hits j t u _ e n a b _ _ p.1 p.2 (F.D.sat.mem p (at?_mem _ i p r)) (FH (NT z)) v (PV IH hden F d G)
theorem Tp(hits:FJ prog w its){st:St}{s:Ab}(F:Ci prog w kt A s₀ L₀ qt st s){a:Option Value}(c:a≠some byPass){k:Result→Sem Fin}{g:Bool}{l:List Value}{b:Code}{E:List (Nat×(List Nat→List Nat→List Obj→Ak))}(d: ∀q∈E,∀m j o r,AY s₀.toks r j→DX prog w kt s₀ L₀ (q.2 m j o))
  (G: ∀α τ ω,BF prog w kt qt A R s₀ L₀ (PM den its ih α τ ω st a k b E)):Dy prog w A R st.c st.fs (.call b a g l k) s:=by
 refine x_call ?_ c;rcases vM (β:=Bx) b with⟨e,n,y,u,v,h⟩|t
 ·rw[h]at G⊢;exact Iy F G λi H G=>vU IH hden hits F d G
 ·exact PV IH hden F d λα τ ω=>Eq.mp (Am (BF prog w kt qt A R s₀ L₀) (t _ _)) (G α τ ω)
end
omit IH in
theorem vV{st:St}{s:Ab}(F:Ci prog w kt A s₀ L₀ qt st s){c:Option Value}{k:Result→Sem Fin}{d:Code}{e:Ak}{E:List (Nat×(List Nat→List Nat→List Obj→Ak))}{b:Ae}(G: ∀α τ ω,BF prog w kt qt A R s₀ L₀ (PN ih α τ ω st c k d e E b)): ∀(a t:List Nat) (o:List Obj),a.length=e.na→t.length=e.nt→o.length=e.no→Ix st e a t o=true∧ ∀α τ ω,BF prog w kt qt A R s₀ L₀ (LG ih α τ ω st c k d e E b a t o e.gn st.gn):=by
 intro a t o h i j;have z: ∀α τ ω,Ix st e a t o=true∧BF prog w kt qt A R s₀ L₀ (LG ih α τ ω st c k d e E b a t o e.gn st.gn):=λα τ ω=>by
  have g:=PR F (G (LJ a α) (LJ t τ) (NR o ω));rw[←h,←i,←j,Tf,Tf,vI,Tg,Tg,vJ]at g;exact g
 exact⟨(z id id λ_=>default).1,λα τ ω=>(z α τ ω).2⟩
omit IH in
theorem PW{st:St}{e:Ak}{a t:List Nat}{o:List Obj}(h:Ix st e a t o=true):(st.d+st.c.weight≤e.d∧st.u+st.c.cUnits≤e.u)∧BS e.idx=true∧SQ e.gn (e.outs a t o).length e.idx.length=true:=by
 simp only[Ix,Fn]at h;exact⟨⟨Eg h.1.1.1.1,Eg h.1.1.1.2⟩,h.1.1.2,h.1.2⟩
omit IH in
theorem Tq(m:A.handled=none){st:St}{s:Ab}(F:Ci prog w kt A s₀ L₀ qt st s){c:Option Value}{i:Code}{e:Ak}(ok:DX prog w kt s₀ L₀ e){b:Ae}(d:pick st.L e.idx=some b){a t:List Nat}{o:List Obj}(n:Ix st e a t o=true)(r:EN.code i= .code e.c)(j:EN.led b= .led e.pre)(u:EN.val (PJ c (Iu st.fs))= .val e.h)(v:NS e.gn s):
  codeAny (model prog w) (((Dd A st.fs).under st.c).mark c) i (λy k=>Ew λa t o=>a.length=e.na∧t.length=e.nt∧o.length=e.no∧y=e.rx o (e.r a t)∧Js kt e.gn s k b (Bk b (e.outs a t o)++BI a (e.news a t o))∧AY s.toks k.toks t) s:=by
 obtain⟨⟨z,B⟩,g,_⟩:=PW n;have l:=F.B.here;rw[Tl r,Tm j];rw[Tm j]at d;refine ok (((Dd A st.fs).under st.c).mark c) (AC (CC l.1 _) z) (AC (CC l.2 _) B) ?_ s ⟨st.L,F.D,λp h=>(LI d).1 p h⟩ (F.D.sat.sub d g) v;refine (?_:c.or ((Dd A st.fs).under st.c).handled=_);have e:((Dd A st.fs).under st.c).handled=(Dd A st.fs).handled:=rfl;rw[e,Ti m st.fs,←NT u];cases c <;> rfl
theorem vW(C:A.handled=none){st:St}{s:Ab}(F:Ci prog w kt A s₀ L₀ qt st s){i:Option Value}(m:i≠some byPass){k:Result→Sem Fin}{g:Bool}{l:List Value}{n:Code}{e:Ak}{E:List (Nat×(List Nat→List Nat→List Obj→Ak))}(D: ∀q∈E,∀G r H I,AY s₀.toks I r→DX prog w kt s₀ L₀ (q.2 G r H))(ok:DX prog w kt s₀ L₀ e){d:Ae}(u:pick st.L e.idx=some d)(v:e.gn=none)
  (step: ∀(a t:List Nat) (o:List Obj),a.length=e.na→t.length=e.nt→o.length=e.no→Ix st e a t o=true∧ ∀α τ ω,BF prog w kt qt A R s₀ L₀ (LG ih α τ ω st i k n e E d a t o none st.gn)):Dy prog w A R st.c st.fs (.call n i g l k) s:=by
 obtain⟨J,g⟩:=step (Dm id e.na) (Dm id e.nt) (Jr (λ_=>default) e.no) (LK _ _) (LK _ _) (Th _ _);refine Hw F g λy g=>De g λK g=>De g λL g=>De g λM _=>x_call (B5 (Tq C F ok u J K L M (by rw[v];trivial)) λU N O=> ?_) m;obtain⟨a,t,o,P,Q,B,S,h,T⟩:=O;obtain⟨c,z⟩:=step a t o P Q B;obtain⟨_,j,c⟩:=PW c;rw[v]at h c;have b:=vC F.D.sat u j (Jc c) h;rw[S];exact Hw F z λ_ z=>De z λ_ z=>De z λ_ z=>De z λ_ z=>(IH _ N z ⟨F.B,D,F.Y,F.D.trans b,F.I.le ((Lm _).mp y) b.gens,F.T.app T⟩:)
theorem vX(C:A.handled=none){st:St}{s:Ab}(F:Ci prog w kt A s₀ L₀ qt st s){d:Option Value}(i:d≠some byPass){k:Result→Sem Fin}{g:Bool}{l:List Value}{j:Code}{e:Ak}{E:List (Nat×(List Nat→List Nat→List Obj→Ak))}(D: ∀q∈E,∀G m H J,AY s₀.toks J m→DX prog w kt s₀ L₀ (q.2 G m H))(ok:DX prog w kt s₀ L₀ e){c:Ae}(n:pick st.L e.idx=some c){x:Nat×Code}(r:e.gn=some x)
  (step: ∀(a t:List Nat) (o:List Obj),a.length=e.na→t.length=e.nt→o.length=e.no→Ix st e a t o=true∧ ∀α τ ω,BF prog w kt qt A R s₀ L₀ (LG ih α τ ω st d k j e E c a t o (some x) st.gn)):Dy prog w A R st.c st.fs (.call j d g l k) s:=by
 obtain⟨u,g⟩:=step (Dm id e.na) (Dm id e.nt) (Jr (λ_=>default) e.no) (LK _ _) (LK _ _) (Th _ _);have I:=F.I;revert step g I;cases st.gn with
 |free=>exact λ_ g _=>Hv F (g id id λ_=>default)
 |quiet=>exact λ_ g _=>Hv F (g id id λ_=>default)
 |wait X Y=>
  refine λstep g I=>De g λK g=>De g λL g=>De g λM g=>De g λN g=>De g λO _=> ?_;rw[PS K,Tl L]at I;refine x_call (B5 (Tq C F ok n u M N O (by rw[r];exact I.2.1)) λZ P Q=> ?_) i;obtain⟨a,t,o,S,T,v,U,b,V⟩:=Q;rw[r]at b;obtain⟨W,y,b⟩:=b;have B:=F.D.regen (F.D.gens.off I.2.2 y);have h:=vH B.sat n (PW u).2.1 b;rw[U];exact De (step a t o S T v).2 λ_ z=>De z λ_ z=>De z λ_ z=>De z λ_ z=>De z λ_ z=>(IH _ P z ⟨F.B,D,F.Y,B.trans h,⟨I.1,trivial⟩,F.T.app V⟩:)
theorem vZ(h:A.handled=none){st:St}{s:Ab}(F:Ci prog w kt A s₀ L₀ qt st s){d:Option Value}(b:d≠some byPass){k:Result→Sem Fin}{g:Bool}{l:List Value}{i:Code}{e:Ak}{E:List (Nat×(List Nat→List Nat→List Obj→Ak))}(j: ∀q∈E,∀o m r t,AY s₀.toks t m→DX prog w kt s₀ L₀ (q.2 o m r))(ok:DX prog w kt s₀ L₀ e){c:Ae}(n:pick st.L e.idx=some c)(G: ∀α τ ω,BF prog w kt qt A R s₀ L₀ (PN ih α τ ω st d k i e E c)):Dy prog w A R st.c st.fs (.call i d g l k) s:=by
 have step:=vV F G;cases a:e.gn with
 |none=>rw[a]at step;exact vW IH h F b j ok n a step
 |some x=>rw[a]at step;exact vX IH h F b j ok n a step
theorem xA(hden:den=denote table)(hits:FJ prog w its)(j:A.handled=none){st:St}{s:Ab}(F:Ci prog w kt A s₀ L₀ qt st s){b:Option Value}(a:b≠some byPass){k:Result→Sem Fin}{g:Bool}{l:List Value}{c:Code}{E:List (Nat×(List Nat→List Nat→List Obj→Ak))}(d: ∀q∈E,∀n e o r,AY s₀.toks r e→DX prog w kt s₀ L₀ (q.2 n e o))
  (G: ∀α τ ω,BF prog w kt qt A R s₀ L₀ (S9 den its ih α τ ω st b k c E)):Dy prog w A R st.c st.fs (.call c b g l k) s:=by
 cases E with
 |nil=>exact Tp IH hden hits F a d G
 |cons q E=>
  obtain⟨h,i⟩:=List.forall_mem_cons.mp d;obtain⟨m,q⟩:=q;cases m with
  |succ m=>exact Tp IH hden hits F a (E:=(m,q)::E) (List.forall_mem_cons.mpr ⟨h,i⟩) G
  |zero=>exact Ju F G λu t G=>vZ IH j F a i (h _ _ _ _ F.T) t G
theorem xB(a:Ht prog w kt rooms){st:St}{s:Ab}(F:Ci prog w kt A s₀ L₀ qt st s){k:List (Code×Pos)→Sem Fin}{i:Nat}{H:List Nat}(G: ∀α τ ω,BF prog w kt qt A R s₀ L₀ (Ta rooms kt ih α τ ω st k i H)):Dy prog w A R st.c st.fs (.stack k) s:=by
 refine Iy F G λm H G=>Ju F G λr e G=>Hw F G λb G=>De G λd G=> ?_;obtain⟨g,h⟩:=Bool.and_eq_true_iff.mp b;have c:=F.B.here;rw[Tn d,←PySem.W.R.bindR_eq];exact Af (m:=r st.c) (a i r e st.c _ _ st.L _ _ F.D.sat (CQ (CC c.1 _) (Eg g)) (CQ (CC c.2 _) (Eg h)) (IH _ s G (F.cur _ H):))
theorem xC(hden:den=denote table)(c:Ht prog w kt rooms)(hits:FJ prog w its)(hS:(⟨prog,w.2⟩:Setting)=S1∨(⟨prog,w.2⟩:Setting)=S2)(h:A.handled=none){st:St}{s:Ab}(F:Ci prog w kt A s₀ L₀ qt st s){b:Sem Fin}
  (G: ∀α τ ω,BF prog w kt qt A R s₀ L₀ (Tb den rooms its ⟨prog,w.2⟩ S1 S2 kt ih α τ ω st b)):Dy prog w A R st.c st.fs b s:=by
 cases b with
 |pure fin=>
  cases fin with
  |done f=>exact vO IH F F.B G
  |again j=>exact Hw F G λq G=>vT IH hden F q F.B G
 |raise e=>exact vP IH F F.B G
 |rule n k=>exact x_skim 1 (IH _ s G (F.cur _ _):)
 |«at» q k=>exact x_skim 1 (IH _ s G (F.cur _ _):)
 |point l k=>exact x_skim 1 (IH _ s G (F.cur _ _):)
 |ask k=>exact Iy F G λi H G=>vQ IH F hS rfl G
 |load a q k=>
  refine Iy F G λi H G=> ?_;obtain⟨o,e,z⟩:=To IH F G;exact x_load e z
 |loadIfAlive a k=>
  refine Iy F G λi H G=> ?_;obtain⟨o,e,z⟩:=To IH F G;exact vK e z
 |update a q f k=>exact Iy F G λi H G=>vR IH F G
 |alloc o k=>exact Hw F G λd G=>Af (m:=alloc o) (f:=k) (wpAny_alloc (IH {st with cur:=k s.heap.objs.size,L:=st.L++[(s.heap.objs.size,o)],as:=st.as++[s.heap.objs.size]} _ (λα τ ω=>G (λi=>match i with|0=>s.heap.objs.size|i+1=>α i) τ ω) ⟨F.B,F.X,F.Y,F.D.trans (F.D.sat.push ((Lm _).mp d)),F.I,F.T⟩))
 |newGen j k=>exact vS IH F G
 |fresh k=>exact x_fresh (IH {st with cur:=k s.toks,ts:=st.ts++[s.toks]} {s with toks:=s.toks+1} (λα τ ω=>G α (λi=>match i with|0=>s.toks|i+1=>τ i) ω) ⟨F.B,F.X,F.Y,F.D.trans F.D.sat.tok,F.I,F.T.app (show AY s.toks (s.toks+1) [s.toks]from⟨A8 _,A8 _⟩)⟩)
 |handled r k=>
  refine Hw F G λd G=> ?_;rw[(Lm _).mp d];refine x_handled ?_;have e:((Dd A st.fs).under st.c).handled=(Dd A st.fs).handled:=rfl;rw[e,Ti h st.fs];exact(IH _ s G (F.cur _ _):)
 |call j t g l k=>
  refine Hw F G λok G=>xA IH hden hits h F (λe=> ?_) F.X G;rw[e]at ok;simp[SR]at ok
 |stack k=>exact Iy F G λi H G=>xB IH c F G
 |_=>exact Hv F (G id id λ_=>default)
theorem xD(hden:den=denote table)(a:Ht prog w kt rooms)(hits:FJ prog w its)(hS:(⟨prog,w.2⟩:Setting)=S1∨(⟨prog,w.2⟩:Setting)=S2)(b:A.handled=none)(st:St)(s:Ab)(F:Ci prog w kt A s₀ L₀ qt st s)
  (G: ∀α τ ω,BF prog w kt qt A R s₀ L₀ (Tc den rooms its ⟨prog,w.2⟩ S1 S2 kt ih α τ ω st)):Dy prog w A R st.c st.fs st.cur s:=xC IH hden a hits hS b F G
end
theorem NU{prog:Program}{w:Aa}{kt:KT}{den:Code→Sem Fin}{rooms:List (Code→Sem Unit)}{its:List Value}{S1 S2:Setting}(hden:den=denote table)(b:Ht prog w kt rooms)(hits:FJ prog w its)(hS:(⟨prog,w.2⟩:Setting)=S1∨(⟨prog,w.2⟩:Setting)=S2){A:Al}(e:A.handled=none){R:Result→Ab→Prop}{s₀:Ab}{L₀:Ae}{qt:Bool}:
  ∀(n:Nat) (st:St) (s:Ab),Bd A st.fs st.d st.u→(∀q∈st.E,∀c a d g,AY s₀.toks g a→DX prog w kt s₀ L₀ (q.2 c a d))→(∀q∈st.W,∀c a d,(q.2 c a d).1=(q.2 c a d).2)→Ag kt s₀ s L₀ st.L→Jt qt st.gn s₀ s→AY s₀.toks s.toks st.ts→
  (∀α τ ω,BF prog w kt qt A R s₀ L₀ (Ek den rooms its ⟨prog,w.2⟩ S1 S2 kt n α τ ω st))→Dy prog w A R st.c st.fs st.cur s:=by
 intro n
 induction n with
 |zero=>intro st s _ _ _ D I T G;exact((G id id λ_=>default).2 s D T I.q).elim
 |succ n ih=>intro st s B X Y D I T G;exact xD (λst s G F=>ih st s F.B F.X F.Y F.D F.I F.T G) hden b hits hS e st s ⟨B,X,Y,D,I,T⟩ G
theorem NV{prog:Program}{w:Aa}{kt:KT}{den:Code→Sem Fin}{rooms:List (Code→Sem Unit)}{its:List Value}{S1 S2:Setting}(hden:den=denote table)(b:Ht prog w kt rooms)(hits:FJ prog w its)(hS:(⟨prog,w.2⟩:Setting)=S1∨(⟨prog,w.2⟩:Setting)=S2){A:Al}{R:Result→Ab→Prop}{s:Ab}{L:Ae}{c:Code}{H:List Nat}
  {E:List (Nat×(List Nat→List Nat→List Obj→Ak))} {W:List Wd} {ag d u:Nat} (n:Nat) (h:A.handled=none) (i:A.depth≤d) (j:A.units≤u) (X: ∀q∈E,∀e a g k,AY s.toks k a→DX prog w kt s L (q.2 e a g)) (Y: ∀q∈W,∀e a g,(q.2 e a g).1=(q.2 e a g).2) (S:An kt s L)
  (G: ∀α τ ω,BF prog w kt false A R s L (Ek den rooms its ⟨prog,w.2⟩ S1 S2 kt n α τ ω ⟨den c,c,[],L,[],[],[],H,E,W,ag,d,u,.free⟩)):codeAny (model prog w) A c R s:=by
 have z:=NU hden b hits hS h n ⟨den c,c,[],L,[],[],[],H,E,W,ag,d,u,.free⟩ s ⟨i,j⟩ X Y (.refl S) ⟨rfl,trivial⟩ (A8 _) G;subst hden;exact y_code _ _ _ _ _ _ (wpOwn_of_wpAny z)
end
end
section
theorem Ag.pick{kt:KT}{s a:Ab}{L b L'':Ae}(x:Ag kt s a L b){is:List Nat}(e:pick b is=some L'')(d:BS is=true):Ag kt s a L L'':=
 ⟨x.sat.sub e d,x.keep,λp g=>x.new p ((LI e).1 p g),x.size,x.gens,x.os,x.drawn,x.toks⟩
theorem AY.sub{k:Nat}: ∀{e g:List Nat},g.Sublist e→ ∀{d:Nat},AY d k e→AY d k g:=by
 intro e g h
 induction h with
 |slnil=>intro d h;exact h
 | @cons i m a h j=>
  intro d r;have:=j r.2;cases i with
  |nil=>exact r.le
  |cons b l=>exact⟨AC r.1 (AC (Jn _) this.1),this.2⟩
 |cons_cons a _ j=>intro d r;exact⟨r.1,j r.2⟩
section
variable (prog:Program)(w:Aa)(kt:KT)
noncomputable def Ba(A:Al)(c:Code)(L:Ae)(Φ:Result→Ae→List Nat→Prop):Prop:=
 ∀s,An kt s L→codeAny (model prog w) A c (λr a=>B6 λb d=>Φ r b d∧Ag kt s a L b∧AY s.toks a.toks d) s
end
section
variable {prog:Program}{w:Aa}{kt:KT}{den:Code→Sem Fin}{rooms:List (Code→Sem Unit)}{its:List Value}{S1 S2:Setting}(hden:den=denote table)(hroom:Ht prog w kt rooms)(hits:FJ prog w its)(hS:(⟨prog,w.2⟩:Setting)=S1∨(⟨prog,w.2⟩:Setting)=S2){A:Al}{c:Code}{L:Ae}{Φ Φ':Result→Ae→List Nat→Prop}
theorem Ba.mono(h:Ba prog w kt A c L Φ)(m: ∀r d e,Φ r d e→Φ' r d e):Ba prog w kt A c L Φ':=λs S=>
 B5 (h s S) (by rintro r g ⟨d,e,a,b⟩;exact⟨d,e,m r d e a,b⟩)
theorem Ba.ext{e:Ak}(h: ∀A:Al,A.depth≤e.d→A.units≤e.u→A.handled=e.h→
  Ba prog w kt A e.c e.pre λr d b=>B6 λa o=>a.length=e.na∧b.length=e.nt∧o.length=e.no∧r=e.rx o (e.r a b)∧d=Bk e.pre (e.outs a b o)++BI a (e.news a b o))(g:e.gn=none:=by rfl):LL prog w kt e:=λA i j k s S _=>
 B5 (h A i j k s S) (by rintro r z ⟨d,b,⟨a,o,l,m,n,t,u⟩,v,y⟩;exact⟨a,b,o,l,m,n,t,by rw[g];exact u▸v,y⟩)
noncomputable def xE(o:Bx)(a:List Nat):Dw×Option Ae:=(o.e,pick o.L a)
include hden hroom hits hS
theorem xF{H:List Nat}{E:List (Nat×(List Nat→List Nat→List Obj→Ak))}{W:List Wd}{ag d u:Nat}(n:Nat)(C:List Nat)(I:A.handled=none)(J:A.depth≤d)(K:A.units≤u)
  (X: ∀q∈E,∀o l t,LL prog w kt (q.2 o l t)) (Y: ∀q∈W,∀o l t,(q.2 o l t).1=(q.2 o l t).2) (en:Aw→Aw→AU→Dw) (z:Aw→Aw→AU→Ae) (tk:Aw→Aw→AU→List Nat)
  (chk: ∀g i j,(Ek den rooms its ⟨prog,w.2⟩ S1 S2 kt n g i j ⟨den c,c,[],L,[],[],[],H,E,W,ag,d,u,.free⟩).ask=(Ek den rooms its ⟨prog,w.2⟩ S1 S2 kt n g i j ⟨den c,c,[],L,[],[],[],H,E,W,ag,d,u,.free⟩).say∧
   xE (Ek den rooms its ⟨prog,w.2⟩ S1 S2 kt n g i j ⟨den c,c,[],L,[],[],[],H,E,W,ag,d,u,.free⟩) C=(en g i j,some (z g i j)))
  (D: ∀g i j,(tk g i j).Sublist (Ek den rooms its ⟨prog,w.2⟩ S1 S2 kt n g i j ⟨den c,c,[],L,[],[],[],H,E,W,ag,d,u,.free⟩).ts)
  (B:BS C=true)
  (fin: ∀g i j,match en g i j with
   | .done f=>Φ (.ok f) (z g i j) (tk g i j)
   | .err e=>Φ (.error e) (z g i j) (tk g i j)
   | .again F=>Ba prog w kt A F (z g i j) λr v l=>Φ r v (tk g i j++l)
   | .bad _=>False):Ba prog w kt A c L Φ:=by
 intro s S;refine NV hden hroom hits hS (H:=H) (E:=E) (W:=W) (ag:=ag) n I J K (λq M o l t _ _=>(X q M o l t).frm) Y S λg i j=>⟨(chk g i j).1,λN O P _=> ?_⟩
 have Q:=Am Prod.fst (chk g i j).2;have R:=Am Prod.snd (chk g i j).2;have m:=O.pick R B;have y:=P.sub (D g i j);have f:=fin g i j;have G:(Ek den rooms its ⟨prog,w.2⟩ S1 S2 kt n g i j ⟨den c,c,[],L,[],[],[],H,E,W,ag,d,u,.free⟩).e=en g i j:=Q;rw[G];cases h:en g i j with
 |done U=>rw[h]at f;exact⟨_,_,f,m,y⟩
 |err e=>rw[h]at f;exact⟨_,_,f,m,y⟩
 |again F=>
  rw[h]at f;refine B5 (f N m.sat) ?_;rintro r T ⟨v,l,a,b,c⟩;exact⟨v,_,a,m.trans b,y.app c⟩
 |bad k=>rw[h]at f;exact f.elim
end
noncomputable abbrev c0:Code:=.call .none ⟨[],[]⟩
theorem NW{prog:Program}{w:Aa}{kt:KT}{den:Code→Sem Fin}{rooms:List (Code→Sem Unit)}{its:List Value}{S1 S2:Setting}(hden:den=denote table)(hroom:Ht prog w kt rooms)(hits:FJ prog w its)(hS:(⟨prog,w.2⟩:Setting)=S1∨(⟨prog,w.2⟩:Setting)=S2)
  {A:Al} {R:Result→Ab→Prop} {s:Ab} {L:Ae} {H:List Nat} {E:List (Nat×(List Nat→List Nat→List Obj→Ak))} {W:List Wd} {d u:Nat} {T:Type} {t:Sem T} (g:T→Flow) {b:Sem Fin} (l:(t>>=λx=>pure (.done (g x)))=b)
  (n:Nat) (m:A.handled=none) (o:A.depth≤d) (r:A.units≤u) (X: ∀q∈E,∀h a i v,AY s.toks v a→DX prog w kt s L (q.2 h a i)) (Y: ∀q∈W,∀h a i,(q.2 h a i).1=(q.2 h a i).2) (S:An kt s L)
  (G: ∀B C D,BF prog w kt false A R s L (Ek den rooms its ⟨prog,w.2⟩ S1 S2 kt n B C D ⟨b,c0,[],L,[],[],[],H,E,W,0,d,u,.free⟩)):wpAny (model prog w) A t (λx j=>R (.ok (g x)) j) (λe j=>R (.error e) j) s:=by
 have z:=NU hden hroom hits hS m n ⟨b,c0,[],L,[],[],[],H,E,W,0,d,u,.free⟩ s ⟨o,r⟩ X Y (.refl S) ⟨rfl,trivial⟩ (A8 _) G;have z:wpAny (model prog w) A.in1 b (postC prog w A R) (postE R) s:=z;subst l;refine wpAny_of_in1 λF p k=> ?_;have y:=z F p k;rw[Sem.wp_bind']at y;exact y
theorem xG{prog:Program}{w:Aa}{kt:KT}{den:Code→Sem Fin}{rooms:List (Code→Sem Unit)}{its:List Value}{S1 S2:Setting}(hden:den=denote table)(hroom:Ht prog w kt rooms)(hits:FJ prog w its)(hS:(⟨prog,w.2⟩:Setting)=S1∨(⟨prog,w.2⟩:Setting)=S2)
  {A:Al} {R:Result→Ab→Prop} {s:Ab} {L:Ae} {H:List Nat} {E:List (Nat×(List Nat→List Nat→List Obj→Ak))} {W:List Wd} {d u:Nat} {T:Type} {t:Sem T} (g:T→Flow) {b:Sem Fin} (l:(t>>=λx=>pure (.done (g x)))=b)
  (n:Nat) (m:A.handled=none) (o:A.depth≤d) (r:A.units≤u) (X: ∀q∈E,∀h a i v,AY s.toks v a→DX prog w kt s L (q.2 h a i)) (Y: ∀q∈W,∀h a i,(q.2 h a i).1=(q.2 h a i).2) (S:An kt s L)
  (G: ∀B C D,BF prog w kt true A R s L (Ek den rooms its ⟨prog,w.2⟩ S1 S2 kt n B C D ⟨b,c0,[],L,[],[],[],H,E,W,0,d,u,.quiet⟩)):wpAny (model prog w) A t (λx j=>R (.ok (g x)) j) (λe j=>R (.error e) j) s:=by
 have z:=NU hden hroom hits hS m n ⟨b,c0,[],L,[],[],[],H,E,W,0,d,u,.quiet⟩ s ⟨o,r⟩ X Y (.refl S) ⟨rfl,rfl⟩ (A8 _) G;have z:wpAny (model prog w) A.in1 b (postC prog w A R) (postE R) s:=z;subst l;refine wpAny_of_in1 λF p k=> ?_;have y:=z F p k;rw[Sem.wp_bind']at y;exact y
end
set_option maxHeartbeats 8000000
noncomputable def raiseH(a:Env):Sem Unit:=(enterFrame 0).onRaise (leaving a)
lay_quick raiseH
noncomputable def Tr(p:Nat×Obj):Bool:= !Nat.beq p.1 248&& !Nat.beq p.1 329
noncomputable def LN(fr:Frag):KT:=KT.of (List.filter Tr fr)
noncomputable abbrev kt(w:Aa):KT:=LN (tw11500880152897323899 w.2)
noncomputable abbrev den:Code→Sem Fin:=tw11892475500146522536 tw14364793385576792824
theorem GL:den=denote table:=by
 refine (?_:tw11892475500146522536 tw14364793385576792824=_);rw[←te14364793385576792824,←te11892475500146522536,table_eq_tree]
noncomputable def xH:Code→Sem Unit
 | .func _ a=>tw4237129887480848282 a
 |_=>tw15066281185411960212 0
noncomputable abbrev rooms:List (Code→Sem Unit):=[λ_=>tw15066281185411960212 0,λ_=>tw10648789137845014744 "comparison",λ_=>tw10648789137845014744 "call",xH]
theorem Ts(w:Aa): ∃o,(kt w).get 2=some o∧(match o.data with| .dict a _=>a.all (λe=>match e.key with| .str _ _=>true|_=>false)&&(nsFind a "sys.recursionlimit").isNone|_=>false)=true:=
 ⟨tw8851035615930858782 w.2,by kernel_rfl,by kernel_rfl⟩
theorem LO{w:Aa}{s:Ab}{L:Ae}(S:An (kt w) s L):s.heap.NoLimit:=by
 obtain⟨o,e,a⟩:=Ts w;have b:=S.old 2 o e;have c:s.heap.isNs 2=true:=by
  unfold Heap.isNs;rw[b];dsimp only;revert a;cases o.data <;> intro a <;> first|cases a|exact(Bool.and_eq_true_iff.mp a).1
 refine⟨_,.of_isNs c,?_⟩;unfold Heap.nsMap;have d:s.heap.get? cStatics=some o:=b;rw[d];dsimp only;revert a;cases o.data <;> intro a <;> first|cases a|exact Option.isNone_iff_eq_none.mp (Bool.and_eq_true_iff.mp a).2
theorem GM(a:Program)(w b:Aa):Ht a b (kt w) rooms:=by
 intro i r e c A s L Q E S d g q
 match i,e with
 |0,e=>
  cases e;dsimp only;rw[←te15066281185411960212];exact wpAny_enterFrame (LO S) d q
 |3,e=>
  cases e;have j:wpAny (model a b) A (tw15066281185411960212 0) Q E s:=by
   rw[←te15066281185411960212];exact wpAny_enterFrame (LO S) d q
  cases c with
  |func k h=>
   refine (?_:wpAny (model a b) A (tw4237129887480848282 h) Q E s);rw[←te4237129887480848282];exact Fo (wpAny_enterFrame (LO S) d q)
  |_=>exact j
 |1,e=>
  cases e;dsimp only;rw[←te10648789137845014744];exact wpAny_cRoom g q
 |2,e=>
  cases e;dsimp only;rw[←te10648789137845014744];exact wpAny_cRoom g q
noncomputable def wRow(b:Bool)(w:Aa):Aa:=w.withFollow "special-get-raises" b
noncomputable def itsV(_:Unit):List Value:=[.type "range_iterator",.type "list_iterator",.type "tuple_iterator",.type "zip"]
noncomputable def strTab0(_:Unit):List String:=["list.__contains__","list.append","dict.get","dict.__setitem__","dict.setdefault","dict.__contains__","dict.__getitem__","list.__getitem__"]
noncomputable def strTab1(_:Unit):List String:=["sum","sorted","list.sort","list.__eq__","list.__ne__","tuple.__eq__","tuple.__ne__","list.pop"]
noncomputable def strTab2(_:Unit):List String:=["list.extend","str.__iter__","str.__getitem__","max","_heapq.heapify","_heapq.heapreplace","_heapq.heapify.sift","tuple.__lt__"]
noncomputable def strTab3(_:Unit):List String:=["list.__len__","len","list.__add__","str_ascii_iterator.__next__","list.__bool__","str.__lt__","list_iterator.__next__","tuple.__gt__"]
noncomputable def strTab4(_:Unit):List String:=["float.__lt__","float.__eq__","str.__eq__","reverse","default","key","int.__eq__","int.__lt__"]
noncomputable def strTab5(_:Unit):List String:=["map","generator","method-wrapper","list.__iter__","list.__new__","list.__init__","sum.loop","max.loop"]
noncomputable def strTab6(_:Unit):List String:=["list.extend.loop","range_iterator.__next__","int.__gt__","set.__contains__","range.__new__","range.__iter__"]
lay_quick wRow itsV strTab0 strTab1 strTab2 strTab3 strTab4 strTab5 strTab6
theorem xI{c:Program}{w:Aa}{A:Al}{R:Result→Ab→Prop}{s:Ab}{e:Expr}{n:Nat}{j k:Value}{d:Env}(b:Iv e n=true)
  (r:codeAny (model c w) A (.compLoop e n j k d) R s)
  (t: ∀(A:Al) (Q:Value→Ab→Prop) (E:Value→Ab→Prop),Q j s→wpAny (model c w) A (pyIter j) Q E s):codeAny (model c w) A (.compStart e n j k d) R s:=by
 cases e with
 |ListComp m a i o=>
  have u: ∃g,a[n]? =some g∧g.is_async=0:=by
   unfold Iv at b;dsimp only at b;have key: ∀(l:List Comprehension) (n:Nat),Iv.nthC l n=l[n]? :=by
    intro l
    induction l with
    |nil=>intro n;cases n <;> rfl
    |cons g l v=>intro n;cases n with
     |zero=>rfl
     |succ n=>exact v n
   rw[key]at b;cases h:a[n]? with
   |none=>rw[h]at b;cases b
   |some g=>rw[h]at b;exact⟨g,rfl,by simpa using b⟩
  obtain⟨g,y,z⟩:=u;refine Hp ?_;refine (?_:wpAny _ _ ((compStart (.ListComp m a i o) n j k d).onRaise (λx=>do noteFrame x d;standAt theWindowsPlace)) _ _ s);refine wpAny_notedAt ?_;unfold compStart;have B:clausesOf (.ListComp m a i o)=a:=rfl;rw[B,y];rw[AI (by show¬(g.is_async != 0)=true;rw[z];decide)];refine Af (wpAny_askSetting (wpAny_ite ?_))
  split
  ·exact Af (Ap (Ap (And.intro rfl r)))
  ·exact Af (FI (Af (Du (Af (t _ _ _ (Ap (And.intro rfl r)))))))
 |_=>cases b
theorem xJ(d:Program)(w:Aa):FJ d w (itsV ()):=by
 intro j T e A l n i k R s a o c b g h;refine xI g h λA Q E q=> ?_
 match j,e with
 |0,e=>
  cases e;have b:s.TypeIs (.ref a) "range_iterator":=⟨_,c,b⟩
  refine wpAny_pyIter_slot b F.slot_range_iterator_iter (wpAny_call_entry F.slot_range_iterator_iter b F.entry_range_iterator_iter ?_ (F.args_range_iterator_iter_1 _));refine (?_:wpAny _ _ (ret (.ref a)) _ _ s);exact Ap ⟨_,rfl,"range_iterator",_,b,F.slot_range_iterator_next.lookup,q⟩
 |1,e=>
  cases e;have b:s.TypeIs (.ref a) "list_iterator":=⟨_,c,b⟩
  refine wpAny_pyIter_slot b slot_listiter_iter (wpAny_call_entry slot_listiter_iter b entry_listiter_iter ?_ (args_listiter_iter _));refine (?_:wpAny _ _ (ret (.ref a)) _ _ s);exact Ap ⟨_,rfl,"list_iterator",_,b,slot_listiter_next.lookup,q⟩
 |2,e=>
  cases e;have b:s.TypeIs (.ref a) "tuple_iterator":=⟨_,c,b⟩
  refine wpAny_pyIter_slot b F.slot_tuple_iterator_iter (wpAny_call_entry F.slot_tuple_iterator_iter b F.entry_tuple_iterator_iter ?_ (F.args_tuple_iterator_iter_1 _));refine (?_:wpAny _ _ (ret (.ref a)) _ _ s);exact Ap ⟨_,rfl,"tuple_iterator",_,b,F.slot_tuple_iterator_next.lookup,q⟩
 |3,e=>
  cases e;have b:s.TypeIs (.ref a) "zip":=⟨_,c,b⟩
  refine wpAny_pyIter_slot b F.slot_zip_iter (wpAny_call_entry F.slot_zip_iter b F.entry_zip_iter ?_ (F.args_zip_iter_1 _));refine (?_:wpAny _ _ (ret (.ref a)) _ _ s);exact Ap ⟨_,rfl,"zip",_,b,F.slot_zip_next.lookup,q⟩
section
open PySem.W.ZRun
theorem xK{kt:KT}{s i:Ab}{h:Obj}{j k:Array Value}(u:s.heap.get? 333=some h)(v:isCodeTable s.heap 248)(w:isCodeTable s.heap 329)(y:s.heap.get? 248=some (tableObj #[]))(z:s.heap.get? 329=some (tableObj #[]))
  (l:Ag kt s i [(333,h),(248,tableObj #[]),(329,tableObj #[])] [(333,h),(248,tableObj j),(329,tableObj k)]):OldK s.heap i.heap:=by
 have m:=l.sat.mem;have n:=m (333,h) (by (first|((repeat(first|exact .head _|apply List.mem_cons_of_mem));done)|simp));have r:=m (248,tableObj j) (by (first|((repeat(first|exact .head _|apply List.mem_cons_of_mem));done)|simp));have t:=m (329,tableObj k) (by (first|((repeat(first|exact .head _|apply List.mem_cons_of_mem));done)|simp));have key: ∀b o,s.heap.get? b=some o→asItWas s.heap i.heap b o:=by
  intro b o e
  by_cases a:b=333
  ·subst a
   rw[u]at e;cases e;exact .inl n
  ·by_cases c:b=248
   ·subst c
    rw[y]at e;cases e;exact .inr (.inl ⟨v,rfl,#[],j,rfl,by rw[Array.empty_append];exact r⟩)
   ·by_cases d:b=329
    ·subst d
     rw[z]at e;cases e;exact .inr (.inl ⟨w,rfl,#[],k,rfl,by rw[Array.empty_append];exact t⟩)
    ·refine .inl (l.keep b o e λp g=> ?_)
     simp only[Jm,Jk,or_false]at g;rcases g with rfl|rfl|rfl
     ·exact Ne.symm a
     ·exact Ne.symm c
     ·exact Ne.symm d
 refine⟨key,λb o e=> ?_⟩
 by_cases a:b=333
 ·subst a;exact⟨_,n⟩
 ·by_cases c:b=248
  ·subst c;exact⟨_,r⟩
  ·by_cases d:b=329
   ·subst d;exact⟨_,t⟩
   ·refine⟨o,l.keep b o e λp g=> ?_⟩
    simp only[Jm,Jk,or_false]at g;rcases g with rfl|rfl|rfl
    ·exact Ne.symm a
    ·exact Ne.symm c
    ·exact Ne.symm d
end
noncomputable abbrev GN:List Value:=tw10928194292921660888 ()
noncomputable abbrev wR(b:Bool)(w:Aa):Aa:=tw15226136637599360411 b w
noncomputable abbrev walk(w:Aa)(n:Nat)(a b:Aw)(e:AU)(c:Code)(L:Ae)(H:List Nat)(E:List (Nat×(List Nat→List Nat→List Obj→Ak)))(W:List Wd)(g d u:Nat):Bx:=
 Ek den rooms GN ⟨pw,w.2⟩ ⟨pw,(wR true w).params⟩ ⟨pw,(wR false w).params⟩ (kt w) n a b e ⟨den c,c,[],L,[],[],[],H,E,W,g,d,u,.free⟩
theorem hS(w:Aa):(⟨pw,w.2⟩:Setting)=⟨pw,(wR true w).params⟩∨(⟨pw,w.2⟩:Setting)=⟨pw,(wR false w).params⟩:=by
 have e: ∀b,wR b w=w.withFollow "special-get-raises" b:=λb=>(Ai (Ai te15226136637599360411 b) w).symm;have h:=World.withFollow_self w "special-get-raises";rw[e,e];cases a:w.2.followText "special-get-raises" with
 |true=>rw[a]at h;rw[h];exact .inl rfl
 |false=>rw[a]at h;rw[h];exact .inr rfl
theorem FK(a:Program)(w:Aa):FJ a w GN:=by
 have e:itsV ()=GN:=Ai te10928194292921660888 ();rw[←e];exact xJ a w
noncomputable abbrev RunsW(w:Aa)(A:Al)(c:Code)(L:Ae)(a:Result→Ae→List Nat→Prop):Prop:=Ba pw w (kt w) A c L a
noncomputable abbrev Av(w:Aa)(e:Ak):Prop:=LL pw w (kt w) e
noncomputable def fin(o:Bx)(a:List Nat):List EN×Dw×Option Ae×List Nat:=(o.ask,o.e,pick o.L a,o.ts)
noncomputable def Ge:List Nat→Nat→Nat→Bool
 |[],_,_=>true
 |i::a,b,N=>Nat.ble b i&&Nat.blt i N&&Ge a (i+1) N
theorem xL(a:Aw): ∀(N i:Nat),i<N→(Dm a N)[i]? =some (a i):=by
 intro N
 induction N generalizing a with
 |zero=>intro i h;(first|lia|omega)
 |succ N b=>
  intro i h;cases i with
  |zero=>rfl
  |succ i=>exact b (λj=>a (j+1)) i (by (first|lia|omega))
theorem Kh(a:Aw)(N:Nat):Dm a N=(List.range N).map a:=by
 apply List.ext_getElem?;intro i
 by_cases h:i<N
 ·rw[xL a N i h,Jh,Li h];rfl
 ·rw[J3 (by rw[LK];(first|lia|omega)),J3 (by (first|((repeat(first|exact .head _|apply List.mem_cons_of_mem));done)|simp);(first|lia|omega))]
theorem Ki{N:Nat}: ∀{d:List Nat} {c:Nat},Ge d c N=true→d.Sublist (List.range' c (N-c)):=by
 intro d
 induction d with
 |nil=>intro c _;exact List.nil_sublist _
 |cons i d e=>
  intro c h;unfold Ge at h;simp only[Fn]at h;obtain⟨⟨g,j⟩,k⟩:=h;have g:=Eg g;have j:i<N:=Eg j;obtain⟨a,rfl⟩:=Nat.exists_eq_add_of_le g;obtain⟨b,rfl⟩:=Nat.exists_eq_add_of_le (show c+a+1≤N from j);have e:=e k;rw[Lf]at e;rw[show c+a+1+b-c=a+(b+1) by rw[Ls (c+a),Ls c,Lf,Nat.add_comm 1 b],←List.range'_append_1,NI];exact(e.cons_cons _).trans (Nx _ _)
theorem Tt{w:Aa}{A:Al}{c:Code}{L:Ae}{l:Result→Ae→List Nat→Prop}{H:List Nat}{E:List (Nat×(List Nat→List Nat→List Obj→Ak))}{W:List Wd}{i d u:Nat}(n N:Nat)(s tk:List Nat)
  (z:A.handled=none) (B:A.depth≤d) (C:A.units≤u) (X: ∀q∈E,∀m j o,Av w (q.2 m j o)) (Y: ∀q∈W,∀m j o,(q.2 m j o).1=(q.2 m j o).2)
  (en:Aw→Aw→AU→Dw) (k:Aw→Aw→AU→Ae)
  (chk: ∀b a g,fin (walk w n b a g c L H E W i d u) s=((walk w n b a g c L H E W i d u).say,en b a g,some (k b a g),Dm a N))
  (t:BS s=true) (v:Ge tk 0 N=true)
  (fi: ∀b a g,match en b a g with
   | .done f=>l (.ok f) (k b a g) (tk.map a)
   | .err e=>l (.error e) (k b a g) (tk.map a)
   | .again D=>RunsW w A D (k b a g) λr y j=>l r y (tk.map a++j)
   | .bad _=>False):RunsW w A c L l:=by
 refine xF GL (GM pw w w) (FK pw w) (hS w) (H:=H) (E:=E) (W:=W) (ag:=i) n s z B C X Y en k (λ_ a _=>tk.map a) (λb a g=> ?_) (λb a g=> ?_) t fi
 ·have h:=chk b a g
  have F:=Am Prod.fst h;have G:=Am (λx=>(x.2.1,x.2.2.1)) h;exact⟨F,G⟩
 ·have h:=Am (λx=>x.2.2.2) (chk b a g)
  have I:(walk w n b a g c L H E W i d u).ts=Dm a N:=h;show(tk.map a).Sublist (walk w n b a g c L H E W i d u).ts;rw[I,Kh];have:=(Ki v).map a;rwa[Ka,←Hl]at this
noncomputable def LP(F:(Aw→Aw→AU→Bx))(a:List Nat):(Aw→Aw→AU→List EN×Dw×Option Ae×List Nat):=λb c d=>fin (F b c d) a
noncomputable def LQ(F:(Aw→Aw→AU→Bx))(en:Aw→Aw→AU→Dw)(d:Aw→Aw→AU→Ae)(N:Nat):(Aw→Aw→AU→List EN×Dw×Option Ae×List Nat):=λb a c=>((F b a c).say,en b a c,some (d b a c),Dm a N)
theorem Gf{F:(Aw→Aw→AU→Bx)}{d:List Nat}{en:Aw→Aw→AU→Dw}{e:Aw→Aw→AU→Ae}{N:Nat}(k:LP F d=LQ F en e N)(b a:Aw)(c:AU):fin (F b a c) d=((F b a c).say,en b a c,some (e b a c),Dm a N):=Ai (Ai (Ai k b) a) c
noncomputable def Tv(w:Aa)(n:Nat)(c:Code)(L:Ae)(H:List Nat)(E:List (Nat×(List Nat→List Nat→List Obj→Ak)))(W:List Wd)(a d u:Nat):(Aw→Aw→AU→Bx):=λb e g=>walk w n b e g c L H E W a d u
noncomputable abbrev AD(w:Aa)(n:Nat)(c:Code)(L:Ae)(H:List Nat)(E:List (Nat×(List Nat→List Nat→List Obj→Ak)))(W:List Wd)(a d u:Nat)(b:List Nat)(en:Aw→Aw→AU→Dw)(e:Aw→Aw→AU→Ae)(N:Nat):Prop:=
 LP (Tv w n c L H E W a d u) b=LQ (Tv w n c L H E W a d u) en e N
theorem Bc{w:Aa}{A:Al}{c:Code}{L:Ae}{Φ:Result→Ae→List Nat→Prop}{H:List Nat}{E:List (Nat×(List Nat→List Nat→List Obj→Ak))}{W:List Wd}{r d u n N:Nat}{j:List Nat}{f:Aw→Aw→AU→Flow}{l:Aw→Aw→AU→Ae}
  (k:AD w n c L H E W r d u j (λb a e=>.done (f b a e)) l N) (tk:List Nat) (s:A.handled=none) (t:A.depth≤d) (v:A.units≤u) (X: ∀q∈E,∀g h i,Av w (q.2 g h i)) (Y: ∀q∈W,∀g h i,(q.2 g h i).1=(q.2 g h i).2)
  (fi: ∀b a e,Φ (.ok (f b a e)) (l b a e) (tk.map a)) (m:BS j=true:=by rfl) (o:Ge tk 0 N=true:=by rfl):RunsW w A c L Φ:=
 Tt n N j tk s t v X Y _ l (Gf k) m o fi
theorem Dz{w:Aa}{A:Al}{c:Code}{L:Ae}{o:Result→Ae→List Nat→Prop}{H:List Nat}{E:List (Nat×(List Nat→List Nat→List Obj→Ak))}{W:List Wd}{v d u n N:Nat}{j:List Nat}{f:Aw→Aw→AU→Code}{l:Aw→Aw→AU→Ae}
  (k:AD w n c L H E W v d u j (λe b g=>.again (f e b g)) l N) (tk:List Nat) (y:A.handled=none) (z:A.depth≤d) (B:A.units≤u) (X: ∀q∈E,∀h a i,Av w (q.2 h a i)) (Y: ∀q∈W,∀h a i,(q.2 h a i).1=(q.2 h a i).2)
  (fi: ∀e b g,RunsW w A (f e b g) (l e b g) λr s a=>o r s (tk.map b++a)) (m:BS j=true:=by rfl) (t:Ge tk 0 N=true:=by rfl):RunsW w A c L o:=
 Tt n N j tk y z B X Y _ l (Gf k) m t fi
noncomputable abbrev Hx(w:Aa)(n:Nat)(a b:Aw)(c:AU)(t:Sem AE)(L:Ae)(H:List Nat)(E:List (Nat×(List Nat→List Nat→List Obj→Ak)))(W:List Wd)(d u:Nat):Bx:=
 Ek den rooms GN ⟨pw,w.2⟩ ⟨pw,(wR true w).params⟩ ⟨pw,(wR false w).params⟩ (kt w) n a b c ⟨t,c0,[],L,[],[],[],H,E,W,0,d,u,.free⟩
noncomputable def Tw(w:Aa)(n:Nat)(t:Sem AE)(L:Ae)(H:List Nat)(E:List (Nat×(List Nat→List Nat→List Obj→Ak)))(W:List Wd)(d u:Nat):(Aw→Aw→AU→Bx):=λa b c=>Hx w n a b c t L H E W d u
noncomputable abbrev AG(w:Aa)(n:Nat)(t:Sem AE)(L:Ae)(H:List Nat)(E:List (Nat×(List Nat→List Nat→List Obj→Ak)))(W:List Wd)(d u:Nat)(a:List Nat)(en:Aw→Aw→AU→Dw)(b:Aw→Aw→AU→Ae)(N:Nat):Prop:=
 LP (Tw w n t L H E W d u) a=LQ (Tw w n t L H E W d u) en b N
noncomputable def Iz{a:Type _}(g:Nat→a):List Nat→List a
 |[]=>[]
 |i::l=>g i::Iz g l
theorem Tx{a:Type _}{f g:Nat→a}: ∀{l:List Nat},l.map f=Iz g l→ ∀i∈l,f i=g i
 |_::_,h,_,.head _=>(J9 h).1
 |_::_,h,_,.tail _ m=>Tx (J9 h).2 _ m
theorem GO{a:Type _}{f g:Nat→a}(n:Nat)(h:(List.range n).map f=Iz g (List.range n))(i:Nat)(b:i<n):f i=g i:=Tx h i (List.mem_range.mpr b)
theorem xM{a:Type _}{f g:Nat→Nat→a}(n:Nat)(h:(List.range n).map (λi=>(List.range n).map (f i))=Iz (λi=>Iz (g i) (List.range n)) (List.range n))(i:Nat)(b:i<n)(j:Nat)(c:j<n):f i j=g i j:=GO n (GO n h i b) j c
theorem Ty{a:Type _}{f g:Nat→Nat→a}(n:Nat)(h:(List.range n).map (λi=>(List.range i).map (f i))=Iz (λi=>Iz (g i) (List.range i)) (List.range n))(i:Nat)(b:i<n)(j:Nat)(c:j<i):f i j=g i j:=GO i (GO n h i b) j c
noncomputable def tB{a:Type _}(f:Bool→a):a×a:=(f true,f false)
noncomputable def uB{a:Type _}(g:Bool→a):a×a:=(g true,g false)
theorem PX{a:Type _}{f g:Bool→a}(h:tB f=uB g)(b:Bool):f b=g b:=by
 cases b
 ·exact Am Prod.snd h
 ·exact Am Prod.fst h
theorem PY{c:Type _}{f g:Bool→Bool→c}(h:tB (λa=>tB (f a))=uB (λa=>uB (g a)))(a b:Bool):f a b=g a b:=PX (PX (f:=λa=>tB (f a)) h a) b
theorem xN{d:Type _}{f g:Bool→Bool→Bool→d}(h:tB (λa=>tB (λb=>tB (f a b)))=uB (λa=>uB (λb=>uB (g a b))))(a b c:Bool):f a b c=g a b c:=PX (PY (f:=λa b=>tB (f a b)) h a b) c
theorem Tz{a:Type _}{f g:Nat→Bool→a}(n:Nat)(h:(List.range n).map (λi=>(f i true,f i false))=Iz (λi=>(g i true,g i false)) (List.range n))(i:Nat)(c:i<n)(b:Bool):f i b=g i b:=by
 have q:=GO n h i c;cases b
 ·exact Am Prod.snd q
 ·exact Am Prod.fst q
theorem Bq{w:Aa}{A:Al}{L:Ae}{H:List Nat}{E:List (Nat×(List Nat→List Nat→List Obj→Ak))}{W:List Wd}{d u n N:Nat}{y:List Nat}{f:Aw→Aw→AU→Flow}{B:Aw→Aw→AU→Ae}{o:Sem AE}{T:Type}{t:Sem T}
  (k:AG w n o L H E W d u y (λb a c=>.done (f b a c)) B N) (g:T→Flow) (G:(t>>=λx=>pure (.done (g x)))=o) (tk:List Nat) (I:A.handled=none) (J:A.depth≤d) (K:A.units≤u) (X: ∀q∈E,∀j l m,Av w (q.2 j l m)) (Y: ∀q∈W,∀j l m,(q.2 j l m).1=(q.2 j l m).2)
  {s:Ab} (S:An (kt w) s L) {Q:T→Ab→Prop} {M:Value→Ab→Prop}
  (fi: ∀b a c i x,Ag (kt w) s i L (B b a c)→AY s.toks i.toks (tk.map a)→g x=f b a c→Q x i) (v:BS y=true:=by rfl) (C:Ge tk 0 N=true:=by rfl):wpAny (model pw w) A t Q M s:=by
 have z:=NW (R:=λr i=>match r with| .ok O=> ∀x,g x=O→Q x i| .error _=>False) GL (GM pw w w) (FK pw w) (hS w) (H:=H) (E:=E) (W:=W) g G n I J K (λq P j l m _ _=>(X q P j l m).frm) Y S λb a c=> ?_
 ·exact CE z (λx i h=>h x rfl) λe i h=>False.elim h
 ·have h:=Gf k b a c
  have U:=Am Prod.fst h;have V:=Am (λx=>x.2.1) h;have Z:=Am (λx=>x.2.2.1) h;have h4:(Hx w n b a c o L H E W d u).ts=Dm a N:=Am (λx=>x.2.2.2) h;refine⟨U,λi st ri _=> ?_⟩;have D:=st.pick Z v;have F:AY s.toks i.toks (tk.map a):=ri.sub (by
   show(tk.map a).Sublist (Hx w n b a c o L H E W d u).ts;rw[h4,Kh];have:=(Ki C).map a;rwa[Ka,←Hl]at this)
  have e1:(Hx w n b a c o L H E W d u).e= .done (f b a c):=V;rw[e1];exact λx hx=>fi b a c i x D F hx
noncomputable abbrev NX(w:Aa)(n:Nat)(a b:Aw)(c:AU)(t:Sem AE)(L:Ae)(H:List Nat)(E:List (Nat×(List Nat→List Nat→List Obj→Ak)))(W:List Wd)(d u:Nat):Bx:=
 Ek den rooms GN ⟨pw,w.2⟩ ⟨pw,(wR true w).params⟩ ⟨pw,(wR false w).params⟩ (kt w) n a b c ⟨t,c0,[],L,[],[],[],H,E,W,0,d,u,.quiet⟩
noncomputable def TA(w:Aa)(n:Nat)(t:Sem AE)(L:Ae)(H:List Nat)(E:List (Nat×(List Nat→List Nat→List Obj→Ak)))(W:List Wd)(d u:Nat):(Aw→Aw→AU→Bx):=λa b c=>NX w n a b c t L H E W d u
noncomputable abbrev TB(w:Aa)(n:Nat)(t:Sem AE)(L:Ae)(H:List Nat)(E:List (Nat×(List Nat→List Nat→List Obj→Ak)))(W:List Wd)(d u:Nat)(a:List Nat)(en:Aw→Aw→AU→Dw)(b:Aw→Aw→AU→Ae)(N:Nat):Prop:=
 LP (TA w n t L H E W d u) a=LQ (TA w n t L H E W d u) en b N
theorem xO{w:Aa}{A:Al}{L:Ae}{H:List Nat}{E:List (Nat×(List Nat→List Nat→List Obj→Ak))}{W:List Wd}{d u n N:Nat}{y:List Nat}{f:Aw→Aw→AU→Flow}{B:Aw→Aw→AU→Ae}{o:Sem AE}{T:Type}{t:Sem T}
  (k:TB w n o L H E W d u y (λb a c=>.done (f b a c)) B N) (g:T→Flow) (G:(t>>=λx=>pure (.done (g x)))=o) (tk:List Nat) (I:A.handled=none) (J:A.depth≤d) (K:A.units≤u) (X: ∀q∈E,∀j l m,Av w (q.2 j l m)) (Y: ∀q∈W,∀j l m,(q.2 j l m).1=(q.2 j l m).2)
  {s:Ab} (S:An (kt w) s L) {Q:T→Ab→Prop} {M:Value→Ab→Prop}
  (fi: ∀b a c i x,i.gens=s.gens→Ag (kt w) s i L (B b a c)→AY s.toks i.toks (tk.map a)→g x=f b a c→Q x i) (v:BS y=true:=by rfl) (C:Ge tk 0 N=true:=by rfl):wpAny (model pw w) A t Q M s:=by
 have z:=xG (R:=λr i=>match r with| .ok O=> ∀x,g x=O→Q x i| .error _=>False) GL (GM pw w w) (FK pw w) (hS w) (H:=H) (E:=E) (W:=W) g G n I J K (λq P j l m _ _=>(X q P j l m).frm) Y S λb a c=> ?_
 ·exact CE z (λx i h=>h x rfl) λe i h=>False.elim h
 ·have h:=Gf k b a c
  have U:=Am Prod.fst h;have V:=Am (λx=>x.2.1) h;have Z:=Am (λx=>x.2.2.1) h;have h4:(NX w n b a c o L H E W d u).ts=Dm a N:=Am (λx=>x.2.2.2) h;refine⟨U,λi st ri gq=> ?_⟩;have D:=st.pick Z v;have F:AY s.toks i.toks (tk.map a):=ri.sub (by
   show(tk.map a).Sublist (NX w n b a c o L H E W d u).ts;rw[h4,Kh];have:=(Ki C).map a;rwa[Ka,←Hl]at this)
  have e1:(NX w n b a c o L H E W d u).e= .done (f b a c):=V;rw[e1];exact λx hx=>fi b a c i x (gq rfl) D F hx
theorem AR{w:Aa}: ∀q∈([]:List (Nat×(List Nat→List Nat→List Obj→Ak))),∀a b c,Av w (q.2 a b c):=λ_ h=>(nomatch h)
theorem Ar: ∀q∈([]:List Wd),∀a b c,(q.2 a b c).1=(q.2 a b c).2:=λ_ h=>(nomatch h)
theorem IA{w:Aa}{A:Al}{e:Expr}{n:Nat}{c:Addr}{a:Value}{b:Env}{L:Ae}{Φ:Result→Ae→List Nat→Prop}(j:Nat){o:Obj}(h:RunsW w A (.compLoop e n (.ref c) a b) L Φ)(d:(c,o)∈L)
  (g:NN GN j=some o.cls) (i:Iv e n=true):RunsW w A (.compStart e n (.ref c) a b) L Φ:=λs S=>
 FK pw w j o.cls g A e n a b _ s c o (S.mem _ d) rfl i (h s S)
noncomputable abbrev pT:Program:=tw749736533983998154
noncomputable def DY(i:Nat):Stmt:=AF pT.main.body i
noncomputable def EO(i j:Nat):Stmt:=AF (AO (DY i)) j
noncomputable def ek:Expr→List Nat→Expr
 |e,[]=>e
 |e,i::a=>ek (A9 (Br e) i) a
noncomputable def sk(s:Stmt)(i:Nat)(a:List Nat):Expr:=ek (A9 (Ke s) i) a
noncomputable abbrev LR:Value:=.type s9222952809800978799x4
noncomputable abbrev CT:Value:=.type s658472552662922059x5
noncomputable abbrev PZ:Value:=.type s14018661285674007319x4
noncomputable abbrev P0:Value:=.type s2766695959194262286x5
noncomputable abbrev Ez:Value:=.type s15992201931430999065x14
noncomputable abbrev Bo:Value:=.type s3492446563574874994x13
noncomputable abbrev LS:Value:=.type s14339709457334898076x3
noncomputable abbrev xP:Value:=.type s3642769012341782148x3
noncomputable abbrev NY:Value:=.type s1438033511350832697x5
noncomputable abbrev EA:Value:=.type s13500813778147066322x18
noncomputable abbrev Gg:Value:=.type s14340494229221121180x9
noncomputable abbrev xQ:Value:=.type s15660640913423913556x4
noncomputable abbrev Jw:Value:=.type s11030030927630378310x26
noncomputable abbrev LT:Value:=.type s5991306692159431302x13
noncomputable abbrev Kj:Value:=.type s7801419657504700863x10
noncomputable abbrev xR:Value:=.type s7174869446012820540x8
noncomputable abbrev P2:Value:=.type s462964344163437139x3
noncomputable abbrev IB:Value:=.type s4674234679698826739x5
noncomputable abbrev Kk:Value:=.type s2742458400755230247x6
noncomputable abbrev TC:Value:=.type s6181755712446570794x6
noncomputable abbrev en(P:Aj)(n:Str)(v:Value):DictEntry:=⟨PyData.keyHash P n,.str n 0,v⟩
noncomputable abbrev Aq(P:Aj)(n:Str)(t:Nat)(v:Value):DictEntry:=⟨PyData.keyHash P n,.str n t,v⟩
noncomputable def TD(b:Nat):Nat→Nat→List Nat→List Nat
 |0,_,l=>l
 |f+1,n,l=>match n/b with
  |0=>l
  |m+1=>TD b f (m+1) (n%b::l)
noncomputable def dg(b n:Nat):List Nat:=TD b 2000 n []
noncomputable def rl(b n:Nat):List Nat:=(dg b n).flatMap λx=>Cd (x%16) (x/16)
noncomputable def zr(n:Nat)(l:List Nat):List Nat:=.range n++l
noncomputable abbrev Ad(w:Aa)(n:Str)(y:Nat)(v:Value):DictEntry:=Aq w.params n y v
noncomputable abbrev fr(a:List DictEntry)(n:Nat):Obj:=⟨CT,none,.dict ⟨a⟩ n,⟨[]⟩⟩
noncomputable abbrev li(a:List Value)(n:Nat):Obj:=⟨LR,none,.seq ⟨a⟩ n,⟨[]⟩⟩
noncomputable abbrev tu(a:List Value)(n:Nat):Obj:=⟨P0,none,.seq ⟨a⟩ n,⟨[]⟩⟩
noncomputable abbrev di(a:List DictEntry)(n:Nat):Obj:=⟨PZ,none,.dict ⟨a⟩ n,⟨[]⟩⟩
noncomputable abbrev ce(v:Option Value):Obj:=⟨xQ,none,.cell v,⟨[]⟩⟩
noncomputable abbrev fi(t:Value)(a:List Value):Obj:=⟨t,none,.fields ⟨a⟩,⟨[]⟩⟩
noncomputable abbrev Hy:Str:=⟨⟨[46,48]⟩⟩
noncomputable abbrev xS:Str:=⟨⟨[95,104,101,97,112,114,101,112,108,97,99,101]⟩⟩
noncomputable abbrev xT:Str:=⟨⟨[95,108,97,119,95,116,101,120,116]⟩⟩
noncomputable abbrev xU:Str:=⟨⟨[95,108,97,119,95,116,117,114,110,101,100]⟩⟩
noncomputable abbrev EP:Str:=⟨⟨[95,111,114,100,101,114]⟩⟩
noncomputable abbrev Cq:Str:=⟨⟨[97]⟩⟩
noncomputable abbrev CF:Str:=⟨⟨[97,99,116,117,97,108]⟩⟩
noncomputable abbrev TF:Str:=⟨⟨[97,104,105]⟩⟩
noncomputable abbrev TG:Str:=⟨⟨[97,108,111]⟩⟩
noncomputable abbrev TH:Str:=⟨⟨[97,117,116,111,106,117,110,107]⟩⟩
noncomputable abbrev xV:Str:=⟨⟨[97,118,97,105,108]⟩⟩
noncomputable abbrev xW:Str:=⟨⟨[97,118,97,105,108,104,97,115]⟩⟩
noncomputable abbrev LU:Str:=⟨⟨[98]⟩⟩
noncomputable abbrev NZ:Str:=⟨⟨[98,50,106]⟩⟩
noncomputable abbrev xX:Str:=⟨⟨[98,101,115,116,105]⟩⟩
noncomputable abbrev xZ:Str:=⟨⟨[98,101,115,116,106]⟩⟩
noncomputable abbrev yB:Str:=⟨⟨[98,101,115,116,115,105,122,101]⟩⟩
noncomputable abbrev TJ:Str:=⟨⟨[98,104,105]⟩⟩
noncomputable abbrev TK:Str:=⟨⟨[98,106,117,110,107]⟩⟩
noncomputable abbrev TM:Str:=⟨⟨[98,108,111]⟩⟩
noncomputable abbrev TN:Str:=⟨⟨[98,112,111,112,117,108,97,114]⟩⟩
noncomputable abbrev Hz:Str:=⟨⟨[99,111,100,101]⟩⟩
noncomputable abbrev yC:Str:=⟨⟨[99,117,116,111,102,102]⟩⟩
noncomputable abbrev LW:Str:=⟨⟨[100,117,101]⟩⟩
noncomputable abbrev CU:Str:=⟨⟨[101]⟩⟩
noncomputable abbrev Bt:Str:=⟨⟨[101,108,101,109]⟩⟩
noncomputable abbrev N0:Str:=⟨⟨[101,108,101,109,101,110,116]⟩⟩
noncomputable abbrev Oa:Str:=⟨⟨[101,108,116]⟩⟩
noncomputable abbrev CG:Str:=⟨⟨[101,120,112,101,99,116,101,100]⟩⟩
noncomputable abbrev DE:Str:=⟨⟨[102,108,105,112]⟩⟩
noncomputable abbrev Ob:Str:=⟨⟨[102,117,108,108,98,99,111,117,110,116]⟩⟩
noncomputable abbrev yD:Str:=⟨⟨[102,117,110,99,116,105,111,110]⟩⟩
noncomputable abbrev GP:Str:=⟨⟨[103,114,101,97,116]⟩⟩
noncomputable abbrev By:Str:=⟨⟨[105]⟩⟩
noncomputable abbrev Jx:Str:=⟨⟨[105,110,100,105,99,101,115]⟩⟩
noncomputable abbrev yE:Str:=⟨⟨[105,110,105,116,105,97,108]⟩⟩
noncomputable abbrev yF:Str:=⟨⟨[105,115,98,106,117,110,107]⟩⟩
noncomputable abbrev TP:Str:=⟨⟨[105,115,106,117,110,107]⟩⟩
noncomputable abbrev DZ:Str:=⟨⟨[105,116]⟩⟩
noncomputable abbrev Oc:Str:=⟨⟨[105,116,101,114,97,98,108,101]⟩⟩
noncomputable abbrev CL:Str:=⟨⟨[106]⟩⟩
noncomputable abbrev yG:Str:=⟨⟨[106,50,108,101,110]⟩⟩
noncomputable abbrev TQ:Str:=⟨⟨[106,50,108,101,110,103,101,116]⟩⟩
noncomputable abbrev BW:Str:=⟨⟨[107]⟩⟩
noncomputable abbrev yH:Str:=⟨⟨[107,101,121]⟩⟩
noncomputable abbrev yI:Str:=⟨⟨[108,97]⟩⟩
noncomputable abbrev yJ:Str:=⟨⟨[108,98]⟩⟩
noncomputable abbrev yK:Str:=⟨⟨[108,101,110]⟩⟩
noncomputable abbrev HA:Str:=⟨⟨[108,105,107,101]⟩⟩
noncomputable abbrev yL:Str:=⟨⟨[109,97,115,107]⟩⟩
noncomputable abbrev HB:Str:=⟨⟨[109,97,116,99,104,101,115]⟩⟩
noncomputable abbrev P3:Str:=⟨⟨[109,97,116,99,104,105,110,103,95,98,108,111,99,107,115]⟩⟩
noncomputable abbrev C0:Str:=⟨⟨[109,105,115,115,105,110,103]⟩⟩
noncomputable abbrev LX:Str:=⟨⟨[110]⟩⟩
noncomputable abbrev TR:Str:=⟨⟨[110,101,119,106,50,108,101,110]⟩⟩
noncomputable abbrev yM:Str:=⟨⟨[110,111,116,104,105,110,103]⟩⟩
noncomputable abbrev yN:Str:=⟨⟨[110,117,109,98]⟩⟩
noncomputable abbrev yO:Str:=⟨⟨[111,100,100]⟩⟩
noncomputable abbrev TS:Str:=⟨⟨[111,112,99,111,100,101,115]⟩⟩
noncomputable abbrev IC:Str:=⟨⟨[111,114,100,101,114]⟩⟩
noncomputable abbrev Fr:Str:=⟨⟨[112,108,97,99,101]⟩⟩
noncomputable abbrev Od:Str:=⟨⟨[112,108,97,105,110]⟩⟩
noncomputable abbrev yP:Str:=⟨⟨[112,111,115,115,105,98,105,108,105,116,105,101,115]⟩⟩
noncomputable abbrev yQ:Str:=⟨⟨[113,117,101,117,101]⟩⟩
noncomputable abbrev D9:Str:=⟨⟨[114,101,115,117,108,116]⟩⟩
noncomputable abbrev yR:Str:=⟨⟨[115]⟩⟩
noncomputable abbrev ID:Str:=⟨⟨[115,99,111,114,101]⟩⟩
noncomputable abbrev P4:Str:=⟨⟨[115,99,114,105,112,116]⟩⟩
noncomputable abbrev HC:Str:=⟨⟨[115,101,108,102]⟩⟩
noncomputable abbrev GQ:Str:=⟨⟨[115,101,110,116,105,110,101,108]⟩⟩
noncomputable abbrev yS:Str:=⟨⟨[115,101,113,117,101,110,99,101]⟩⟩
noncomputable abbrev yT:Str:=⟨⟨[115,105,100,101,115]⟩⟩
noncomputable abbrev Cj:Str:=⟨⟨[115,105,122,101]⟩⟩
noncomputable abbrev HD:Str:=⟨⟨[115,117,109]⟩⟩
noncomputable abbrev Gh:Str:=⟨⟨[116,101,120,116]⟩⟩
noncomputable abbrev Oe:Str:=⟨⟨[116,111,108,100]⟩⟩
noncomputable abbrev yU:Str:=⟨⟨[116,111,112]⟩⟩
noncomputable abbrev Gi:Str:=⟨⟨[116,114,105,112,108,101]⟩⟩
noncomputable abbrev LY:Str:=⟨⟨[116,114,105,112,108,101,115]⟩⟩
noncomputable abbrev Of:Str:=⟨⟨[116,117,114,110]⟩⟩
noncomputable abbrev C1:Str:=⟨⟨[117,110,101,120,112,101,99,116,101,100]⟩⟩
noncomputable abbrev yV:Str:=⟨⟨[118,97,108,117,101]⟩⟩
noncomputable abbrev Og:Str:=⟨⟨[119,105,115,104,101,100]⟩⟩
noncomputable abbrev yW:Str:=⟨⟨[119,111,114,100]⟩⟩
noncomputable abbrev Gj:Str:=⟨⟨[120]⟩⟩
noncomputable abbrev TU:String:=s439940324294634123x17
theorem yX:TU="list.__contains__":=e439940324294634123x17.symm
noncomputable abbrev TV:String:=s2931692696383300276x11
theorem yZ:TV="list.append":=e2931692696383300276x11.symm
noncomputable abbrev Jy:String:=s13624992175810213990x8
theorem TY:Jy="dict.get":=e13624992175810213990x8.symm
noncomputable abbrev TZ:String:=s11797481509799174649x16
theorem qB:TZ="dict.__setitem__":=e11797481509799174649x16.symm
noncomputable abbrev T3:String:=s3967477386118550044x15
theorem qC:T3="dict.setdefault":=e3967477386118550044x15.symm
noncomputable abbrev HF:String:=s7605591312241722700x17
theorem qD:HF="dict.__contains__":=e7605591312241722700x17.symm
noncomputable abbrev Jz:String:=s8077881857196166566x16
theorem P5:Jz="list.__getitem__":=e8077881857196166566x16.symm
noncomputable abbrev LZ:String:=s741896355592496720x3
theorem qE:LZ="sum":=e741896355592496720x3.symm
noncomputable abbrev Kl:String:=s15201008993051130160x6
theorem qF:Kl="sorted":=e15201008993051130160x6.symm
noncomputable abbrev Km:String:=s2990761230727911720x9
theorem P6:Km="list.sort":=e2990761230727911720x9.symm
noncomputable abbrev T4:String:=s7634278170187095340x8
theorem qG:T4="list.pop":=e7634278170187095340x8.symm
noncomputable abbrev P7:String:=s10790649571475547585x11
theorem qI:P7="list.extend":=e10790649571475547585x11.symm
noncomputable abbrev P8:String:=s8232228318002612845x12
theorem qJ:P8="str.__iter__":=e8232228318002612845x12.symm
noncomputable abbrev T5:String:=s9290617385737656809x15
noncomputable abbrev Oh:String:=s8200498257699607233x3
theorem qK:Oh="max":=e8200498257699607233x3.symm
noncomputable abbrev P9:String:=s9263121217426465444x14
theorem qL:P9="_heapq.heapify":=e9263121217426465444x14.symm
noncomputable abbrev Oi:String:=s261454370922247064x18
theorem qM:Oi="_heapq.heapreplace":=e261454370922247064x18.symm
noncomputable abbrev Ma:String:=s13014049009108672802x3
theorem T6:Ma="len":=e13014049009108672802x3.symm
noncomputable abbrev Qa:String:=s8999898105280968195x12
theorem qN:Qa="list.__add__":=e8999898105280968195x12.symm
noncomputable abbrev T7:String:=s15834547700070894841x27
noncomputable abbrev Oj:String:=s3213454002840115300x22
theorem T8:Oj="list_iterator.__next__":=e3213454002840115300x22.symm
noncomputable abbrev Qb:String:=s896114127876100448x12
theorem qO:Qb="list.__new__":=e896114127876100448x12.symm
noncomputable abbrev Ok:String:=s13725091732456768858x13
theorem qP:Ok="list.__init__":=e13725091732456768858x13.symm
noncomputable abbrev T9:String:=s7375822716276227404x8
theorem qQ:T9="sum.loop":=e7375822716276227404x8.symm
noncomputable abbrev Ua:String:=s9316426964554523096x16
theorem qR:Ua="list.extend.loop":=e9316426964554523096x16.symm
noncomputable abbrev Ub:String:=s18260584998450149984x23
set_option maxHeartbeats 400000
section
section
variable {w:Aa}{A:Al}{tgt:Expr}{it:Value}{b els:List Stmt}{env:Env}{R:Result→Ab→Prop}{s:Ab}
theorem Uc(h:wpAny (model pw w) A (pyNext it) (λx s1=>x=none∧codeAny (model pw w) A (.block els env) R s1) (λ_ _=>False) s):codeAny (model pw w) A (.forLoop tgt it b els env) R s:=by
 refine Hp ?_;rw[show A.under (.forLoop tgt it b els env)=A from Lh rfl];refine (?_:wpAny _ A ((forTurn tgt it b els env).onRaise (λx=>do noteFrame x env;theTreesLotGoes x)) _ _ s);refine Fo ?_;unfold forTurn;refine Af (Du (Af (Fo (CE h (λx s1 a=> ?_) λ_ _ e=>e.elim))));obtain⟨rfl,a⟩:=a;exact Ap ⟨rfl,a⟩
theorem Ud(h:wpAny (model pw w) A (pyNext it) (λx s1=> ∃v,x=some v∧wpAny (model pw w) A (letOwnedTupleGo tgt it v) (λ_ s2=>wpAny (model pw w) A (assign tgt env v>>=λ_=>execs b env) (λc s3=>c= .next∧codeAny (model pw w) A (.forLoop tgt it b els env) R s3) (λ_ _=>False) s2) (λ_ _=>False) s1) (λ_ _=>False) s):codeAny (model pw w) A (.forLoop tgt it b els env) R s:=by
 refine Hp ?_;rw[show A.under (.forLoop tgt it b els env)=A from Lh rfl];refine (?_:wpAny _ A ((forTurn tgt it b els env).onRaise (λx=>do noteFrame x env;theTreesLotGoes x)) _ _ s);refine Fo ?_;unfold forTurn;refine Af (Du (Af (Fo (CE h (λx s1 a=> ?_) λ_ _ e=>e.elim))));obtain⟨v,rfl,a⟩:=a;refine Af (CE a (λ_ s2 a=> ?_) λ_ _ e=>e.elim);have key: ∀{Q:AE→Ab→Prop} {E:Value→Ab→Prop} (k:Flow→Sem AE),wpAny (model pw w) A ((assign tgt env v>>=λ_=>execs b env)>>=k) Q E s2→wpAny (model pw w) A (assign tgt env v>>=λ_=>execs b env>>=k) Q E s2:=λ {Q E} k z=>by rwa[bind_assoc]at z
 refine key _ (Af (CE a (λc s3 a=> ?_) λ_ _ e=>e.elim));obtain⟨rfl,a⟩:=a;exact Ap ⟨rfl,a⟩
end
section
variable {w:Aa}{A:Al}{elt:Expr}{g:Comprehension}{sc:Scope}{lp:Pos}{it acc:Value}{env:Env}{R:Result→Ab→Prop}{s:Ab}(hs:(g.is_async != 0)=false)
include hs
theorem qS(h:wpAny (model pw w) A (pyNext it) (λx s1=>x=none∧R (.ok .next) s1) (λ_ _=>False) s):codeAny (model pw w) A (.compLoop (.ListComp elt [g] sc lp) 0 it acc env) R s:=by
 refine Hp ?_;rw[show A.under (.compLoop (.ListComp elt [g] sc lp) 0 it acc env)=A from Lh rfl];refine (?_:wpAny _ A ((compTurn (.ListComp elt [g] sc lp) 0 it acc env).onRaise (λx=>do noteFrame x env;theTreesLotGoes x)) _ _ s);refine Fo ?_;unfold compTurn;dsimp only;refine (?_:wpAny _ A (standAt (if(g.is_async != 0)=true then lp else g.iter.pos)>>=λ_=>_) _ _ s);refine Af (Du ?_);rw[AI (by rw[hs];exact FF)];refine Af (CE h (λx s1 a=> ?_) λ_ _ e=>e.elim);obtain⟨rfl,a⟩:=a;exact Ap a
theorem qT(d:g.ifs=[])(h:wpAny (model pw w) A (pyNext it) (λx s1=> ∃v,x=some v∧wpAny (model pw w) A (letOwnedTupleGo g.target it v) (λ_ s2=>wpAny (model pw w) A (assign g.target env v) (λ_ s3=>
   wpAny (model pw w) A (eval elt env>>=λv=>call (.builtin "list.append") [acc,v]) (λ_ c=>codeAny (model pw w) A (.compLoop (.ListComp elt [g] sc lp) 0 it acc env) R c) (λ_ _=>False) s3) (λ_ _=>False) s2) (λ_ _=>False) s1) (λ_ _=>False) s):
  codeAny (model pw w) A (.compLoop (.ListComp elt [g] sc lp) 0 it acc env) R s:=by
 refine Hp ?_;rw[show A.under (.compLoop (.ListComp elt [g] sc lp) 0 it acc env)=A from Lh rfl];refine (?_:wpAny _ A ((compTurn (.ListComp elt [g] sc lp) 0 it acc env).onRaise (λx=>do noteFrame x env;theTreesLotGoes x)) _ _ s);refine Fo ?_;unfold compTurn;dsimp only;refine (?_:wpAny _ A (standAt (if(g.is_async != 0)=true then lp else g.iter.pos)>>=λ_=>_) _ _ s);refine Af (Du ?_);rw[AI (by rw[hs];exact FF)];refine Af (CE h (λx s1 a=> ?_) λ_ _ e=>e.elim);obtain⟨v,rfl,a⟩:=a;dsimp only;refine Af (CE a (λ_ s2 a=> ?_) λ_ _ e=>e.elim);refine Af (CE a (λ_ s3 a=> ?_) λ_ _ e=>e.elim);rw[d];refine Af (Ap ?_);simp only[if_true];refine (?_:wpAny _ _ ((eval elt env>>=λv=>call (.builtin "list.append") [acc,v]>>=λ_=>pure ())>>=λ_=>_) _ _ _);have e:(eval elt env>>=λv=>call (.builtin "list.append") [acc,v]>>=λ_=>(pure ():Sem Unit))=((eval elt env>>=λv=>call (.builtin "list.append") [acc,v])>>=λ_=>pure ()):=by simp only[bind_assoc]
 rw[e];exact Af (Af (CE a (λ_ c a=>Ap (Ap ⟨rfl,a⟩)) λ_ _ e=>e.elim))
end
end
set_option maxHeartbeats 8000000
noncomputable def IE(c:Code)(a:Ae)(v:Value):Ak:={d:=900,u:=9000,h:=none,c:=c,idx:=[],pre:=a,na:=0,nt:=0,r:=λ_ _=>.ok (.ret v),outs:=λ_ _ _=>a.map (·.2),news:=λ_ _ _=>[]}
noncomputable def Ac(n:Nat):Obj:=⟨.none,none,.seq ⟨[]⟩ n,⟨[]⟩⟩
noncomputable def BQ(o:Obj):Nat:=match o.data with
 | .seq _ n=>n
 |_=>0
noncomputable def Ao(o:List Obj)(i:Nat):Nat:=BQ (o.getD i default)
noncomputable def Ak.at(e:Ak)(a:List Nat):Ak:={e with idx:=a}
theorem Ue(L:Ae):Bk L (L.map (·.2))++BI [] []=L:=by
 have:Bk L (L.map (·.2))=L:=by
  induction L with
  |nil=>rfl
  |cons p l a=>exact Am (p:: ·) a
 rw[this];exact BR L
theorem Ol{w:Aa}{c:Code}{a:Ae}{v:Value}
  (h: ∀(A:Al) (s:Ab),A.depth≤900→A.units≤9000→A.handled=none→An (kt w) s a→ ∀R:Result→Ab→Prop,(∀b,Ag (kt w) s b a a→R (.ok (.ret v)) b)→codeAny (model pw w) A c R s):Av w (IE c a v):=by
 intro A e g i s S _;refine h A s e g i S _ λb d=>⟨[],[],[],rfl,rfl,rfl,rfl,?_,d.toks⟩
 refine (?_:Ag (kt w) s b a (Bk a (a.map (·.2))++BI [] []));rw[Ue];exact d
theorem Qc{w:Aa}{A:Al}{s:Ab}{R:Result→Ab→Prop}{T:String}{i:Str}{d:String}{B:Builtin}{a:Value}{b:List Value}{S:PySem.Spec}(c:Slot T i d)(k:s.TypeIs a T)
  (e:entryFor table d=some B) (j:argsOk d ⟨a::b,[]⟩) (g:Meets (B ⟨a::b,[]⟩) S) (h:S A R s):codeAny (model pw w) A (.call (.builtin d) ⟨a::b,[]⟩) R s:=
 DV c.plain e (c.check _ _ _ _ _ _ _ _ k j (g pw w A R s h))
theorem Qd:LR= .type "list":=by
 refine (?_:Value.type s9222952809800978799x4=_);rw[←e9222952809800978799x4]
noncomputable def Qe(k:Int):Value→Bool
 | .int a _=>a==k
 |_=>false
noncomputable def EQ(g:Addr)(a:List Value)(n:Nat)(k:Int)(t:Nat)(b:Bool):Ak:=IE (.call (.builtin TU) ⟨[.ref g,.int k t],[]⟩) [(g,li a n)] (.bool b)
theorem BX(a:List Value)(n:Nat):li a n={cls:=.type "list",dict:=none,data:=.seq ⟨a⟩ n,slots:= #[]}:=by
 refine (?_:Obj.mk LR none _ _=_);rw[Qd]
theorem qU{k:Int}: ∀{b:List Value} {a:List Int},AV b a→b.any (Qe k)=decide (k∈a):=by
 intro b a h
 induction h with
 |nil=>rfl
 | @cons n t g a _ c=>
  rw[List.any_cons,c];show(n==k||decide (k∈a))=decide (k∈n::a)
  by_cases e:n=k
  ·subst e;(first|((repeat(first|exact .head _|apply List.mem_cons_of_mem));done)|simp)
  ·have d:k≠n:=λx=>e x.symm
   simp[e,d]
theorem Qf: ∀{c:List Value} {d:List Int},AV c d→ ∀y∈c,B6 λa t=>y= .int a t:=by
 intro c d h
 induction h with
 |nil=>intro y b;cases b
 | @cons n t g d _ e=>
  intro y b;rcases List.mem_cons.mp b with rfl|b
  ·exact⟨_,_,rfl⟩
  ·exact e y b
theorem Kn{w:Aa}{g:Addr}{c:List Value}{n:Nat}{k:Int}{t:Nat}{b:Bool}{i:List Int}(h:AV c i)(j:decide (k∈i)=b):Av w (EQ g c n k t b):=by
 refine Ol λA s _ _ _ S R l=> ?_;have d:=S.mem _ Bj;dsimp only at d;rw[BX]at d;rw[yX];refine Qc F.slot_list_contains (T:="list") ⟨_,d,rfl⟩ F.entry_list_contains (F.args_list_contains_2 _ _) (MeetsSeq.list_contains g ⟨c⟩ n (.int k t) (Qe k) (λy m=> ?_)) ⟨d,?_⟩
 ·obtain⟨a,u,rfl⟩:=Qf h y (by simpa using m)
  exact MeetsSeq.EqGives.int a k u t
 ·have e:(⟨c⟩:Array Value).any (Qe k)=b:=by
   rw[←j,←qU h,←Array.any_toList]
  rw[e];exact l s (.refl S)
noncomputable def IF(c:Code)(b:Ae)(a:List Obj)(v:Value):Ak:={d:=900,u:=9000,h:=none,c:=c,idx:=[],pre:=b,na:=0,nt:=0,r:=λ_ _=>.ok (.ret v),outs:=λ_ _ _=>a,news:=λ_ _ _=>[]}
theorem Ko{w:Aa}{c:Code}{a:Ae}{b:List Obj}{v:Value}
  (h: ∀(A:Al) (s:Ab),A.depth≤900→A.units≤9000→A.handled=none→An (kt w) s a→ ∀R:Result→Ab→Prop,(∀d,Ag (kt w) s d a (Bk a b)→R (.ok (.ret v)) d)→codeAny (model pw w) A c R s):Av w (IF c a b v):=by
 intro A g i j s S _;refine h A s g i j S _ λd e=>⟨[],[],[],rfl,rfl,rfl,rfl,?_,e.toks⟩
 refine (?_:Ag (kt w) s d a (Bk a b++[]));rw[BR];exact e
noncomputable def Ck(a:Addr)(b:List Value)(n:Nat)(x:Value):Ak:=IF (.call (.builtin TV) ⟨[.ref a,x],[]⟩) [(a,li b n)] [li (b++[x]) (n+1)] .none
theorem EB{w:Aa}{a:Addr}{b:List Value}{n:Nat}{x:Value}(g:b.length≤1000):Av w (Ck a b n x):=by
 refine Ko λA s _ _ _ S R h=> ?_;have c:=S.mem _ Bj;have d:=S.set (i:=0) rfl (f:=Obj.mapSeq (·.push x)) (p:=(a,li b n)) rfl;have e:Obj.mapSeq (·.push x) (li b n)=li (b++[x]) (n+1):=by
  simp[Obj.mapSeq]
 dsimp only at c d;rw[e]at d;rw[BX]at c;rw[yZ];refine DV slot_list_append.plain entry_list_append (slot_list_append.check _ _ _ _ _ _ _ _ ⟨_,c,rfl⟩ (args_list_append _ _) ?_);refine (?_:wpAny _ _ (updateSeq a (·.push x)>>=λ_=>ret .none) _ _ s);refine Af (wpAny_updateSeq c rfl (Ap (h _ d)) ?_ ?_)
 ·refine (?_:b.length≤_)
  exact AC g (by decide)
 ·have:((⟨b⟩:Array Value).push x).size=b.length+1:=by (first|((repeat(first|exact .head _|apply List.mem_cons_of_mem));done)|simp)
  show((⟨b⟩:Array Value).push x).size≤_;rw[this];exact AC (Ev g) (by decide)
noncomputable def AB:List (Nat×List Nat)→List (List Nat→List Nat→List Obj→Ak)→List (Nat×(List Nat→List Nat→List Obj→Ak))
 |c::a,e::b=>(c.1,λd g h=>(e d g h).at c.2)::AB a b
 |_,_=>[]
noncomputable def Bh:List Nat→List (List Nat→List Nat→List Obj→Value×Value)→List Wd
 |c::a,e::b=>(c,e)::Bh a b
 |_,_=>[]
noncomputable def DF(w:Aa)(a:List (List Nat→List Nat→List Obj→Ak)):Prop:= ∀e∈a,∀b c d,Av w (e b c d)
theorem Ay{w:Aa}:DF w []:=λ_ h=>(nomatch h)
theorem Ah{w:Aa}{e:List Nat→List Nat→List Obj→Ak}{b:List (List Nat→List Nat→List Obj→Ak)}(h: ∀c d g,Av w (e c d g))(t:DF w b):DF w (e::b):=λf a=>by
 rcases List.mem_cons.mp a with rfl|a
 ·exact h
 ·exact t f a
theorem IG{w:Aa}{a b:List (List Nat→List Nat→List Obj→Ak)}(c:DF w a)(d:DF w b):DF w (a++b):=λe g=>(List.mem_append.mp g).elim (c e) (d e)
theorem Az{w:Aa}: ∀(d:List (Nat×List Nat)) (a:List (List Nat→List Nat→List Obj→Ak)),DF w a→ ∀q∈AB d a,∀g i j,Av w (q.2 g i j):=by
 intro d
 induction d with
 |nil=>intro a _ q b;cases a <;> cases b
 |cons c d k=>
  intro a h q b g i j;cases a with
  |nil=>cases b
  |cons e a=>
   rcases List.mem_cons.mp b with rfl|b
   ·exact h e Bj g i j
   ·exact k a (λf l=>h f (BB _ l)) q b g i j
noncomputable def E8(d:List (List Nat→List Nat→List Obj→Value×Value)):Prop:= ∀e∈d,∀a b c,(e a b c).1=(e a b c).2
theorem Bp:E8 []:=λ_ h=>(nomatch h)
theorem AA{e:List Nat→List Nat→List Obj→Value×Value}{b:List (List Nat→List Nat→List Obj→Value×Value)}(h: ∀c d g,(e c d g).1=(e c d g).2)(t:E8 b):E8 (e::b):=λf a=>by
 rcases List.mem_cons.mp a with rfl|a
 ·exact h
 ·exact t f a
theorem Bi: ∀(j:List Nat) (a:List (List Nat→List Nat→List Obj→Value×Value)),E8 a→ ∀q∈Bh j a,∀d g i,(q.2 d g i).1=(q.2 d g i).2:=by
 intro j
 induction j with
 |nil=>intro a _ q b;cases a <;> cases b
 |cons c j k=>
  intro a h q b d g i;cases a with
  |nil=>cases b
  |cons e a=>
   rcases List.mem_cons.mp b with rfl|b
   ·exact h e Bj d g i
   ·exact k a (λf l=>h f (BB _ l)) q b d g i
set_option maxHeartbeats 400000
section
theorem qV(w:Aa):(kt w).get 1=some (tw17094700465226760127 w.2):=by kernel_rfl
theorem Om{w:Aa}{s:Ab}{L:Ae}(S:An (kt w) s L){p:Addr×Obj}(a:p∈L):(p.1==sysModules)=false:=by
 have h:=S.apart p a 1 _ (qV w);exact beq_eq_false_iff_ne.mpr λe=>h e.symm
theorem qW:PZ= .type "dict":=by
 refine (?_:Value.type s14018661285674007319x4=_);rw[←e14018661285674007319x4]
theorem qX(es:List DictEntry)(n:Nat):di es n={cls:=.type "dict",dict:=none,data:=.dict ⟨es⟩ n,slots:= #[]}:=by
 refine (?_:Obj.mk PZ none _ _=_);rw[qW]
theorem Qg{w:Aa}{A:Al}{s:Ab}{R:Result→Ab→Prop}{T:String}{j:Str}{e:String}{B:Builtin}{a:Value}{b:List Value}{S:PySem.Spec}(c:Slot T j e)(m:s.TypeIs a T)
  (i:entryFor table e=some B) (l:argsOk e ⟨a::b,[]⟩) (g:MeetsIn pw w (B ⟨a::b,[]⟩) S) (h:S A R s):codeAny (model pw w) A (.call (.builtin e) ⟨a::b,[]⟩) R s:=
 DV c.plain i (c.check _ _ _ _ _ _ _ _ m l (g A R s h))
section
variable {w:Aa}{K:Type}[DecidableEq K](knd:KeyKind pw w K){k:K}{d:Addr}{es:List DictEntry}{n:Nat}{key dflt v:Value}
theorem JA{s:Ab}(a:s.heap.get? d=some (di es n))(b:KeysOf knd ⟨es⟩):s.heap.MapOf knd d (findBy knd.is ⟨es⟩):=by
 rw[qX]at a;exact⟨_,_,_,a,⟨rfl,rfl,rfl⟩,rfl,b,λ_=>rfl⟩
noncomputable def FM(d:Addr)(es:List DictEntry)(n:Nat)(key dflt v:Value):Ak:=IE (.call (.builtin Jy) ⟨[.ref d,key,dflt],[]⟩) [(d,di es n)] v
theorem Kp(a:knd.is k key=true)(c:KeysOf knd ⟨es⟩)(e:(findBy knd.is ⟨es⟩ k).getD dflt=v):Av w (FM d es n key dflt v):=by
 refine Ol λA s _ _ _ S R g=> ?_;have h:=S.mem _ Bj;have b:=JA knd h c;rw[TY];refine Qg F.slot_dict_get b.typeIs F.entry_dict_get (F.args_dict_get_3 _ _ _) (meets_dict_get_default knd d a (Om S Bj) dflt) ⟨_,b,?_⟩;rw[e];exact g _ S.tok
theorem Uf{s:Ab}(S:An (kt w) s [(d,di es n)])(e:DictEntry):Ag (kt w) s {s with heap:=s.heap.update d (Obj.mapDictKeys (·.push e)),toks:=s.toks+1} [(d,di es n)] [(d,di (es++[e]) (n+1))]:=by
 have a:=S.tok.sat.set (i:=0) rfl (f:=Obj.mapDictKeys (·.push e)) (p:=(d,di es n)) rfl;have b:Obj.mapDictKeys (·.push e) (di es n)=di (es++[e]) (n+1):=by
  simp[Obj.mapDictKeys]
 dsimp only at a;rw[b]at a;exact S.tok.trans a
theorem Ug(h:findBy knd.is ⟨es⟩ k=none):(⟨es⟩:Array DictEntry).findIdx? (λe=>knd.is k e.key)=none:=by
 rw[findBy_of_findIdx?]at h;cases a:(⟨es⟩:Array DictEntry).findIdx? (λe=>knd.is k e.key)with
 |none=>rfl
 |some i=>
  rw[a]at h;dsimp only at h;obtain⟨b,_⟩:=Array.findIdx?_eq_some_iff_findIdx_eq.mp a;rw[Pt b]at h;cases h
noncomputable def On(d:Addr)(es:List DictEntry)(n:Nat)(h:Int)(key dflt:Value):Ak:=IF (.call (.builtin T3) ⟨[.ref d,key,dflt],[]⟩) [(d,di es n)] [di (es++[⟨h,key,dflt⟩]) (n+1)] dflt
theorem qY{h:Int}(b:knd.is k key=true)(j:h=knd.hash k)(g:KeysOf knd ⟨es⟩)(l:findBy knd.is ⟨es⟩ k=none)(hz:es.length≤1000):Av w (On d es n h key dflt):=by
 subst j;refine Ko λA s _ _ _ S R m=> ?_;have a:=S.mem _ Bj;have o:=JA knd a g;have i:es.length≤sizeLine:=AC hz (by decide);rw[qC];refine Qg F.slot_dict_setdefault o.typeIs F.entry_dict_setdefault (F.args_dict_setdefault_3 _ _ _) (S:=λ_ R s=>s.heap.get? d=some (di es n)∧(∀c,c={s with heap:=s.heap.update d (Obj.mapDictKeys (·.push ⟨knd.hash k,key,dflt⟩)),toks:=s.toks+1}→R (.ok (.ret dflt)) c)) (.of_wp λA R s hz=> ?_) ⟨a,λc e=>m c (e▸Uf S _)⟩;obtain⟨a,h⟩:=hz;unfold Builtin.«dict.setdefault»;refine Af ?_;unfold Builtin.Dict.keyAndDefault;refine Af (wpAny_notOrdered_dict (JA knd a g).typeIs ?_);refine (?_:wpAny _ _ (pure (d,key,some dflt)) _ _ s);refine Ap ?_;refine (?_:wpAny _ _ (if(d==sysModules)=true then _ else(dictSetDefault d key dflt>>=_)) _ _ s);rw[AI (by rw[Om S Bj];exact FF)];unfold dictSetDefault;refine Af (Dl ?_);refine Af (knd.pyHash b ?_);refine Af (wpAny_dictFind_of (s:={s with toks:=s.toks+1}) b a rfl g ?_);rw[Ug knd l];exact Af (FI (Af (wpAny_updateDictKeys (hz:=i) (s:={s with toks:=s.toks+1}) a rfl (Ap (Ap ⟨dflt,rfl,h _ rfl⟩)))))
noncomputable def GR(d:Addr)(es:List DictEntry)(n:Nat)(h:Int)(key v:Value):Ak:=IF (.call (.builtin TZ) ⟨[.ref d,key,v],[]⟩) [(d,di es n)] [di (es++[⟨h,key,v⟩]) (n+1)] .none
theorem Oo{h:Int}(b:knd.is k key=true)(j:h=knd.hash k)(g:KeysOf knd ⟨es⟩)(l:findBy knd.is ⟨es⟩ k=none)(hz:es.length≤1000):Av w (GR d es n h key v):=by
 subst j;refine Ko λA s _ _ _ S R m=> ?_;have a:=S.mem _ Bj;have o:=JA knd a g;have i:es.length≤sizeLine:=AC hz (by decide);rw[qB];refine Qg F.slot_dict_setitem o.typeIs F.entry_dict_setitem (F.args_dict_setitem_3 _ _ _) (S:=λ_ R s=>s.heap.get? d=some (di es n)∧(∀c,c={s with heap:=s.heap.update d (Obj.mapDictKeys (·.push ⟨knd.hash k,key,v⟩)),toks:=s.toks+1}→R (.ok (.ret .none)) c)) (.of_wp λA R s hz=> ?_) ⟨a,λc e=>m c (e▸Uf S _)⟩;obtain⟨a,h⟩:=hz;refine (?_:wpAny _ _ (Builtin.Dict.notOrdered "__setitem__" ⟨[.ref d,key,v],[]⟩>>=_) _ _ s);refine Af (wpAny_notOrdered_dict (JA knd a g).typeIs ?_);refine (?_:wpAny _ _ (dictSet d key v>>=_) _ _ s);unfold dictSet;refine Af (Dl ?_);refine Af (knd.pyHash b ?_);unfold dictSetHashed;refine Dl ?_;refine Af (wpAny_dictFind_of (s:={s with toks:=s.toks+1}) b a rfl g ?_);rw[Ug knd l];exact Af (FI (wpAny_updateDictKeys (hz:=i) (s:={s with toks:=s.toks+1}) a rfl (Ap ⟨.none,rfl,h _ rfl⟩)))
end
end
theorem Uh:EA= .type "str_ascii_iterator":=by
 refine (?_:Value.type s13500813778147066322x18=_);rw[←e13500813778147066322x18]
theorem Qh:Gg= .type "enumerate":=by
 refine (?_:Value.type s14340494229221121180x9=_);rw[←e14340494229221121180x9]
noncomputable abbrev Qi:String:=s7696299940892295456x17
theorem qZ:Qi="enumerate.__new__":=e7696299940892295456x17.symm
noncomputable def Qj(x:Str)(t:Nat):Ak:=
 {d:=900,u:=9000,h:=none,c:=.call (.builtin Qi) ⟨[Gg,.str x t],[]⟩,idx:=[],pre:=[],na:=2,nt:=0,
  r:=λa _=>.ok (.ret (.ref (a.getD 1 0))),outs:=λ_ _ _=>[],
  news:=λa _ _=>[fi EA [.str x t,.int 0 0],fi Gg [.none,.bool false,.ref (a.getD 0 0),.int 0 0,.none,.none]]}
theorem GT{w:Aa}{e:Ak}(h: ∀(A:Al) (s:Ab),A.depth≤e.d→A.units≤e.u→A.handled=e.h→An (kt w) s e.pre→ ∀R:Result→Ab→Prop,
  (∀b a t o,a.length=e.na→t.length=e.nt→o.length=e.no→Ag (kt w) s b e.pre (Bk e.pre (e.outs a t o)++BI a (e.news a t o))→AY s.toks b.toks t→R (e.rx o (e.r a t)) b)→codeAny (model pw w) A e.c R s)(c:e.gn=none:=by rfl):Av w e:=λA d g i s S _=>
 h A s d g i S _ λ_ a t o j k l m n=>⟨a,t,o,j,k,l,rfl,by rw[c];exact m,n⟩
theorem Ui{w:Aa}{x:Str}{t:Nat}(c:x.cps.all (· <128)=true):Av w (Qj x t):=by
 refine GT λA s j k l S R d=> ?_;refine (?_:codeAny _ _ (.call (.builtin Qi) ⟨[Gg,.str x t],[]⟩) _ s);rw[qZ,Qh];refine DV (by decide+kernel) F.entry_enumerate_new ?_;rw[F.newCall_enumerate_1];refine Ap (meets_enumerate_newS x t pw w A _ s ?_);have e:strIterType x="str_ascii_iterator":=by simp only[strIterType,c,if_true]
 rw[e];have a:=S.push (o:=fi EA [.str x t,.int 0 0]) rfl;have b:=a.sat.push (o:=fi Gg [.none,.bool false,.ref s.heap.objs.size,.int 0 0,.none,.none]) rfl;have g:=a.trans b;have h:(fi EA [.str x t,.int 0 0]:Obj)={cls:=.type "str_ascii_iterator",data:=.fields #[.str x t,.int 0 0]}:=by
  refine (?_:Obj.mk EA none _ _=_);rw[Uh]
 have i:(fi Gg [.none,.bool false,.ref s.heap.objs.size,.int 0 0,.none,.none]:Obj)={cls:=.type "enumerate",data:=.fields #[.none,.bool false,.ref s.heap.objs.size,rawInt 0,.none,.none]}:=by
  refine (?_:Obj.mk Gg none _ _=_);rw[Qh];rfl
 dsimp only;rw[←h,←i];exact d _ [s.heap.objs.size,(s.heap.push (fi EA [.str x t,.int 0 0])).objs.size] [] [] rfl rfl rfl g (A8 _)
noncomputable def Op(x:Str)(t:Nat):Ak:=
 {d:=900,u:=9000,h:=none,c:=.call (.builtin P8) ⟨[.str x t],[]⟩,idx:=[],pre:=[],na:=1,nt:=0,
  r:=λa _=>.ok (.ret (.ref (a.getD 0 0))),outs:=λ_ _ _=>[],news:=λa _ _=>[fi EA [.str x t,.int 0 0]]}
theorem Qk{w:Aa}{x:Str}{t:Nat}(c:x.cps.all (· <128)=true):Av w (Op x t):=by
 refine GT λA s e g h S R d=> ?_;refine (?_:codeAny _ _ (.call (.builtin P8) ⟨[.str x t],[]⟩) _ s);rw[qJ];refine DV F.slot_str_iter.plain F.entry_str_iter (F.slot_str_iter.check _ _ _ _ _ _ _ _ (typeIs_str s x t) (F.args_str_iter_1 _) ?_);refine (?_:wpAny _ _ (do ret (←newFields (if(true&&x.cps.all (· <128))=true then "str_ascii_iterator" else "str_iterator") [.str x t,rawInt 0])) _ _ s);rw[c];have a:=S.push (o:=fi EA [.str x t,.int 0 0]) rfl;have b:(fi EA [.str x t,.int 0 0]:Obj)={cls:=.type "str_ascii_iterator",data:=.fields #[.str x t,.int 0 0]}:=by
  refine (?_:Obj.mk EA none _ _=_);rw[Uh]
 rw[b]at a;refine Af (wpAny_newObj_type (Ap (d _ [s.heap.objs.size] [] [] rfl rfl rfl ?_ (A8 _))));refine (?_:Ag (kt w) s _ [] [(s.heap.objs.size,fi EA [.str x t,.int 0 0])]);rw[b];exact a
noncomputable def Bg(P:Aj)(l:List (Str×Nat×Value)):List DictEntry:=l.map λx=>Aq P x.1 x.2.1 x.2.2
theorem GU(w:Aa)(l:List (Str×Nat×Value)):KeysOf (strKind pw w) ⟨Bg w.2 l⟩:=by
 intro e a;have a:e∈Bg w.2 l:=by simpa using a
 obtain⟨x,b,rfl⟩:=List.mem_map.mp a;refine⟨x.1,?_,rfl⟩;refine (?_:Value.isStrOf x.1 (.str x.1 x.2.1)=true);simp[Value.isStrOf]
noncomputable def E9(k:Str):List (Str×Nat×Value)→Option Value
 |[]=>none
 |x::l=>if x.1=k then some x.2.2 else E9 k l
theorem GV(w:Aa)(k:Str): ∀(l:List (Str×Nat×Value)),findBy (strKind pw w).is ⟨Bg w.2 l⟩ k=E9 k l:=by
 intro l
 induction l with
 |nil=>rfl
 |cons x l b=>
  unfold findBy at*;refine (?_:Option.map _ (Array.find? _ ⟨Ad w x.1 x.2.1 x.2.2::Bg w.2 l⟩)=if x.1=k then some x.2.2 else E9 k l)
  have e: ∀(y:DictEntry) (a:List DictEntry) (p:DictEntry→Bool),(⟨y::a⟩:Array DictEntry).find? p=if p y=true then some y else(⟨a⟩:Array DictEntry).find? p:=by
   intro y a p;rw[←Array.find?_toList,←Array.find?_toList];refine (?_:List.find? p (y::a)=_);rw[List.find?_cons];cases p y <;> (first|((repeat(first|exact .head _|apply List.mem_cons_of_mem));done)|simp)
  rw[e]
  by_cases h:x.1=k
  ·rw[AS (by refine (?_:Value.isStrOf k (.str x.1 x.2.1)=true);simp[Value.isStrOf,h]),AS h];rfl
  ·rw[AI (by show¬Value.isStrOf k (.str x.1 x.2.1)=true;simp[Value.isStrOf,h]),AI h];exact b
theorem GW(w:Aa)(k:Str)(t:Nat):(strKind pw w).is k (.str k t)=true:=by
 refine (?_:Value.isStrOf k (.str k t)=true);simp[Value.isStrOf]
theorem Ql(P:Aj)(l:List (Str×Nat×Value))(k:Str)(t:Nat)(v:Value):Bg P l++[⟨PyData.keyHash P k,.str k t,v⟩]=Bg P (l++[(k,t,v)]):=by
 simp[Bg]
noncomputable abbrev IJ:Value:=(.bool true)
noncomputable abbrev AT(P:Aj)(q:Nat→Nat)(a b c d:Value)(e g h:Nat):Obj:=
 di [Aq P TP (q 0) .none,Aq P Cq (q 1) a,Aq P LU (q 2) b,Aq P TH (q 3) IJ,Aq P P3 (q 4) c,Aq P TS (q 5) .none,Aq P Ob (q 6) d,Aq P NZ (q 7) (.ref e),Aq P TK (q 8) (.ref g),Aq P TN (q 9) (.ref h)] 10
noncomputable abbrev mO(d:Nat):Obj:=⟨.ref 270,some d,.plain,⟨[]⟩⟩
noncomputable abbrev CH(P:Aj):Obj:=⟨xP,none,.set ⟨[]⟩ 0 {mask:=7,place:=⟨[]⟩,dummies:=⟨[]⟩,finger:=0,led:= !P.followText "set-order",moves:=0,plain:=true},⟨[]⟩⟩
noncomputable def Uj(w:Aa):Code×Ae:=(.call (.ref 270) ⟨[],[]⟩,[])
noncomputable def wA(w:Aa):List (List Nat→List Nat→List Obj→Ak):=[λa b c=>Qj ⟨⟨[]⟩⟩ 540]
theorem wB(w:Aa):AD w 950 (Uj w).1 (Uj w).2 [0,0,0,0,0,0,0,0,0,0,0,0,0,0,0,0,0,0,0,0,0,2,0,2,0,0,0,0,0,0,0,0,3,3,0,3,3,0,3,3,0,3,3,0,3,3,0,1,3,3,2,0,0,0,2,0,2,0,2,0,0,0,2,0,0,1,1,1,3,2,0,0,0,2,0,2,0,2,0,0,0,2,0,0,1,1,1,3,2,0,0,0,2,0,2,0,2,0,0,0,2,0,0,1,1,1,3,3,2,0,0,0,2,0,2,0,2,0,0,0,2,0,0,1,1,1,3,2,0,0,0,2,0,0,0,2,0,0,0,0,2,1,3,3,0,0,0,0,4,4,0,4,4,0,4,4,0,1,4,2,0,0,0,2,0,0,0,2,0,0,0,0,2,1,4,0,0,0,0,5,5,0,5,5,0,1,5,5,2,0,0,0,2,0,0,0,2,2,0,1,5,5,2,0,0,0,2,0,2,0,2,0,0,0,2,0,0,1,1,1,5,2,0,0,0,2,0,2,0,2,0,0,0,2,0,0,1,1,1,5,2,0,0,0,2,0,2,0,2,0,0,0,2,0,0,1,1,1,4,2,0,0,0,2,0,0,0,2,0,0,0,0,2,1,4,0,0,0,0,6,6,0,6,6,0,1,6,6,2,0,0,0,2,0,0,0,2,2,0,1,6,6,2,0,0,0,2,0,2,0,2,0,0,0,2,0,0,1,1,1,6,2,0,0,0,2,0,2,0,2,0,0,0,2,0,0,1,1,1,6,2,0,0,0,2,0,2,0,2,0,0,0,2,0,0,1,1,1,6,2,0,0,0,2,0,2,0,2,0,0,0,2,0,0,1,1,1,6,2,0,0,0,2,0,0,0,2,0,0,0,0,2,1,0,0,0,0,7,7,0,1,7,2,0,0,0,2,0,0,0,2,2,0,1,0,7,7,7,2,0,0,0,2,0,2,0,2,0,0,0,2,0,0,1,1,1,0,7,7,0,0,7,10,10,10,10,10,10,1,10,10,10,10,10,9,9,9,9,9,9,12,0,0,0,13,13,13,13,13,13,7,2,0,0,0,2,0,2,0,2,0,0,0,2,0,0,1,1,1,0,7,7,7,2,0,0,0,2,0,0,0,2,2,0,1,0,7,7,7,0,0,0,14,14,14,14,14,14,7,2,0,0,0,2,0,2,0,2,0,0,0,2,0,0,1,1,1,0,7,7,0,0,7,0,7,7,7,2,0,0,0,2,0,0,0,2,2,0,1,7,1] (AB [(22,[])] (wA w)) [] 5 520 3000 [1,0,7,12,13]
  (λa b c=>.done (.ret (.ref (a 1))))
  (λa b c=>[(a 1,mO (a 0)),(a 0,AT w.2 (λi=>([b 7,b 9,b 11,b 13,b 25,b 27,b 39,b 44,b 47,b 52]:List Nat).getD i 0) (.str ⟨⟨[]⟩⟩ 539) (.str ⟨⟨[]⟩⟩ 540) .none .none (a 7) (a 12) (a 13)),(a 7,di [] 0),(a 12,CH w.2),(a 13,CH w.2)]) 59:=by
 kernel_rfl
section
noncomputable def sf(c:Nat→Nat):Str:=⟨⟨[c 0,c 1,c 2,c 3,c 4,c 5,c 6,c 7]⟩⟩
noncomputable def c1(x:Nat):Str:=⟨⟨[x]⟩⟩
noncomputable def BU(s:Stmt)(it:Nat)(a:Env):Code:=.forLoop (A9 (Ke s) 0) (.ref it) (AO s) (Dv s) a
noncomputable def tk(a:List Nat)(i:Nat):Nat:=a.getD i 0
noncomputable abbrev GX(f:Nat):Env:={scope:=EM (EO 6 11),locals:=f,globals:=3,cells:=[],qual:=⟨⟨[83,101,113,117,101,110,99,101,77,97,116,99,104,101,114,46,113,117,105,99,107,95,114,97,116,105,111,46,60,108,111,99,97,108,115,62,46]⟩⟩,func:=some 260,code:=.ref 259,frame:=some f,builtins:=0}
noncomputable abbrev Mb:Stmt:=AF (AO (AF (AO (EO 6 11)) 1)) 1
noncomputable abbrev Mc:Stmt:=AF (AO (EO 6 11)) 5
noncomputable abbrev Oq(a:Nat):=fi Jw [.builtin HF,.ref a]
noncomputable def Uk(a d:Nat)(es:List DictEntry)(n:Nat)(x:Str)(t:Nat)(b:Bool):Ak:=
 IE (.call (.ref a) ⟨[.str x t],[]⟩) [(a,Oq d),(d,di es n)] (.bool b)
noncomputable abbrev DA(c:Nat→Nat)(u:Nat)(i:Int):Obj:=fi EA [.str (sf c) u,.int i 0]
noncomputable def Os(it:Nat)(c:Nat→Nat)(u:Nat)(i:Nat):Ak:=
 {d:=900,u:=9000,h:=none,c:=.call (.builtin T7) ⟨[.ref it],[]⟩,idx:=[],pre:=[(it,DA c u i)],na:=0,nt:=1,
  r:=λ_ t=>.ok (.ret (.str (c1 (c i)) (t.getD 0 0))),outs:=λ_ _ _=>[DA c u (i+1:Nat)],news:=λ_ _ _=>[]}
theorem wC(w:Aa)(b a:Nat)(es:List DictEntry)(n:Nat)(x:Str)(t:Nat):
  AD w 10 (.call (.ref b) ⟨[.str x t],[]⟩) ([(b,Oq a),(a,di es n)]) [1,2,2,2] [] [] 0 900 9000 [0,1]
   (λd e g=>.again (.builtin HF ⟨[.ref a,.str x t],[]⟩)) (λd e g=>[(b,fi Jw [.builtin HF,.ref a]),(a,di es n)]) 0:=by
 kernel_rfl
noncomputable abbrev Fs(a:Nat→Nat)(b c:Nat):Value:=(.str (c1 (a b)) c)
theorem wD(w:Aa)(it:Nat)(c:Nat→Nat)(u i:Nat)(e:i<8):
  AD w 13 (.call (.builtin T7) ⟨[.ref it],[]⟩) ([(it,DA c u i)]) [1,1,1,1,1] [] [] 1 900 9000 [0]
   (λb a d=>.done (.ret (Fs c i (a 0)))) (λb a d=>[(it,DA c u (i+1:Nat))]) 1:=by
 revert i;exact GO 8 (by kernel_rfl)
section
variable (P:Aj)(c:Nat→Nat)(t1 t2 m fd:Nat)(v:Bool)(x t3 tx:Nat)
noncomputable abbrev JB:Obj:=fr ([Aq P HC t1 (.ref m),Aq P Ob t2 (.ref fd)]++cond v [Aq P Oa t3 (.str (c1 x) tx)] []) (cond v 3 2)
end
section
variable (w:Aa)(f it fd m n i:Nat)(c:Nat→Nat)(u t1 t2:Nat)(v:Bool)(x t3 tx:Nat)(es:List DictEntry)
noncomputable abbrev Bu(a:Nat):Value:=(.int 0 a)
noncomputable abbrev Cr(a:Nat):Value:=(.int 1 a)
noncomputable def wE:List (List Nat→List Nat→List Obj→Ak):=[λb a d=>Os it c u i,λb a d=>FM fd es n (Fs c i (tk a 0)) (Bu (tk a 2)) (Bu (tk a 2)),λb a d=>GR fd es n (PyData.keyHash w.2 (c1 (c i))) (Fs c i (tk a 0)) (Cr (tk a 4))]
theorem wF:AD w 45 (BU Mb it (GX f)) [(f,JB w.2 t1 t2 m fd v x t3 tx),(it,DA c u i),(fd,di es n)] (dg 4 408419679) (AB [(0,[1]),(0,[2]),(1,[2])] (wE w it fd n i c u es)) [] 0 620 4000 [0,1,2]
   (λb a d=>.again (BU Mb it (GX f))) (λb a d=>[(f,JB w.2 t1 t2 m fd true (c i) (cond v t3 (a 1)) (a 0)),(it,DA c u (i+1:Nat)),(fd,di (es++[⟨PyData.keyHash w.2 (c1 (c i)),.str (c1 (c i)) (a 0),.int 1 (a 4)⟩]) (n+1))]) 5:=by
 cases v <;> kernel_rfl
end
theorem wG(w:Aa)(f it:Nat)(c:Nat→Nat)(u:Nat)(o:Obj):
  AD w 23 (BU Mb it (GX f)) ([(f,o),(it,DA c u 8)]) [2,2,2,2,2,2,4] [] [] 1 620 4000 [0,1]
   (λa b d=>.done .next) (λa b d=>[(f,o),(it,fi EA [.none,.int 8 0])]) 0:=by
 kernel_rfl
theorem wH(w:Aa)(f it:Nat)(c:Nat→Nat)(u:Nat)(o:Obj):
  AD w 23 (BU Mc it (GX f)) ([(f,o),(it,DA c u 8)]) [2,2,2,2,2,2,4] [] [] 1 620 4000 [0,1]
   (λa b d=>.done .next) (λa b d=>[(f,o),(it,fi EA [.none,.int 8 0])]) 0:=by
 kernel_rfl
structure QC where
 t1:Nat
 t2:Nat
 t3:Nat
 t4:Nat
 t5:Nat
 m:Nat
 fd:Nat
 av:Nat
 ah:Nat
structure QS where
 x:Nat
 t6:Nat
 tx:Nat
 t:Nat
 t7:Nat
 y:Nat
 ty:Nat
section
variable (P:Aj)(Q:QC)(ab v:Bool)(k:Int)(S:QS)
noncomputable def JC:Obj:=fr ([Aq P HC Q.t1 (.ref Q.m),Aq P Ob Q.t2 (.ref Q.fd)]++cond ab [Aq P Oa S.t6 (.str (c1 S.x) S.tx)] []++[Aq P xV Q.t3 (.ref Q.av),Aq P HB Q.t4 (.int k S.t),Aq P xW Q.t5 (.ref Q.ah)]++cond v (cond ab [] [Aq P Oa S.t6 (.str (c1 S.x) S.tx)]++[Aq P yN S.t7 (.int S.y S.ty)]) []) (cond v 7 (cond ab 6 5))
end
section
variable (w:Aa)(f it n1 n2 i:Nat)(c:Nat→Nat)(u tv:Nat)(es1 es2:List DictEntry)(Q:QC)(ab v h:Bool)(k:Int)(S:QS)
noncomputable def wI:List (List Nat→List Nat→List Obj→Ak):=[λb a d=>Os it c u i,λb a d=>Uk Q.ah Q.av es2 n2 (c1 (c i)) (tk a 0) false,λb a d=>FM Q.fd es1 n1 (Fs c i (tk a 0)) (Bu (tk a 2)) (cond h (.int 1 tv) (Bu (tk a 2))),λb a d=>GR Q.av es2 n2 (PyData.keyHash w.2 (c1 (c i))) (Fs c i (tk a 0)) (.int (cond h 0 (-1)) (tk a 5))]
noncomputable abbrev Ot(o:Obj):Ae:=[(f,o),(it,DA c u i),(Q.fd,di es1 n1),(Q.av,di es2 n2),(Q.ah,fi Jw [.builtin HF,.ref Q.av])]
noncomputable def wJ(b a:Nat→Nat):QS:=⟨c i,cond ab S.t6 (cond v S.t6 (a 1)),a 0,cond h (a 8) S.t,cond v S.t7 (a 3),cond h 1 0,cond h tv (a 2)⟩
theorem wK:AD w (cond h 90 74) (BU Mc it (GX f)) (Ot f it n1 n2 i c u es1 es2 Q (JC w.2 Q ab v k S)) ((dg 6 0xeac8aae2dec8027)++cond h [1,0,1,1] []) (AB [(0,[1]),(0,[4,3]),(0,[2]),(1,[3])] (wI w it n1 n2 i c u tv es1 es2 Q h)) [] 0 620 4000 (.range 5)
   (λb a d=>.again (BU Mc it (GX f))) (λb a d=>Ot f it n1 (n2+1) (i+1) c u es1 (es2++[⟨PyData.keyHash w.2 (c1 (c i)),.str (c1 (c i)) (a 0),.int (cond h 0 (-1)) (a 5)⟩]) Q (JC w.2 Q ab true (cond h (k+1) k) (wJ i c tv ab v h S b a))) (cond h 10 7):=by
 cases ab <;> cases v <;> cases h <;> kernel_rfl
end
end
noncomputable def Lt(c:Nat→Nat):Prop:= ∀i,i<8→c i=65+i∨c i=97+i
theorem Lt.inj{c d:Nat→Nat}(h:Lt c)(g:Lt d){i j:Nat}(k:i<8)(l:j<8)(e:c i=d j):i=j:=by
 rcases h i k with a|a <;> rcases g j l with b|b <;> (first|lia|omega)
theorem Ul{x y:Nat}(h:c1 x=c1 y):x=y:=by
 have:=Am (λs:Str=>s.cps.toList) h;simpa[c1]using this
theorem Lt.ascii{c:Nat→Nat}(h:Lt c):(sf c).cps.all (· <128)=true:=by
 have k: ∀i,i<8→c i<128:=λi b=>by rcases h i b with a|a <;> (first|lia|omega)
 simp only[sf,List.all_toArray,List.all_cons,List.all_nil,Bool.and_true];simp[k 0 (by (first|lia|omega)),k 1 (by (first|lia|omega)),k 2 (by (first|lia|omega)),k 3 (by (first|lia|omega)),k 4 (by (first|lia|omega)),k 5 (by (first|lia|omega)),k 6 (by (first|lia|omega)),k 7 (by (first|lia|omega))]
noncomputable def BJ(c g:Nat→Nat)(v:Nat→Value)(i:Nat):List (Str×Nat×Value):=(List.range i).map λk=>(c1 (c k),g k,v k)
noncomputable def DO{a:Type}(g:Nat→a)(i:Nat)(x:a):Nat→a:=λk=>if k=i then x else g k
theorem Qm(c g:Nat→Nat)(v:Nat→Value)(i t:Nat)(x:Value):BJ c g v i++[(c1 (c i),t,x)]=BJ c (DO g i t) (DO v i x) (i+1):=by
 unfold BJ;rw[J8,BC,List.map_singleton];congr 1
 ·apply DW
  intro k a;have:k≠i:=λe=>by rw[e]at a;simp at a
  simp[DO,this]
 ·simp[DO]
theorem Kq{c d g:Nat→Nat}{v:Nat→Value}(h:Lt c)(s:Lt d){i j:Nat}(t:i≤8)(u:j<8)(n: ∀k,k<i→c k≠d j):E9 (c1 (d j)) (BJ c g v i)=none:=by
 induction i with
 |zero=>rfl
 |succ i a=>
  have a:=a (by (first|lia|omega)) λk w=>n k (by (first|lia|omega));have e:BJ c g v (i+1)=BJ c g v i++[(c1 (c i),g i,v i)]:=by
   unfold BJ;rw[J8,BC,List.map_singleton]
  have o: ∀(l:List (Str×Nat×Value)) (k:Str) (x:Str×Nat×Value),E9 k l=none→x.1≠k→E9 k (l++[x])=none:=by
   intro l
   induction l with
   |nil=>intro k x _ m;simp[E9,m]
   |cons y l a=>
    intro k x b m;unfold E9 at b
    split at b
    ·cases b
    ·rename_i r
     show(if y.1=k then some y.2.2 else E9 k (l++[x]))=none;rw[AI r];exact a k x b m
  rw[e];exact o _ _ _ a λq=>n i (by (first|lia|omega)) (Ul q)
theorem Qn{c a g:Nat→Nat}{v:Nat→Value}(h:Lt c)(d:Lt a){i j:Nat}(s:i≤8)(t:j<i)(e:c j=a j):E9 (c1 (a j)) (BJ c g v i)=some (v j):=by
 have key: ∀(m n:Nat),n+m≤8→n≤j→j<n+m→E9 (c1 (a j)) ((List.range' n m).map λk=>(c1 (c k),g k,v k))=some (v j):=by
  intro m
  induction m with
  |zero=>intro n _ l o;(first|lia|omega)
  |succ m r=>
   intro n u l o;rw[NI,Ej];show(if c1 (c n)=c1 (a j)then some (v n)else E9 _ _)=_
   by_cases b:n=j
   ·subst b;rw[AS (by rw[e])]
   ·rw[AI λq=>b (h.inj d (by (first|lia|omega)) (by (first|lia|omega)) (Ul q))]
    exact r (n+1) (by (first|lia|omega)) (by (first|lia|omega)) (by (first|lia|omega))
 have:=key i 0 (by (first|lia|omega)) (by (first|lia|omega)) (by (first|lia|omega));unfold BJ;rw[Hl];exact this
theorem Qo{w:Aa}{A:Al}{c:Code}{L:Ae}{j:Result→Ae→List Nat→Prop}(h: ∀(s:Ab),An (kt w) s L→ ∀R:Result→Ab→Prop,(∀r i e g,j r e g→Ag (kt w) s i L e→AY s.toks i.toks g→R r i)→codeAny (model pw w) A c R s):RunsW w A c L j:=
 λs S=>h s S _ λ_ _ e g a b d=>⟨e,g,a,b,d⟩
theorem Ag.frame{kt:KT}{s m:Ab}{L j F:Ae}(S:An kt s (L++F))(x:Ag kt s m L j):Ag kt s m (L++F) (j++F):=by
 have n: ∀p∈F,p.1<s.heap.objs.size:=λp c=>Heap.lt_size (S.mem p (BG _ c));have g:=S.nd;rw[BC,Fm]at g;have t: ∀p∈j,∀q∈F,p.1≠q.1:=by
  intro p c q d e;rcases x.new p c with⟨r,k,u⟩|h
  ·exact g.2.2 r.1 (B7 k) q.1 (B7 d) (u.trans e)
  ·exact absurd (n q d) (Nat.not_lt.mpr (e▸h))
 refine⟨⟨λp c=> ?_,?_,x.sat.old,λp c a o i=> ?_⟩,λb o l v=>x.keep b o l λp c=>v p (Dk _ c),λp c=> ?_,x.size,x.gens,x.os,x.drawn,x.toks⟩
 ·rcases List.mem_append.mp c with c|c
  ·exact x.sat.mem p c
  ·exact x.keep _ _ (S.mem p (BG _ c)) λq d e=>g.2.2 q.1 (B7 d) p.1 (B7 c) e
 ·rw[BC,Fm]
  refine⟨x.sat.nd,g.2.1,λa i b l=> ?_⟩;obtain⟨p,c,rfl⟩:=List.mem_map.mp i;obtain⟨q,d,rfl⟩:=List.mem_map.mp l;exact t p c q d
 ·rcases List.mem_append.mp c with c|c
  ·exact x.sat.apart p c a o i
  ·exact S.apart p (BG _ c) a o i
 ·rcases List.mem_append.mp c with c|c
  ·rcases x.new p c with⟨r,k,e⟩|h
   ·exact .inl ⟨r,Dk _ k,e⟩
   ·exact .inr h
  ·exact .inl ⟨p,BG _ c,rfl⟩
theorem An.left{kt:KT}{s:Ab}{L F:Ae}(S:An kt s (L++F)):An kt s L:=by
 have b:=S.nd;rw[BC,Fm]at b;exact⟨λp a=>S.mem p (Dk _ a),b.1,S.old,λp a=>S.apart p (Dk _ a)⟩
theorem Md{w:Aa}{A:Al}{c:Code}{L F:Ae}{Φ i:Result→Ae→List Nat→Prop}(h:RunsW w A c L Φ)(m: ∀r e g,Φ r e g→i r (e++F) g):RunsW w A c (L++F) i:=λs S=>
 B5 (h s S.left) (by rintro r j ⟨e,g,a,b,d⟩;exact⟨e++F,g,m r e g a,b.frame S,d⟩)
theorem Qp{w:Aa}{a:Nat}{c:Nat→Nat}{u i:Nat}(b:i<8):Av w (Os a c u i):=by
 refine Ba.ext λA d e g=> ?_;exact Bc (wD w a c u i b) [0] g d e AR Ar λh j k=>⟨[],[],rfl,rfl,rfl,rfl,rfl⟩
theorem wL{w:Aa}{c a n t:Nat}{l:List (Str×Nat×Value)}{x:Str}{b:Bool}(g:(E9 x l).isSome=b):Av w (Uk c a (Bg w.2 l) n x t b):=by
 refine Ol λA s h i j S R d=> ?_;have r:RunsW w A (.call (.ref c) ⟨[.str x t],[]⟩) [(c,Oq a),(a,di (Bg w.2 l) n)] λr e m=>r= .ok (.ret (.bool b))∧e=[(c,Oq a),(a,di (Bg w.2 l) n)]:=by
  refine Dz (wC w c a (Bg w.2 l) n x t) [] j h i AR Ar λD E G=>Qo λs S R d=> ?_;have o:=S.mem (a,di (Bg w.2 l) n) (by (first|((repeat(first|exact .head _|apply List.mem_cons_of_mem));done)|simp));have u:=JA (strKind pw w) o (GU w l);refine (?_:codeAny _ _ (.builtin HF ⟨[.ref a,.str x t],[]⟩) _ s);rw[show HF="dict.__contains__" from qD];have v:plainId "dict.__contains__"=true:=F.slot_dict_contains.plain;refine EK F.entry_dict_contains ?_;rw[EG v];refine meets_dict_contains (strKind pw w) (k:=x) a (GW w x t) (Om S (p:=(a,di (Bg w.2 l) n)) (by (first|((repeat(first|exact .head _|apply List.mem_cons_of_mem));done)|simp))) A _ s ⟨_,u,?_⟩;rw[GV,g];exact d _ _ _ [] ⟨rfl,rfl⟩ S.tok (Jn _)
 refine B5 (r s S) λH y hz=> ?_;obtain⟨e,m,⟨z,B⟩,C,I⟩:=hz;subst z B;exact d y C
theorem Um{P:Aj}{c g:Nat→Nat}{v:Nat→Value}{i:Nat}:(Bg P (BJ c g v i)).length=i:=(BZ _).trans ((BZ _).trans Gc)
theorem Un{w:Aa}{A:Al}(C:A.handled=none)(D:A.depth≤620)(E:A.units≤4000){f l a m u y z:Nat}{c:Nat→Nat}(n:Lt c):
  ∀(j i:Nat),i+j=8→ ∀(g h:Nat→Nat) (v:Bool) (x b d:Nat),(0<i→v=true∧x=c (i-1))→
   RunsW w A (BU Mb l (GX f)) [(f,JB w.2 y z m a v x b d),(l,DA c u i),(a,di (Bg w.2 (BJ c g (λk=>.int 1 (h k)) i)) i)]
    λr B o=>r= .ok .next∧Ly λ (o1:Obj) (g h:Nat→Nat) (b d:Nat)=>B=[(f,JB w.2 y z m a true (c 7) b d),(l,o1),(a,di (Bg w.2 (BJ c g (λk=>.int 1 (h k)) 8)) 8)]
 |0,i,G,g,h,v,x,b,d,H=>by
  obtain rfl:i=8:=G;obtain⟨M,N⟩:=H (Ji 7);rw[M,N];refine Md (Bc (wG w f l c u _) [] C D E AR Ar (Φ:=λr B o=>r= .ok .next∧B=[(f,JB w.2 y z m a true (c 7) b d),(l,(fi EA [.none,.int 8 0]))]) λO s P=>⟨rfl,rfl⟩) (F:=[(a,_)]) λr B o hz=> ?_;exact⟨hz.1,_,g,h,b,d,Am (· ++[(a,_)]) hz.2⟩
 |j+1,i,G,g,h,v,x,b,d,H=>by
  have t:i<8:=by (first|lia|omega)
  have I:findBy (strKind pw w).is ⟨Bg w.2 (BJ c g (λk=>.int 1 (h k)) i)⟩ (c1 (c i))=none:=by
   rw[GV];exact Kq n n (Bw t) t λk J e=>CS J (n.inj n (DC J t) t e)
  refine Dz (wF w f l a m i i c u y z v x b d _) [] C D E (Az _ _ (Ah (λK o L=>Qp t) (Ah (λK o L=>Kp (strKind pw w) (GW w _ _) (GU w _) (by rw[I];rfl)) (Ah (λK o L=>Oo (strKind pw w) (GW w _ _) rfl (GU w _) I (by rw[Um];(first|lia|omega))) Ay)))) Ar λO s P=> ?_;have e:Bg w.2 (BJ c g (λk=>.int 1 (h k)) i)++[⟨PyData.keyHash w.2 (c1 (c i)),.str (c1 (c i)) (s 0),.int 1 (s 4)⟩]=Bg w.2 (BJ c (DO g i (s 0)) (λk=>.int 1 (DO h i (s 4) k)) (i+1)):=by
   rw[Ql,Qm];congr 2;funext k;unfold DO
   split <;> rfl
  rw[e];exact Un C D E n j (i+1) (by (first|lia|omega)) _ _ true (c i) _ _ λ_=>⟨rfl,rfl⟩
noncomputable def cnt(a b:Nat→Nat):Nat→Nat
 |0=>0
 |i+1=>cnt a b i+if a i=b i then 1 else 0
theorem wM(a b:Nat→Nat)(i:Nat):((cnt a b (i+1):Nat):Int)=cond (decide (a i=b i)) ((cnt a b i:Int)+1) (cnt a b i):=by
 show((cnt a b i+if a i=b i then 1 else 0:Nat):Int)=_
 by_cases h:a i=b i
 ·rw[AS h,CD h]
  rfl
 ·rw[AI h,BH h]
  rfl
noncomputable abbrev Kr(a b c:Nat→Nat):=(BJ a b (λk=>.int 1 (c k)) 8)
theorem Uo{w:Aa}{A:Al}(C:A.handled=none)(D:A.depth≤620)(E:A.units≤4000){f l u:Nat}{Q:QC}{a b g h:Nat→Nat}(c:Lt a)(s:Lt b){y:Bool}:
  ∀(j i:Nat),i+j=8→ ∀(n:Nat→Nat) (o:Nat→Value) (v:Bool) (S:QS),(0<i→v=true∧S.x=a (i-1))→
   RunsW w A (BU Mc l (GX f)) (Ot f l 8 i i a u (Bg w.2 (Kr b g h)) (Bg w.2 (BJ a n o i)) Q (JC w.2 Q y v (cnt a b i) S))
    λr z m=>r= .ok .next∧Ew λ (o1 o2:Obj) (S:QS)=>S.x=a 7∧z=[(f,JC w.2 Q y true (cnt a b 8) S),(l,o1),(Q.fd,di (Bg w.2 (Kr b g h)) 8),(Q.av,o2),(Q.ah,fi Jw [.builtin HF,.ref Q.av])]
 |0,i,I,n,o,v,S,J=>by
  obtain rfl:i=8:=I;obtain⟨N,O⟩:=J (Ji 7);rw[N];refine Md (Bc (wH w f l a u _) [] C D E AR Ar (Φ:=λr z m=>r= .ok .next∧z=[(f,JC w.2 Q y true (cnt a b 8) S),(l,(fi EA [.none,.int 8 0]))]) λP R T=>⟨rfl,rfl⟩) (F:=[(Q.fd,_),(Q.av,_),(Q.ah,_)]) λr z m hz=> ?_;exact⟨hz.1,_,_,S,O,Am (· ++[(Q.fd,_),(Q.av,_),(Q.ah,_)]) hz.2⟩
 |j+1,i,I,n,o,v,S,J=>by
  have d:i<8:=by (first|lia|omega)
  have K:findBy (strKind pw w).is ⟨Bg w.2 (BJ a n o i)⟩ (c1 (a i))=none:=by
   rw[GV];exact Kq c c (Bw d) d λk B e=>CS B (c.inj c (DC B d) d e)
  have L:(E9 (c1 (a i)) (BJ a n o i)).isSome=false:=by
   rw[←GV,K];rfl
  have M: ∀t,(findBy (strKind pw w).is ⟨Bg w.2 (Kr b g h)⟩ (c1 (a i))).getD (.int 0 t)=cond (decide (a i=b i)) (.int 1 (h i)) (.int 0 t):=λt=>by
   rw[GV]
   by_cases e:a i=b i
   ·rw[Qn s c (A8 8) d e.symm,CD e]
    rfl
   ·rw[Kq s c (A8 8) d λk B q=>e ?_,BH e]
    ·rfl
    ·exact q.symm.trans (Am b (s.inj c B d q))
  refine Dz (wK w f l 8 i i a u (h i) _ _ Q y v (decide (a i=b i)) (cnt a b i) S) [] C D E (Az _ _ (Ah (λG m H=>Qp d) (Ah (λG m H=>wL L) (Ah (λG m H=>Kp (strKind pw w) (GW w _ _) (GU w _) (M _)) (Ah (λG m H=>Oo (strKind pw w) (GW w _ _) rfl (GU w _) K (by rw[Um];(first|lia|omega))) Ay))))) Ar λP R T=> ?_;rw[Ql,Qm,←wM];exact Uo C D E c s j (i+1) (by (first|lia|omega)) _ _ true _ λ_=>⟨rfl,rfl⟩
noncomputable def Bl:Nat→UInt64
 |0=>0
 |1=>4593671619917905920
 |2=>4598175219545276416
 |3=>4600427019358961664
 |4=>4602678819172646912
 |5=>4603804719079489536
 |6=>4604930618986332160
 |7=>4606056518893174784
 |_=>4607182418800017408
noncomputable def Ou(i t u:Nat):Ak:=
 {d:=600,u:=3800,h:=none,c:=.call (.ref 173) ⟨[.int i t,.int 16 u],[]⟩,idx:=[],pre:=[],na:=0,nt:=1,r:=λ_ t=>.ok (.ret (.float (Bl i) (t.getD 0 0))),outs:=λ_ _ _=>[],news:=λ_ _ _=>[]}
noncomputable def Uq(P:Aj)(f b a m u e g:Nat)(c:Nat→Nat):Ak:=
 {d:=620,u:=4000,h:=none,c:=BU Mb b (GX f),idx:=[],pre:=[(f,JB P e g m a false 0 0 0),(b,DA c u 0),(a,di [] 0)],na:=0,nt:=0,no:=19,r:=λ_ _=>.ok .next,
  outs:=λ_ _ o=>[JB P e g m a true (c 7) (Ao o 17) (Ao o 18),o.getD 0 default,di (Bg P (BJ c (λi=>Ao o (1+i)) (λk=>.int 1 (Ao o (9+k))) 8)) 8],news:=λ_ _ _=>[]}
noncomputable def Qq(e:Bool)(P:Aj)(f i u:Nat)(Q:QC)(S:QS)(a b g h:Nat→Nat):Ak:=
 {d:=620,u:=4000,h:=none,c:=BU Mc i (GX f),idx:=[],pre:=Ot f i 8 0 0 a u (Bg P (Kr b g h)) [] Q (JC P Q e false 0 S),na:=0,nt:=0,no:=8,r:=λ_ _=>.ok .next,
  outs:=λ_ _ o=>[JC P Q e true (cnt a b 8) ⟨a 7,Ao o 2,Ao o 3,Ao o 4,Ao o 5,Ao o 6,Ao o 7⟩,o.getD 0 default,di (Bg P (Kr b g h)) 8,o.getD 1 default,fi Jw [.builtin HF,.ref Q.av]],news:=λ_ _ _=>[]}
noncomputable abbrev JD(P:Aj)(b g h:Nat→Nat):Obj:=di (Bg P (Kr b g h)) 8
theorem kk(w:Aa)(t u i:Nat)(d:i<9):AD w 43 (.call (.ref 173) ⟨[.int i t,.int 16 u],[]⟩) [] [0,0,0,1,1,0,1,1,0,1,1,1,1] [] [] 1 600 3800 [] (λb a c=>.done (.ret (.float (Bl i) (a 4)))) (λb a c=>[]) 5:=by
 revert i;exact GO 9 (by kernel_rfl)
theorem Qr{w:Aa}{i t u:Nat}(a:i<9):Av w (Ou i t u):=
 Ba.ext λA b c d=>Bc (kk w t u i a) [4] d b c AR Ar λe g h=>⟨[],[],rfl,rfl,rfl,rfl,rfl⟩
noncomputable abbrev AH(a:Nat→Nat)(b:Nat):Value:=(.str (sf a) b)
theorem wN(w:Aa)(m d e g h:Nat)(q:Nat→Nat)(i:Value)(a b:Nat→Nat)(t u:Nat):
  AD w 277 (.call (.ref 267) ⟨[.ref m],[]⟩) ([(m,mO d),(d,AT w.2 q (AH a t) (AH b u) .none i e g h)]) (dg 14 0x8deacdc6c33a8d836b0fa021368425f5408e5302c0ad86a49e4e524e5ec40479bfe08b785368178df9562833435af301060bdf4cfed8762d3e245129f0f) [] (Bh [2,2] [λk c l=>(.int 8 (tk c 4),.int 8 (tk c 4)),λk c l=>(.int 8 (tk c 7),.int 8 (tk c 7))]) 1 570 3500 [0,1]
   (λn j o=>.done (.ret (.float 4607182418800017408 (j 15)))) (λn j o=>[(m,⟨.ref 270,some d,Data.plain,⟨[]⟩⟩),(d,di [Ad w TP (q 0) .none,Ad w Cq (q 1) (.str ⟨⟨[a 0,a 1,a 2,a 3,a 4,a 5,a 6,a 7]⟩⟩ t),Ad w LU (q 2) (.str ⟨⟨[b 0,b 1,b 2,b 3,b 4,b 5,b 6,b 7]⟩⟩ u),Ad w TH (q 3) IJ,Ad w P3 (q 4) .none,Ad w TS (q 5) .none,Ad w Ob (q 6) i,Ad w NZ (q 7) (.ref e),Ad w TK (q 8) (.ref g),Ad w TN (q 9) (.ref h)] 10)]) 16:=by
 kernel_rfl
theorem wO(w:Aa)(m d l n o:Nat)(q:Nat→Nat)(a b:Nat→Nat)(t u:Nat):
  AD w 323 (.call (.ref 260) ⟨[.ref m],[]⟩) ([(m,mO d),(d,AT w.2 q (AH a t) (AH b u) .none .none l n o)]) (dg 13 0x5f304743b7846eb318558fb53ce3ac0cb9fede6f2c79415b2b1399a00da6653b64ea1a85bb933388216b6ffe4ccc48004e76d3fdf819cdc55ee82dc3da3827b768db718c44417e47cb7151872) (AB [(3,[]),(0,[2,4,3]),(8,[]),(0,[2,11,3,5,6]),(7,[])] ([λe c g=>Op (sf b) u,λe c g=>Uq w.2 (tk e 0) (tk e 2) (tk e 1) m u (tk c 0) (tk c 5) b,λe c g=>Op (sf a) t,λe c g=>Qq true w.2 (tk e 0) (tk e 9) t ⟨tk c 0,tk c 5,tk c 9,tk c 12,tk c 13,m,tk e 1,tk e 3,tk e 4⟩ ⟨b 7,Ao g 17,Ao g 18,tk c 11,0,0,0⟩ a b (λi=>Ao g (1+i)) (λk=>Ao g (9+k)),λe c g=>Ou (cnt a b 8) (Ao g 23) (tk c 21)])) [] 1 570 3500 [0,1,3]
   (λh r j=>.done (.ret (.float (Bl (cnt a b 8)) (r 22)))) (λh r j=>[(m,mO d),(d,AT w.2 q (AH a t) (AH b u) .none (.ref (h 1)) l n o),(h 1,JD w.2 b (λi=>BQ (j (1+i))) (λk=>BQ (j (9+k))))]) 23:=by
 kernel_rfl
theorem wP(w:Aa)(m d k l n i:Nat)(q:Nat→Nat)(a b g h:Nat→Nat)(t u:Nat):
  AD w 261 (.call (.ref 260) ⟨[.ref m],[]⟩) ([(m,mO d),(d,AT w.2 q (AH a t) (AH b u) .none (.ref i) k l n),(i,JD w.2 b g h)]) (dg 12 0x756ad672b41dea09b48542539321856238f4919fa04716cb04d0a8e2ddc789cc3781ceea0791a7af27f55f6fe24998e0d86351c072b3aa157d8) (AB [(9,[]),(0,[3,10,2,4,5]),(7,[])] ([λe c j=>Op (sf a) t,λe c j=>Qq false w.2 (tk e 0) (tk e 7) t ⟨tk c 0,tk c 4,tk c 5,tk c 8,tk c 9,m,i,tk e 1,tk e 2⟩ ⟨0,0,0,tk c 7,0,0,0⟩ a b g h,λe c j=>Ou (cnt a b 8) (Ao j 4) (tk c 17)])) [] 1 570 3500 [0,1,2]
   (λr o s=>.done (.ret (.float (Bl (cnt a b 8)) (o 18)))) (λr o s=>[(m,mO d),(d,AT w.2 q (AH a t) (AH b u) .none (.ref i) k l n),(i,JD w.2 b g h)]) 19:=by
 kernel_rfl
theorem Mf{w:Aa}{A:Al}{c:Code}{L:Ae}{Φ:Result→Ae→List Nat→Prop}(h:RunsW w A c L Φ):RunsW w A c L λr e g=>g=[]∧ ∃i,Φ r e i:=λs S=>
 B5 (h s S) (by rintro r j ⟨e,g,a,b,d⟩;exact⟨e,[],⟨rfl,g,a⟩,b,d.le⟩)
theorem wQ{w:Aa}{f a b m u d i:Nat}{c:Nat→Nat}(j:Lt c):Av w (Uq w.2 f a b m u d i c):=by
 refine Ba.ext λA k l n=>(Mf (Un n k l j 8 0 rfl (λ_=>0) (λ_=>0) false 0 0 0 λh=>absurd h (Iq 0))).mono ?_;rintro r z B ⟨e,y,o,o1,g,h,s,t,v⟩;refine⟨[],[o1,Ac (g 0),Ac (g 1),Ac (g 2),Ac (g 3),Ac (g 4),Ac (g 5),Ac (g 6),Ac (g 7),Ac (h 0),Ac (h 1),Ac (h 2),Ac (h 3),Ac (h 4),Ac (h 5),Ac (h 6),Ac (h 7),Ac s,Ac t],rfl,by rw[e];rfl,rfl,o,?_⟩;rw[v];kernel_rfl
theorem Ur{c:Bool}{w:Aa}{f d u:Nat}{Q:QC}{S:QS}{a b g h:Nat→Nat}(i:Lt a)(j:Lt b):Av w (Qq c w.2 f d u Q S a b g h):=by
 refine Ba.ext λA k l m=>(Mf (Uo m k l i j 8 0 rfl (λ_=>0) (λ_=>.none) false S λh=>absurd h (Iq 0))).mono ?_;rintro r v y ⟨e,t,n,o1,o2,S,o,s⟩;refine⟨[],[o1,o2,Ac S.t6,Ac S.tx,Ac S.t,Ac S.t7,Ac S.y,Ac S.ty],rfl,by rw[e];rfl,rfl,n,s.trans ?_⟩;cases S;cases o;rfl
theorem Mg(a b:Nat→Nat): ∀i,cnt a b i≤i:=by
 intro i
 induction i with
 |zero=>exact A8 _
 |succ i c=>unfold cnt;split <;> (first|lia|omega)
noncomputable def Us(P:Aj)(m d e g i:Nat)(q:Nat→Nat)(j:Value)(a b:Nat→Nat)(t u:Nat):Ak:=
 {d:=570,u:=3500,h:=none,c:=.call (.ref 267) ⟨[.ref m],[]⟩,idx:=[],pre:=[(m,mO d),(d,AT P q (.str (sf a) t) (AH b u) .none j e g i)],na:=0,nt:=1,
  r:=λ_ t=>.ok (.ret (.float 4607182418800017408 (t.getD 0 0))),outs:=λ_ _ _=>[mO d,AT P q (.str (sf a) t) (AH b u) .none j e g i],news:=λ_ _ _=>[]}
theorem wT{w:Aa}{m d c e g:Nat}{q:Nat→Nat}{h:Value}{a b:Nat→Nat}{t u:Nat}:Av w (Us w.2 m d c e g q h a b t u):=by
 refine Ba.ext λA i j k=> ?_;exact Bc (wN w m d c e g q h a b t u) [15] k i j AR (Bi _ _ (AA (λ_ _ _=>rfl) (AA (λ_ _ _=>rfl) Bp))) λl n o=>⟨[],[],rfl,rfl,rfl,rfl,rfl⟩
noncomputable def Ut(P:Aj)(m d e g j:Nat)(q:Nat→Nat)(a b:Nat→Nat)(t u:Nat):Ak:=
 {d:=570,u:=3500,h:=none,c:=.call (.ref 260) ⟨[.ref m],[]⟩,idx:=[],pre:=[(m,mO d),(d,AT P q (.str (sf a) t) (AH b u) .none .none e g j)],na:=1,nt:=1,no:=16,
  r:=λ_ t=>.ok (.ret (.float (Bl (cnt a b 8)) (t.getD 0 0))),outs:=λx _ _=>[mO d,AT P q (.str (sf a) t) (AH b u) .none (.ref (x.getD 0 0)) e g j],news:=λ_ _ o=>[JD P b (λi=>Ao o i) (λk=>Ao o (8+k))]}
theorem wU{w:Aa}{m d g h i:Nat}{q:Nat→Nat}{a b:Nat→Nat}{t u:Nat}(j:Lt a)(e:Lt b):Av w (Ut w.2 m d g h i q a b t u):=by
 refine Ba.ext λA k l n=> ?_;refine Bc (wO w m d g h i q a b t u) [22] n k l (Az _ _ (Ah (λ_ _ _=>Qk e.ascii) (Ah (λ_ _ _=>wQ e) (Ah (λ_ _ _=>Qk j.ascii) (Ah (λ_ _ _=>Ur j e) (Ah (λ_ _ _=>Qr (Gb (Mg a b 8))) Ay)))))) Ar
  λo r c=>⟨[o 1],[c 1,c 2,c 3,c 4,c 5,c 6,c 7,c 8,c 9,c 10,c 11,c 12,c 13,c 14,c 15,c 16],rfl,rfl,rfl,rfl,?_⟩
 kernel_rfl
noncomputable def Uu(P:Aj)(m d i j k e:Nat)(q:Nat→Nat)(a b g h:Nat→Nat)(t u:Nat):Ak:=
 {d:=570,u:=3500,h:=none,c:=.call (.ref 260) ⟨[.ref m],[]⟩,idx:=[],pre:=[(m,mO d),(d,AT P q (.str (sf a) t) (AH b u) .none (.ref e) i j k),(e,JD P b g h)],na:=0,nt:=1,no:=0,
  r:=λ_ t=>.ok (.ret (.float (Bl (cnt a b 8)) (t.getD 0 0))),outs:=λ_ _ _=>[mO d,AT P q (.str (sf a) t) (AH b u) .none (.ref e) i j k,JD P b g h],news:=λ_ _ o=>[]}
theorem wV{w:Aa}{m d c e i j:Nat}{q:Nat→Nat}{a b g h:Nat→Nat}{t u:Nat}(k:Lt a)(l:Lt b):Av w (Uu w.2 m d c e i j q a b g h t u):=by
 refine Ba.ext λA n o r=> ?_;exact Bc (wP w m d c e i j q a b g h t u) [18] r n o (Az _ _ (Ah (λ_ _ _=>Qk k.ascii) (Ah (λ_ _ _=>Ur k l) (Ah (λ_ _ _=>Qr (Gb (Mg a b 8))) Ay)))) Ar
  λs v y=>⟨[],[],rfl,rfl,rfl,rfl,rfl⟩
noncomputable abbrev Uv(f:Nat):Env:={scope:=EM (EO 6 6),locals:=f,globals:=3,cells:=[],qual:=⟨⟨[83,101,113,117,101,110,99,101,77,97,116,99,104,101,114,46,102,105,110,100,95,108,111,110,103,101,115,116,95,109,97,116,99,104,46,60,108,111,99,97,108,115,62,46]⟩⟩,func:=some 224,code:=.ref 223,frame:=some f,builtins:=0}
noncomputable abbrev Uw:Stmt:=AF (AO (EO 6 6)) 7
noncomputable abbrev Bb(i n:Nat):Obj:=fi Ez [.int i 0,.int n 0,.int 1 0]
noncomputable def Ft(a i n:Nat):Ak:=
 {d:=900,u:=9000,h:=none,c:=.call (.builtin Ub) ⟨[.ref a],[]⟩,idx:=[],pre:=[(a,Bb i (n+1))],na:=0,nt:=1,
  r:=λ_ t=>.ok (.ret (.int i (t.getD 0 0))),outs:=λ_ _ _=>[Bb (i+1) n],news:=λ_ _ _=>[]}
noncomputable def Ce(c:Nat→Nat)(u i a:Nat):Ak:=
 {d:=900,u:=9000,h:=none,c:=.call (.builtin T5) ⟨[.str (sf c) u,.int i a],[]⟩,idx:=[],pre:=[],na:=0,nt:=1,
  r:=λ_ t=>.ok (.ret (.str (c1 (c i)) (t.getD 0 0))),outs:=λ_ _ _=>[],news:=λ_ _ _=>[]}
noncomputable abbrev Ov(a b:Nat)(c:List DictEntry)(d:Nat):=[(a,fi Jw [.builtin Jy,.ref b]),(b,di c d)]
noncomputable def IK(b c:Nat)(d:List DictEntry)(n:Nat)(key a v:Value):Ak:=
 IE (.call (.ref b) ⟨[key,a],[]⟩) (Ov b c d n) v
noncomputable abbrev Cl(P:Aj)(e:Nat→Nat)(m c d:Nat)(s:Nat→Nat)(a b:Nat→Nat)(t u g h no i p z tz j tp:Nat)(x:List DictEntry)(n:Nat):Obj:=
 fr ([Aq P HC (e 0) (.ref m),Aq P TG (e 1) (.int c (s 0)),Aq P TF (e 2) (.int d (s 1)),Aq P TM (e 3) (.int c (s 2)),Aq P TJ (e 4) (.int d (s 3)),Aq P Cq (e 5) (AH a t),Aq P LU (e 6) (AH b u),Aq P NZ (e 7) (.ref g),Aq P yF (e 8) (.ref h),Aq P yB (e 9) (.int z tz),Aq P xZ (e 10) (.int p j),Aq P xX (e 11) (.int p tp),Aq P yG (e 12) (.ref i),Aq P yM (e 13) (.ref no)]++x) n
noncomputable abbrev Ks(P:Aj)(a b c i d e g:Nat):List DictEntry:=[Aq P By a (.int i d),Aq P TQ b (.ref e),Aq P TR c (.ref g)]
noncomputable abbrev Fu(P:Aj)(b c d e g i h l m j n k a:Nat):List DictEntry:=[Aq P By b (.int i h),Aq P TQ c (.ref l),Aq P TR d (.ref m),Aq P CL e (.int j n),Aq P BW g (.int k a)]
theorem wW(w:Aa)(a i n:Nat)(c:i+n<8):
  AD w 16 (.call (.builtin Ub) ⟨[.ref a],[]⟩) ([(a,Bb i (n+1))]) [1,1,1,1,1,1,1,1] [] [] 1 900 9000 [0]
   (λd b e=>.done (.ret (.int i (b 0)))) (λd b e=>[(a,Bb (i+1) n)]) 1:=by
 have g:i<8:=by (first|lia|omega)
 have h:n<8:=by (first|lia|omega)
 clear c;revert n;revert i;exact xM 8 (by kernel_rfl)
theorem wX(w:Aa)(c:Nat→Nat)(u i b:Nat)(g:i<8):
  AD w 8 (.call (.builtin T5) ⟨[.str (sf c) u,.int i b],[]⟩) ([]) [] [] [] 1 900 9000 []
   (λd a e=>.done (.ret (Fs c i (a 0)))) (λd a e=>[]) 1:=by
 revert i;exact GO 8 (by kernel_rfl)
theorem wY(w:Aa)(c a:Nat)(e:List DictEntry)(n:Nat)(k d:Int)(b g:Nat):
  AD w 10 (.call (.ref c) ⟨[.int k b,.int d g],[]⟩) (Ov c a e n) [1,2,2,2] [] [] 0 900 9000 [0,1]
   (λh i j=>.again (.builtin Jy ⟨[.ref a,.int k b,.int d g],[]⟩)) (λh i j=>[(c,fi Jw [.builtin Jy,.ref a]),(a,di e n)]) 0:=by
 kernel_rfl
noncomputable abbrev Ow(a b c:Nat)(d:Nat→Nat)(e f:Nat)(g:List DictEntry)(h i:Nat):=(AB [(0,[1]),(2,[]),(0,[2])] ([λk j l=>Ft a b c,λk j l=>Ce d e b (tk j 0),λk j l=>FM f g h (Fs d b (tk j 5)) (.ref i) (.ref i)]))
noncomputable abbrev CV(a b:Nat):=(BU Uw a (Uv b))
theorem wZ(w:Aa)(f c m v y d A no B p z tz C tp i n:Nat)(e s a b:Nat→Nat)(t u:Nat)(k D:List DictEntry)(o E G H I J K L M N O P Q R S l g r T:Nat):
  AD w 111 (CV c f) ([(f,Cl w.2 e m v y s a b t u d A no B p z tz C tp [] 14),(c,Bb i (n+1)),(d,di k o),(B,di D E),(no,li [] 0)]) (dg 11 0x2e77a73bb4e5b35f22b7b6dac7d59350a6b3a) (Ow c i n a t d k o no) [] 0 620 4000 [0,1,2,6,4]
   (λh j F=>.again (CV c f)) (λh j F=>[(f,Cl w.2 e m v y s a b t u d A no (h 1) p z tz C tp (Ks w.2 (j 1) (j 3) (j 4) i (j 0) (h 0) (h 1)) 17),(c,Bb (i+1) n),(d,di k o),(h 1,di [] 0),(no,li [] 0)]) 7:=by
 kernel_rfl
noncomputable abbrev Oy:=(rl 256 0x121011346011201133413621161956192011a7101148218a311a1b5a1b6a1b6a1b6a1b2d1011201120112946192f1110112)
noncomputable abbrev Kt:=[(0,[1]),(2,[]),(0,[2]),(6,[6,3]),(1,[7])]
theorem kA(w:Aa)(f k m y A o E no B p z tz H tp i n:Nat)(e s a b:Nat→Nat)(t u:Nat)(C F:List DictEntry)(D G J K L M N O P Q R S T U V l g r W:Nat):
  AD w 306 (CV k f) ([(f,Cl w.2 e m y A s a b t u o E no B p z tz H tp [] 14),(k,Bb i (n+1)),(o,di C D),(B,di F G),(no,li [] 0),(l,li [.int i g] 1)]) Oy (AB Kt ([λd c j=>Ft k i n,λd c j=>Ce a t i (tk c 0),λd c j=>FM o C D (.str (c1 (a i)) (tk c 5)) (.ref no) (.ref l),λd c j=>IK (tk d 0) B F G (.int ((i:Int)-1) (tk c 8)) (Bu (tk c 9)) (Bu (tk c 9)),λd c j=>GR (tk d 1) [] 0 (hashInt i) (.int i g) (.int (0+1:Nat) (tk c 11))])) (Bh [4,0,1,0,1,1] [λd c j=>(.bool (decide ((i:Int)<y)),.bool false),λd c j=>(.bool (decide ((i:Int)≥A)),.bool false),λd c j=>(.int ((0:Nat)+1) (tk c 11),.int (0+1:Nat) (tk c 11)),λd c j=>(.bool (decide (((0+1:Nat):Int)> z)),.bool true),λd c j=>(.int ((i:Int)-(0+1:Nat)+1) (tk c 15),.int (i-0:Nat) (tk c 15)),λd c j=>(.int ((i:Int)-(0+1:Nat)+1) (tk c 18),.int (i-0:Nat) (tk c 18))]) 0 620 4000 [0,1,2,7,4,5]
   (λv h I=>.again (CV k f)) (λv h I=>[(f,Cl w.2 e m y A s a b t u o E no (v 1) (i-0) (0+1) (h 11) (h 18) (h 15) (Fu w.2 (h 1) (h 3) (h 4) (h 6) (h 12) i (h 0) (v 0) (v 1) i g (0+1) (h 11)) 19),(k,Bb (i+1) n),(o,di C D),(v 1,di [⟨hashInt i,.int i g,.int (0+1:Nat) (h 11)⟩] 1),(no,li [] 0),(l,li [.int i g] 1)]) 23:=by
 kernel_rfl
theorem kB(w:Aa)(f c m o v d y no A p z tz B tp i n:Nat)(e s a b:Nat→Nat)(t u:Nat)(j G:List DictEntry)(k H I J K L N O P Q C D E R S l g r T:Nat):
  AD w 111 (CV c f) ([(f,Cl w.2 e m o v s a b t u d y no A p z tz B tp (Ks w.2 C D E I J K L) 17),(c,Bb i (n+1)),(d,di j k),(A,di G H),(no,li [] 0)]) (dg 11 0x2e77a73bb4e5b35f22b7b6dac7d59350a6b3a) (Ow c i n a t d j k no) [] 0 620 4000 [0,1,2,6,4]
   (λh F M=>.again (CV c f)) (λh F M=>[(f,Cl w.2 e m o v s a b t u d y no (h 1) p z tz B tp (Ks w.2 C D E i (F 0) (h 0) (h 1)) 17),(c,Bb (i+1) n),(d,di j k),(h 1,di [] 0),(no,li [] 0)]) 7:=by
 kernel_rfl
theorem kC(w:Aa)(f k m y A o E no B p z tz K tp i n:Nat)(e s a b:Nat→Nat)(t u:Nat)(C F:List DictEntry)(D G L M N O Q R S T H I J U V l g r W:Nat):
  AD w 306 (CV k f) ([(f,Cl w.2 e m y A s a b t u o E no B p z tz K tp (Ks w.2 H I J L M N O) 17),(k,Bb i (n+1)),(o,di C D),(B,di F G),(no,li [] 0),(l,li [.int i g] 1)]) Oy (AB Kt ([λd c h=>Ft k i n,λd c h=>Ce a t i (tk c 0),λd c h=>FM o C D (.str (c1 (a i)) (tk c 5)) (.ref no) (.ref l),λd c h=>IK (tk d 0) B F G (.int ((i:Int)-1) (tk c 8)) (Bu (tk c 9)) (Bu (tk c 9)),λd c h=>GR (tk d 1) [] 0 (hashInt i) (.int i g) (.int (0+1:Nat) (tk c 11))])) (Bh [4,0,1,0,1,1] [λd c h=>(.bool (decide ((i:Int)<y)),.bool false),λd c h=>(.bool (decide ((i:Int)≥A)),.bool false),λd c h=>(.int ((0:Nat)+1) (tk c 11),.int (0+1:Nat) (tk c 11)),λd c h=>(.bool (decide (((0+1:Nat):Int)> z)),.bool true),λd c h=>(.int ((i:Int)-(0+1:Nat)+1) (tk c 15),.int (i-0:Nat) (tk c 15)),λd c h=>(.int ((i:Int)-(0+1:Nat)+1) (tk c 18),.int (i-0:Nat) (tk c 18))]) 0 620 4000 [0,1,2,7,4,5]
   (λv j P=>.again (CV k f)) (λv j P=>[(f,Cl w.2 e m y A s a b t u o E no (v 1) (i-0) (0+1) (j 11) (j 18) (j 15) (Fu w.2 H I J (j 6) (j 12) i (j 0) (v 0) (v 1) i g (0+1) (j 11)) 19),(k,Bb (i+1) n),(o,di C D),(v 1,di [⟨hashInt i,.int i g,.int (0+1:Nat) (j 11)⟩] 1),(no,li [] 0),(l,li [.int i g] 1)]) 23:=by
 kernel_rfl
theorem Ux(w:Aa)(f c m o v d y no A p z tz B tp i n:Nat)(e s a b:Nat→Nat)(t u:Nat)(j M:List DictEntry)(k N O P Q R C D E F G H I J K l g r T:Nat):
  AD w 111 (CV c f) ([(f,Cl w.2 e m o v s a b t u d y no A p z tz B tp (Fu w.2 G H I J K O P Q R C D E F) 19),(c,Bb i (n+1)),(d,di j k),(A,di M N),(no,li [] 0)]) (dg 11 0x2e77a73bb4e5b35f22b7b6dac7d59350a6b3a) (Ow c i n a t d j k no) [] 0 620 4000 [0,1,2,6,4]
   (λh L S=>.again (CV c f)) (λh L S=>[(f,Cl w.2 e m o v s a b t u d y no (h 1) p z tz B tp (Fu w.2 G H I J K i (L 0) (h 0) (h 1) C D E F) 19),(c,Bb (i+1) n),(d,di j k),(h 1,di [] 0),(no,li [] 0)]) 7:=by
 kernel_rfl
theorem kD(w:Aa)(f k m y A o E no B p z tz M tp i n:Nat)(e s a b:Nat→Nat)(t u:Nat)(C F:List DictEntry)(D G N O P Q R S T U H I J K L l g r V:Nat):
  AD w 306 (CV k f) ([(f,Cl w.2 e m y A s a b t u o E no B p z tz M tp (Fu w.2 H I J K L N O P Q R S T U) 19),(k,Bb i (n+1)),(o,di C D),(B,di F G),(no,li [] 0),(l,li [.int i g] 1)]) Oy (AB Kt ([λd c h=>Ft k i n,λd c h=>Ce a t i (tk c 0),λd c h=>FM o C D (.str (c1 (a i)) (tk c 5)) (.ref no) (.ref l),λd c h=>IK (tk d 0) B F G (.int ((i:Int)-1) (tk c 8)) (Bu (tk c 9)) (.int r V),λd c h=>GR (tk d 1) [] 0 (hashInt i) (.int i g) (.int (r+1:Nat) (tk c 11))])) (Bh [4,0,1,0,1,1] [λd c h=>(.bool (decide ((i:Int)<y)),.bool false),λd c h=>(.bool (decide ((i:Int)≥A)),.bool false),λd c h=>(.int ((r:Nat)+1) (tk c 11),.int (r+1:Nat) (tk c 11)),λd c h=>(.bool (decide (((r+1:Nat):Int)> z)),.bool true),λd c h=>(.int ((i:Int)-(r+1:Nat)+1) (tk c 15),.int (i-r:Nat) (tk c 15)),λd c h=>(.int ((i:Int)-(r+1:Nat)+1) (tk c 18),.int (i-r:Nat) (tk c 18))]) 0 620 4000 [0,1,2,7,4,5]
   (λv j W=>.again (CV k f)) (λv j W=>[(f,Cl w.2 e m y A s a b t u o E no (v 1) (i-r) (r+1) (j 11) (j 18) (j 15) (Fu w.2 H I J K L i (j 0) (v 0) (v 1) i g (r+1) (j 11)) 19),(k,Bb (i+1) n),(o,di C D),(v 1,di [⟨hashInt i,.int i g,.int (r+1:Nat) (j 11)⟩] 1),(no,li [] 0),(l,li [.int i g] 1)]) 23:=by
 kernel_rfl
theorem kE(w:Aa)(f j m y A k E no B p z tz F tp i n:Nat)(e s a b:Nat→Nat)(t u:Nat)(C G:List DictEntry)(D H N O P Q R S T U I J K L M l g r V:Nat):
  AD w 197 (CV j f) ([(f,Cl w.2 e m y A s a b t u k E no B p z tz F tp (Fu w.2 I J K L M N O P Q R S T U) 19),(j,Bb i (n+1)),(k,di C D),(B,di G H),(no,li [] 0),(l,li [.int i g] 1)]) (rl 192 0xdb727feb4cd6268296840e85b5d7d02fcc8b111240565b2733cb590d2) (AB Kt ([λd c h=>Ft j i n,λd c h=>Ce a t i (tk c 0),λd c h=>FM k C D (.str (c1 (a i)) (tk c 5)) (.ref no) (.ref l),λd c h=>IK (tk d 0) B G H (.int ((i:Int)-1) (tk c 8)) (Bu (tk c 9)) (.int r V),λd c h=>GR (tk d 1) [] 0 (hashInt i) (.int i g) (.int (r+1:Nat) (tk c 11))])) (Bh [4,0,1,0] [λd c h=>(.bool (decide ((i:Int)<y)),.bool false),λd c h=>(.bool (decide ((i:Int)≥A)),.bool false),λd c h=>(.int ((r:Nat)+1) (tk c 11),.int (r+1:Nat) (tk c 11)),λd c h=>(.bool (decide (((r+1:Nat):Int)> z)),.bool false)]) 0 620 4000 [0,1,2,7,4,5]
   (λo v W=>.again (CV j f)) (λo v W=>[(f,Cl w.2 e m y A s a b t u k E no (o 1) p z tz F tp (Fu w.2 I J K L M i (v 0) (o 0) (o 1) i g (r+1) (v 11)) 19),(j,Bb (i+1) n),(k,di C D),(o 1,di [⟨hashInt i,.int i g,.int (r+1:Nat) (v 11)⟩] 1),(no,li [] 0),(l,li [.int i g] 1)]) 14:=by
 kernel_rfl
theorem kF(w:Aa)(f j m y A k E no B p z tz F tp i n:Nat)(e s a b:Nat→Nat)(t u:Nat)(C G:List DictEntry)(D H N O P Q R S T U I J K L M l g r W:Nat):
  AD w 197 (CV j f) ([(f,Cl w.2 e m y A s a b t u k E no B p z tz F tp (Fu w.2 I J K L M N O P Q R S T U) 19),(j,Bb i (n+1)),(k,di C D),(B,di G H),(no,li [] 0),(l,li [.int i g] 1)]) (rl 192 0xdb727feb4cd6268296840e85b5d7d02fcc8b111240565b2733cb590d2) (AB Kt ([λd c h=>Ft j i n,λd c h=>Ce a t i (tk c 0),λd c h=>FM k C D (.str (c1 (a i)) (tk c 5)) (.ref no) (.ref l),λd c h=>IK (tk d 0) B G H (.int ((i:Int)-1) (tk c 8)) (Bu (tk c 9)) (Bu (tk c 9)),λd c h=>GR (tk d 1) [] 0 (hashInt i) (.int i g) (.int (0+1:Nat) (tk c 11))])) (Bh [4,0,1,0] [λd c h=>(.bool (decide ((i:Int)<y)),.bool false),λd c h=>(.bool (decide ((i:Int)≥A)),.bool false),λd c h=>(.int ((0:Nat)+1) (tk c 11),.int (0+1:Nat) (tk c 11)),λd c h=>(.bool (decide (((0+1:Nat):Int)> z)),.bool false)]) 0 620 4000 [0,1,2,7,4,5]
   (λo v V=>.again (CV j f)) (λo v V=>[(f,Cl w.2 e m y A s a b t u k E no (o 1) p z tz F tp (Fu w.2 I J K L M i (v 0) (o 0) (o 1) i g (0+1) (v 11)) 19),(j,Bb (i+1) n),(k,di C D),(o 1,di [⟨hashInt i,.int i g,.int (0+1:Nat) (v 11)⟩] 1),(no,li [] 0),(l,li [.int i g] 1)]) 14:=by
 kernel_rfl
theorem kG(w:Aa)(f c m y A d B no k p z tz C tp i n:Nat)(e s a b:Nat→Nat)(t u:Nat)(o D:List DictEntry)(v E G H I J K L M N O P Q R S l g r T:Nat):
  AD w 111 (CV c f) ([(f,Cl w.2 e m y A s a b t u d B no k p z tz C tp [] 14),(c,Bb i (n+1)),(d,di o v),(k,di D E),(no,li [] 0)]) (dg 11 0x2e77a73bb4e5b35f22b7b6dac7d59350a6b3a) (Ow c i n a t d o v no) [] 0 620 4000 [0,1,2,6,4,3]
   (λh j F=>.again (CV c f)) (λh j F=>[(f,Cl w.2 e m y A s a b t u d B no (h 1) p z tz C tp (Ks w.2 (j 1) (j 3) (j 4) i (j 0) (h 0) (h 1)) 17),(c,Bb (i+1) n),(d,di o v),(h 1,di [] 0),(no,li [] 0),(k,di D E)]) 7:=by
 kernel_rfl
theorem kH(w:Aa)(f k m A B o G no y p z tz H tp i n:Nat)(e s a b:Nat→Nat)(t u:Nat)(C D:List DictEntry)(E F J K L M N O P Q R S T U V l g r W:Nat):
  AD w 306 (CV k f) ([(f,Cl w.2 e m A B s a b t u o G no y p z tz H tp [] 14),(k,Bb i (n+1)),(o,di C E),(y,di D F),(no,li [] 0),(l,li [.int i g] 1)]) Oy (AB Kt ([λd c j=>Ft k i n,λd c j=>Ce a t i (tk c 0),λd c j=>FM o C E (.str (c1 (a i)) (tk c 5)) (.ref no) (.ref l),λd c j=>IK (tk d 0) y D F (.int ((i:Int)-1) (tk c 8)) (Bu (tk c 9)) (Bu (tk c 9)),λd c j=>GR (tk d 1) [] 0 (hashInt i) (.int i g) (.int (0+1:Nat) (tk c 11))])) (Bh [4,0,1,0,1,1] [λd c j=>(.bool (decide ((i:Int)<A)),.bool false),λd c j=>(.bool (decide ((i:Int)≥B)),.bool false),λd c j=>(.int ((0:Nat)+1) (tk c 11),.int (0+1:Nat) (tk c 11)),λd c j=>(.bool (decide (((0+1:Nat):Int)> z)),.bool true),λd c j=>(.int ((i:Int)-(0+1:Nat)+1) (tk c 15),.int (i-0:Nat) (tk c 15)),λd c j=>(.int ((i:Int)-(0+1:Nat)+1) (tk c 18),.int (i-0:Nat) (tk c 18))]) 0 620 4000 [0,1,2,7,4,5,3]
   (λv h I=>.again (CV k f)) (λv h I=>[(f,Cl w.2 e m A B s a b t u o G no (v 1) (i-0) (0+1) (h 11) (h 18) (h 15) (Fu w.2 (h 1) (h 3) (h 4) (h 6) (h 12) i (h 0) (v 0) (v 1) i g (0+1) (h 11)) 19),(k,Bb (i+1) n),(o,di C E),(v 1,di [⟨hashInt i,.int i g,.int (0+1:Nat) (h 11)⟩] 1),(no,li [] 0),(l,li [.int i g] 1),(y,di D F)]) 23:=by
 kernel_rfl
noncomputable abbrev Oz(a:Nat):=fi Ez [.int (↑ a) 0,.int 0 0,.int 1 0]
theorem kI(w:Aa)(f a i:Nat)(o:Obj):
  AD w 21 (CV a f) ([(f,o),(a,Bb i 0)]) [2,2,2,2,2,4] [] [] 1 620 4000 [0,1]
   (λb c d=>.done .next) (λb c d=>[(f,o),(a,Oz i)]) 0:=by
 kernel_rfl
theorem An.perm{kt:KT}{s:Ab}{L b:Ae}(S:An kt s L)(h:L.Perm b):An kt s b:=
 ⟨λp a=>S.mem p (h.mem_iff.mpr a),(h.map _).nodup_iff.mp S.nd,S.old,λp a=>S.apart p (h.mem_iff.mpr a)⟩
theorem Ag.permR{kt:KT}{s a:Ab}{L b L'':Ae}(x:Ag kt s a L b)(h:b.Perm L''):Ag kt s a L L'':=
 ⟨x.sat.perm h,x.keep,λp c=>x.new p (h.mem_iff.mpr c),x.size,x.gens,x.os,x.drawn,x.toks⟩
theorem Ag.permL{kt:KT}{s d:Ab}{L g a:Ae}(x:Ag kt s d L g)(h:L.Perm a):Ag kt s d a g:=
 ⟨x.sat,λb o e n=>x.keep b o e λp c=>n p (h.mem_iff.mp c),λp c=>(x.new p c).imp (by rintro⟨q,i,e⟩;exact⟨q,h.mem_iff.mp i,e⟩) id,x.size,x.gens,x.os,x.drawn,x.toks⟩
theorem FN{w:Aa}{A:Al}{c:Code}{L L1:Ae}(F:Ae){Φ j:Result→Ae→List Nat→Prop}(k:(L1++F).Perm L)(h:RunsW w A c L1 Φ)
  (m: ∀r g e,Φ r g e→ ∃i,(g++F).Perm i∧j r i e):RunsW w A c L j:=λs S=>by
 have l:=S.perm k.symm;refine B5 (h s l.left) λr n hz=> ?_;obtain⟨g,e,a,b,d⟩:=hz;obtain⟨i,q,z⟩:=m r g e a;exact⟨i,e,z,((b.frame l).permR q).permL k,d⟩
theorem JE{w:Aa}{a i n:Nat}(h:i+n<8):Av w (Ft a i n):=by
 refine Ba.ext λA b c d=> ?_;exact Bc (wW w a i n h) [0] d b c AR Ar λe g j=>⟨[],[],rfl,rfl,rfl,rfl,rfl⟩
theorem HG{w:Aa}{c:Nat→Nat}{u i a:Nat}(h:i<8):Av w (Ce c u i a):=by
 refine Ba.ext λA b d e=> ?_;exact Bc (wX w c u i a h) [0] e b d AR Ar λg j k=>⟨[],[],rfl,rfl,rfl,rfl,rfl⟩
theorem Mh(w:Aa)(k:Int)(t:Nat):(intKind pw w).is k (.int k t)=true:=by
 refine (?_:Value.isInt k (.int k t)=true);simp[Value.isInt]
theorem Uz{w:Aa}{g a n b e:Nat}{c:List DictEntry}{k d:Int}{v:Value}(j:KeysOf (intKind pw w) ⟨c⟩)(l:(findBy (intKind pw w).is ⟨c⟩ k).getD (.int d e)=v):
  Av w (IK g a c n (.int k b) (.int d e) v):=by
 refine Ol λA s m o t S R h=> ?_;have r:RunsW w A (.call (.ref g) ⟨[.int k b,.int d e],[]⟩) (Ov g a c n) λr i u=>r= .ok (.ret v)∧i=(Ov g a c n):=by
  refine Dz (wY w g a c n k d b e) [] t m o AR Ar λH I J=>Qo λs S R h=> ?_;have y:=S.mem (a,di c n) (by (first|((repeat(first|exact .head _|apply List.mem_cons_of_mem));done)|simp));have z:=JA (intKind pw w) y j;refine (?_:codeAny _ _ (.builtin Jy ⟨[.ref a,.int k b,.int d e],[]⟩) _ s);rw[show Jy="dict.get" from TY];have B:plainId "dict.get"=true:=F.slot_dict_get.plain;refine EK F.entry_dict_get ?_;rw[EG B];refine meets_dict_get_default (intKind pw w) (k:=k) a (Mh w k b) (Om S (p:=(a,di c n)) (by (first|((repeat(first|exact .head _|apply List.mem_cons_of_mem));done)|simp))) (.int d e) A _ s ⟨_,z,?_⟩;rw[l];exact h _ _ _ [] ⟨rfl,rfl⟩ S.tok (Jn _)
 refine B5 (r s S) λK C hz=> ?_;obtain⟨i,u,⟨D,E⟩,G,L⟩:=hz;subst D E;exact h C G
theorem Ku(w:Aa):KeysOf (intKind pw w) ⟨[]⟩:=λe a=>by simp at a
theorem UA(w:Aa)(k:Int)(t:Nat)(v:Value):KeysOf (intKind pw w) ⟨[⟨hashInt k,.int k t,v⟩]⟩:=λe a=>by
 have:e=⟨hashInt k,.int k t,v⟩:=by simpa using a
 subst this;exact⟨k,Mh w k t,rfl⟩
noncomputable def Ea(a b:Nat→Nat)(i:Nat)(s:Nat×Nat×Nat):Nat×Nat×Nat:=
 if a i=b i then(if s.2.2<s.1+1 then(s.1+1,i-s.1,s.1+1)else(s.1+1,s.2.1,s.2.2))else(0,s.2.1,s.2.2)
noncomputable def B9(a b:Nat→Nat):Nat→Nat→Nat×Nat×Nat→Nat×Nat×Nat
 |0,_,s=>s
 |n+1,i,s=>B9 a b n (i+1) (Ea a b i s)
inductive Fl
 |s0
 |s1 (y1 y2 y3 x0 x1 x2 x3:Nat)
 |s2 (z y1 y2 y3 y4 y5 x0 x1 x2 x3 x4 x5 x6 x7:Nat)
 |s3 (r z g tr y1 y2 y3 y4 y5 x0 x1 x2 x3 x4 x5 x6 x7:Nat)
noncomputable def Fl.r:Fl→Nat
 | .s3 r .. =>r+1
 |_=>0
noncomputable def Fl.z:Fl→Nat
 | .s2 z .. =>z+1
 | .s3 _ z .. =>z+1
 |_=>0
noncomputable def Fl.x(P:Aj):Fl→List DictEntry
 | .s0=>[]
 | .s1 a b c d e g h=>Ks P a b c d e g h
 | .s2 _ a b c i j d e g h k l m n=>Fu P a b c i j d e g h k l m n
 | .s3 _ _ _ _ a b c i j d e g h k l m n=>Fu P a b c i j d e g h k l m n
noncomputable def Fl.nx:Fl→Nat
 | .s0=>14
 | .s1 .. =>17
 |_=>19
noncomputable def Fl.ej(i:Nat):Fl→List DictEntry
 | .s3 r _ g a .. =>[⟨hashInt (i-1:Nat),.int (i-1:Nat) g,.int (r+1:Nat) a⟩]
 |_=>[]
noncomputable def Fl.nj:Fl→Nat
 | .s3 .. =>1
 |_=>0
noncomputable abbrev GY(a b c:Nat→Nat):=(BJ a b (λk=>.ref (c k)) 8)
noncomputable abbrev B3(P:Aj)(b g l:Nat→Nat):Obj:=di (Bg P (GY b g l)) 8
noncomputable def AZ(l a:Nat→Nat):Ae:=(List.range 8).map λk=>(l k,li [.int k (a k)] 1)
theorem kJ{a:Type}: ∀(l:List a) (i:Nat) (x:a),l[i]? =some x→(x::l.eraseIdx i).Perm l:=by
 intro l
 induction l with
 |nil=>intro i x h;cases i <;> cases h
 |cons y l b=>
  intro i x h;cases i with
  |zero=>cases h;exact AX _
  |succ i=>exact(List.Perm.swap y x _).trans ((b i x h).cons y)
theorem kK(l a:Nat→Nat){i:Nat}(b:i<8)(X:Ae):((X++[(l i,li [.int i (a i)] 1)])++(AZ l a).eraseIdx i).Perm (X++AZ l a):=by
 rw[Dt];refine List.Perm.append_left X ?_;exact kJ _ i _ (by simp[AZ,Li b])
theorem ER{w:Aa}{A:Al}{c:Code}{L Lt:Ae}{B:Result→Ae→List Nat→Prop}{H:List Nat}{E:List (Nat×(List Nat→List Nat→List Obj→Ak))}{W:List Wd}{j d u n N:Nat}{C:List Nat}{f:Aw→Aw→AU→Code}{D:Aw→Aw→AU→Ae}
  (k:AD w n c L H E W j d u C (λb a g=>.again (f b a g)) D N) (F:Ae) (G:(L++F).Perm Lt) (tk:List Nat) (P:A.handled=none) (Q:A.depth≤d) (R:A.units≤u) (X: ∀q∈E,∀l i m,Av w (q.2 l i m)) (Y: ∀q∈W,∀l i m,(q.2 l i m).1=(q.2 l i m).2)
  (fi: ∀b a g,∃v,(D b a g++F).Perm v∧RunsW w A (f b a g) v λr o i=>B r o (tk.map a++i)) (y:BS C=true:=by rfl) (I:Ge tk 0 N=true:=by rfl):RunsW w A c Lt B:=by
 intro s S;have J:=S.perm G.symm;refine NV GL (GM pw w w) (FK pw w) (hS w) (H:=H) (E:=E) (W:=W) (ag:=j) n P Q R (λq T l i m _ _=>(X q T l i m).frm) Y J.left λb a g=> ?_;have h:=Gf k b a g;have U:=Am Prod.fst h;have V:=Am (λx=>x.2.1) h;have Z:=Am (λx=>x.2.2.1) h;have h4:(walk w n b a g c L H E W j d u).ts=Dm a N:=Am (λx=>x.2.2.2) h;refine⟨U,λK st ri _=> ?_⟩;have M:=st.pick Z y;have O:AY s.toks K.toks (tk.map a):=ri.sub (by
  show(tk.map a).Sublist (walk w n b a g c L H E W j d u).ts;rw[h4,Kh];have:=(Ki I).map a;rwa[Ka,←Hl]at this)
 have e1:(Ek den rooms GN ⟨pw,w.2⟩ ⟨pw,(wR true w).params⟩ ⟨pw,(wR false w).params⟩ (kt w) n b a g ⟨den c,c,[],L,[],[],[],H,E,W,j,d,u,.free⟩).e= .again (f b a g):=V;rw[e1];obtain⟨v,q,z⟩:=fi b a g;have t:=(M.frame J).permR q;refine B5 (z K t.sat) ?_;rintro r aa ⟨o,i,x1,x2,x3⟩;exact⟨o,_,x1,(t.trans x2).permL G,O.app x3⟩
theorem FO(l a:Nat→Nat){i:Nat}(h:i<8)(b c d e g:Addr×Obj):(([b,c,d,e,g,(l i,li [.int i (a i)] 1)]:Ae)++(AZ l a).eraseIdx i).Perm (([b,c,d,e,g]:Ae)++AZ l a):=kK l a h [b,c,d,e,g]
inductive kL (P:Aj) (f it m lo hi j2 jb no t u:Nat) (e s a b g l g':Nat→Nat) (R:Nat×Nat×Nat) (r':Result) (L':Ae) (ts:List Nat):Prop
 |mk (h:r'= .ok .next) (o1 oj:Obj) (jl tz tq tp nx:Nat) (x:List DictEntry) (hL:L'=[(f,Cl P e m lo hi s a b t u j2 jb no jl R.2.1 R.2.2 tz tq tp x nx),(it,o1),(j2,B3 P b g l),(jl,oj),(no,li [] 0)]++AZ l g')
theorem Qs{a b:Nat→Nat}{n i r p z:Nat}{R:Nat×Nat×Nat}(c:a i=b i)(h:B9 a b (n+1) i (r,p,z)=R)(hz:z<r+1):B9 a b n (i+1) (r+1,i-r,r+1)=R:=by
 have e:Ea a b i (r,p,z)=(r+1,i-r,r+1):=(AS c).trans (AS hz);exact(Am (B9 a b n (i+1)) e).symm.trans h
theorem UB{a b:Nat→Nat}{n i r p z:Nat}{R:Nat×Nat×Nat}(c:a i=b i)(h:B9 a b (n+1) i (r,p,z)=R)(hz: ¬z<r+1):B9 a b n (i+1) (r+1,p,z)=R:=by
 have e:Ea a b i (r,p,z)=(r+1,p,z):=(AS c).trans (AI hz);exact(Am (B9 a b n (i+1)) e).symm.trans h
theorem kN{a b:Nat→Nat}{n i r p z:Nat}{R:Nat×Nat×Nat}(c: ¬a i=b i)(h:B9 a b (n+1) i (r,p,z)=R):B9 a b n (i+1) (0,p,z)=R:=
 (Am (B9 a b n (i+1)) (show Ea a b i (r,p,z)=(0,p,z)from AI c)).symm.trans h
noncomputable abbrev kO(P:Aj)(a b g l h:Nat→Nat)(j i n t k no m o R:Nat)(r:List DictEntry)(v:List Nat→Value):List (List Nat→List Nat→List Obj→Ak):=
 [λd c e=>Ft j i n,λd c e=>Ce a t i (tk c 0),λd c e=>FM k (Bg P (GY b g l)) 8 (.str (c1 (a i)) (tk c 5)) (.ref no) (.ref (l i)),λd c e=>IK (tk d 0) m r o (.int ((i:Int)-1) (tk c 8)) (Bu (tk c 9)) (v c),λd c e=>GR (tk d 1) [] 0 (hashInt i) (.int i (h i)) (.int (R+1:Nat) (tk c 11))]
theorem Mi{w:Aa}{a b g l h:Nat→Nat}{j i n t k no m o R:Nat}{d:List DictEntry}{v:List Nat→Value}(r:Lt a)(s:Lt b)(u:i+n<8)(e:a i=b i)(y:KeysOf (intKind pw w) ⟨d⟩)(z: ∀c:List Nat,(findBy (intKind pw w).is ⟨d⟩ ((i:Int)-1)).getD (Bu (tk c 9))=v c):DF w (kO w.2 a b g l h j i n t k no m o R d v):=by
 have A:findBy (strKind pw w).is ⟨Bg w.2 (GY b g l)⟩ (c1 (a i))=some (.ref (l i)):=by
  rw[GV];exact Qn s r (by (first|lia|omega)) (by (first|lia|omega)) e.symm
 exact Ah (λ_ _ _=>JE u) (Ah (λ_ _ _=>HG (by (first|lia|omega))) (Ah (λ_ _ _=>Kp (strKind pw w) (GW w _ _) (GU w _) (by rw[A];rfl)) (Ah (λ_ c _=>Uz y (z c)) (Ah (λ_ _ _=>Oo (intKind pw w) (Mh w _ _) rfl (Ku w) rfl (by (first|((repeat(first|exact .head _|apply List.mem_cons_of_mem));done)|simp))) Ay))))
noncomputable abbrev UC(i d e R z:Nat)(q:Bool):List (List Nat→List Nat→List Obj→Value×Value):=[λb a c=>(.bool (decide ((i:Int)<d)),.bool false),λb a c=>(.bool (decide ((i:Int)≥e)),.bool false),λb a c=>(.int ((R:Nat)+1) (tk a 11),.int (R+1:Nat) (tk a 11)),λb a c=>(.bool (decide (((R+1:Nat):Int)> z)),.bool q)]
theorem UD{i a b R z:Nat}{q:Bool}(d:a≤i)(e:i<b)(c:decide (((R+1:Nat):Int)> z)=q):E8 (UC i a b R z q):=
 AA (λ_ _ _=>Am Value.bool (BH (by (first|lia|omega)))) (AA (λ_ _ _=>Am Value.bool (BH (by (first|lia|omega)))) (AA (λ_ _ _=>rfl) (AA (λ_ _ _=>Am Value.bool c) Bp)))
theorem Qt{i b c R z:Nat}(h:b≤i)(j:i<c)(hz:z<R+1)(k:R≤i):E8 (UC i b c R z true++[λd a g=>(.int ((i:Int)-(R+1:Nat)+1) (tk a 15),.int (i-R:Nat) (tk a 15)),λd a g=>(.int ((i:Int)-(R+1:Nat)+1) (tk a 18),.int (i-R:Nat) (tk a 18))]):=by
 have e:(i:Int)-(R+1:Nat)+1=(i-R:Nat):=by (first|lia|omega)
 exact AA (λ_ _ _=>Am Value.bool (BH (by (first|lia|omega)))) (AA (λ_ _ _=>Am Value.bool (BH (by (first|lia|omega)))) (AA (λ_ _ _=>rfl) (AA (λ_ _ _=>Am Value.bool (CD (by (first|lia|omega)))) (AA (λ_ a _=>Am (λx=>Value.int x (tk a 15)) e) (AA (λ_ a _=>Am (λx=>Value.int x (tk a 18)) e) Bp)))))
theorem Kv{w:Aa}{A:Al}{c:Code}{L a:Ae}{b:Result→Ae→List Nat→Prop}(d:L.Perm a)(h:RunsW w A c a b):RunsW w A c L b:=λs S=>
 B5 (h s (S.perm d)) λr l z=>by
  obtain⟨e,g,i,j,k⟩:=z;exact⟨e,g,i,j.permL d.symm,k⟩
theorem GZ{w:Aa}{A:Al}{c:Code}{L Lt:Ae}{l:Result→Ae→List Nat→Prop}{H:List Nat}{E:List (Nat×(List Nat→List Nat→List Obj→Ak))}{W:List Wd}{r d u n N:Nat}{m:List Nat}{f:Aw→Aw→AU→Code}{o:Aw→Aw→AU→Ae}
  (k:AD w n c L H E W r d u m (λa b e=>.again (f a b e)) o N) (F:Ae) (s:(L++F).Perm Lt) (t:A.handled=none) (v:A.depth≤d) (y:A.units≤u) (X: ∀q∈E,∀g h i,Av w (q.2 g h i)) (Y: ∀q∈W,∀g h i,(q.2 g h i).1=(q.2 g h i).2)
  (fi: ∀a b e,RunsW w A (f a b e) (o a b e++F) l) (j:BS m=true:=by rfl):RunsW w A c Lt l:=
 ER k F s [] t v y X Y (λa b e=>⟨_,.refl _,fi a b e⟩) j rfl
theorem kP{w:Aa}{A:Al}(P:A.handled=none)(Q:A.depth≤620)(S:A.units≤4000){f B m D hi y F no t u:Nat}{e s a b g l c:Nat→Nat}(ha:Lt a)(hb:Lt b)(h8:hi≤8){R:Nat×Nat×Nat}:
  ∀(n i:Nat),i+n=hi→D≤i→ ∀(d:Fl) (p v tz C tp:Nat),B9 a b n i (d.r,p,d.z)=R→d.r≤i→
   RunsW w A (CV B f) ([(f,Cl w.2 e m D hi s a b t u y F no v p d.z tz C tp (d.x w.2) d.nx),(B,Bb i n),(y,B3 w.2 b g l),(v,di (d.ej i) d.nj),(no,li [] 0)]++AZ l c)
    (kL w.2 f B m D hi y F no t u e s a b g l c R):=by
 intro n
 induction n with
 |zero=>
  intro i aa T d p v tz C tp G H;subst G;exact FN ([(y,B3 w.2 b g l),(v,di (d.ej i) d.nj),(no,li [] 0)]++AZ l c) (L1:=[(f,Cl w.2 e m D hi s a b t u y F no v p d.z tz C tp (d.x w.2) d.nx),(B,Bb i 0)]) (AX _)
   (Bc (kI w f B i _) [] P Q S AR Ar (Φ:=λr L' U=>r= .ok .next∧L'=[(f,Cl w.2 e m D hi s a b t u y F no v p d.z tz C tp (d.x w.2) d.nx),(B,fi Ez [.int i 0,.int 0 0,.int 1 0])]) λV W Y=>⟨rfl,rfl⟩) λr' L0 U h=>⟨_,AX _,h.1,fi Ez [.int i 0,.int 0 0,.int 1 0],di (d.ej i) d.nj,v,tz,C,tp,d.nx,d.x w.2,Am (· ++([(y,B3 w.2 b g l),(v,di (d.ej i) d.nj),(no,li [] 0)]++AZ l c)) h.2⟩
 |succ n ih=>
  intro i aa T d p v tz C tp G H;have i8:i+n<8:=by (first|lia|omega)
  have j:i<8:=by (first|lia|omega)
  have E:=ih (i+1) (by (first|lia|omega)) (by (first|lia|omega));have Z:i<hi:=by (first|lia|omega)
  clear ih aa
  by_cases o:a i=b i
  ·cases d with
   |s0=>exact GZ (kA w f B m D _ y F no v p 0 tz C tp i n e s a b t u _ [] 8 0 0 0 0 0 0 0 0 0 0 0 0 0 0 (l i) (c i) 0 0) ((AZ l c).eraseIdx i) (FO l c j _ _ _ _ _) P Q S (Az _ _ (Mi ha hb i8 o (Ku w) λ_=>rfl)) (Bi _ _ (Qt T Z (GH _) H)) λV W Y=>Kv (FO l c j _ _ _ _ _) (E (.s3 0 0 ..) _ _ _ _ _ (Qs o G (GH _)) (Ev H))
   |s1 I J K L M N O=>exact GZ (kC w f B m D _ y F no v p 0 tz C tp i n e s a b t u _ [] 8 0 L M N O 0 0 0 0 I J K 0 0 (l i) (c i) 0 0) ((AZ l c).eraseIdx i) (FO l c j _ _ _ _ _) P Q S (Az _ _ (Mi ha hb i8 o (Ku w) λ_=>rfl)) (Bi _ _ (Qt T Z (GH _) H)) λV W Y=>Kv (FO l c j _ _ _ _ _) (E (.s3 0 0 ..) _ _ _ _ _ (Qs o G (GH _)) (Ev H))
   |s2 z I J K y4 y5 L M N O x4 x5 x6 x7=>exact GZ (kF w f B m D _ y F no v p (z+1) tz C tp i n e s a b t u _ [] 8 0 L M N O x4 x5 x6 x7 I J K y4 y5 (l i) (c i) 0 0) ((AZ l c).eraseIdx i) (FO l c j _ _ _ _ _) P Q S (Az _ _ (Mi ha hb i8 o (Ku w) λ_=>rfl)) (Bi _ _ (UD (R:=0) T Z (BH (by (first|lia|omega))))) λV W Y=>Kv (FO l c j _ _ _ _ _) (E (.s3 0 z ..) _ _ _ _ _ (UB o G (show¬z+1<0+1 by (first|lia|omega))) (Ev H))
   |s3 r z gg tr I J K y4 y5 L M N O x4 x5 x6 x7=>
    have H:r+1≤i:=H;have hv: ∀U:List Nat,(findBy (intKind pw w).is ⟨[⟨hashInt (i-1:Nat),.int (i-1:Nat) gg,.int (r+1:Nat) tr⟩]⟩ ((i:Int)-1)).getD (Bu (tk U 9))= .int (r+1:Nat) tr:=λU=>by
     have e:(i:Int)-1=(i-1:Nat):=by (first|lia|omega)
     rw[e];have:(intKind pw w).is ((i-1:Nat):Int) (.int (i-1:Nat) gg)=true:=Mh w _ _;simp[findBy,←Array.find?_toList,this]
    by_cases hz:z+1<r+1+1
    ·exact GZ (kD w f B m D _ y F no v p (z+1) tz C tp i n e s a b t u _ _ 8 1 L M N O x4 x5 x6 x7 I J K y4 y5 (l i) (c i) (r+1) tr) ((AZ l c).eraseIdx i) (FO l c j _ _ _ _ _) P Q S (Az _ _ (Mi ha hb i8 o (UA w _ _ _) hv)) (Bi _ _ (Qt T Z hz H)) λV W Y=>Kv (FO l c j _ _ _ _ _) (E (.s3 (r+1) (r+1) ..) _ _ _ _ _ (Qs o G hz) (Ev H))
    ·exact GZ (kE w f B m D _ y F no v p (z+1) tz C tp i n e s a b t u _ _ 8 1 L M N O x4 x5 x6 x7 I J K y4 y5 (l i) (c i) (r+1) tr) ((AZ l c).eraseIdx i) (FO l c j _ _ _ _ _) P Q S (Az _ _ (Mi ha hb i8 o (UA w _ _ _) hv)) (Bi _ _ (UD T Z (BH (by (first|lia|omega))))) λV W Y=>Kv (FO l c j _ _ _ _ _) (E (.s3 (r+1) z ..) _ _ _ _ _ (UB o G hz) (Ev H))
  ·have nf:findBy (strKind pw w).is ⟨Bg w.2 (GY b g l)⟩ (c1 (a i))=none:=by
    rw[GV];exact Kq hb ha (by (first|lia|omega)) j λk hk q=>o (by
     have:=hb.inj ha (by (first|lia|omega)) j q;rw[this]at q;exact q.symm)
   have X:DF w [λas U gh=>Ft B i n,λas U gh=>Ce a t i (tk U 0),λas U gh=>FM y (Bg w.2 (GY b g l)) 8 (.str (c1 (a i)) (tk U 5)) (.ref no) (.ref no)]:=
    Ah (λ_ _ _=>JE i8) (Ah (λ_ _ _=>HG j) (Ah (λ_ _ _=>Kp (strKind pw w) (GW w _ _) (GU w _) (by rw[nf];rfl)) Ay))
   have G:=kN o G;clear H o;cases d with
   |s0=>exact GZ (wZ w f B m D _ y F no v p 0 tz C tp i n e s a b t u _ [] 8 0 0 0 0 0 0 0 0 0 0 0 0 0 0 0 0 0 0) (AZ l c) (AX _) P Q S (Az _ _ X) Ar λV W Y=>E (.s1 ..) _ _ _ _ _ G (B8 _)
   |s1 I J K L M N O=>exact GZ (kB w f B m D _ y F no v p 0 tz C tp i n e s a b t u _ [] 8 0 L M N O 0 0 0 0 I J K 0 0 0 0 0 0) (AZ l c) (AX _) P Q S (Az _ _ X) Ar λV W Y=>E (.s1 ..) _ _ _ _ _ G (B8 _)
   |s2 z I J K y4 y5 L M N O x4 x5 x6 x7=>exact GZ (Ux w f B m D _ y F no v p (z+1) tz C tp i n e s a b t u _ [] 8 0 L M N O x4 x5 x6 x7 I J K y4 y5 0 0 0 0) (AZ l c) (AX _) P Q S (Az _ _ X) Ar λV W Y=>E (.s2 z ..) _ _ _ _ _ G (B8 _)
   |s3 r z gg tr I J K y4 y5 L M N O x4 x5 x6 x7=>exact GZ (Ux w f B m D _ y F no v p (z+1) tz C tp i n e s a b t u _ _ 8 1 L M N O x4 x5 x6 x7 I J K y4 y5 0 0 0 0) (AZ l c) (AX _) P Q S (Az _ _ X) Ar λV W Y=>E (.s2 z ..) _ _ _ _ _ G (B8 _)
theorem kQ(l b:Nat→Nat){a:Nat}(j:a<8)(d e g h i c:Addr×Obj):(([d,e,g,h,i,(l a,li [.int a (b a)] 1),c]:Ae)++(AZ l b).eraseIdx a).Perm (([d,e,g,h,i]++AZ l b)++[c]):=by
 have k:(([d,e,g,h,i,(l a,li [.int a (b a)] 1),c]:Ae)++(AZ l b).eraseIdx a).Perm (([d,e,g,h,i,(l a,li [.int a (b a)] 1)]++(AZ l b).eraseIdx a)++[c]):=by
  show(d::e::g::h::i::(l a,li [.int a (b a)] 1)::(c::(AZ l b).eraseIdx a)).Perm (d::e::g::h::i::(l a,li [.int a (b a)] 1)::((AZ l b).eraseIdx a++[c]));refine List.Perm.cons _ (List.Perm.cons _ (List.Perm.cons _ (List.Perm.cons _ (List.Perm.cons _ (List.Perm.cons _ ?_)))));exact EF (l₁:=[c])
 exact k.trans ((FO l b j d e g h i).append_right [c])
theorem kR(l b:Nat→Nat)(c d e g h a:Addr×Obj):(([c,d,e,g,h,a]:Ae)++AZ l b).Perm (([c,d,e,g,h]++AZ l b)++[a]):=by
 show(c::d::e::g::h::(a::AZ l b)).Perm (c::d::e::g::h::(AZ l b++[a]));refine List.Perm.cons _ (List.Perm.cons _ (List.Perm.cons _ (List.Perm.cons _ (List.Perm.cons _ ?_))));exact EF (l₁:=[a])
inductive UE (P:Aj) (f it m lo hi j2 jb no t u jl:Nat) (e s a b g l g':Nat→Nat) (R:Nat×Nat×Nat) (r':Result) (L':Ae) (ts:List Nat):Prop
 |mk (h:r'= .ok .next) (o1 oj:Obj) (jl' tz tq tp nx:Nat) (x:List DictEntry) (hL:L'=[(f,Cl P e m lo hi s a b t u j2 jb no jl' R.2.1 R.2.2 tz tq tp x nx),(it,o1),(j2,B3 P b g l),(jl,di [] 0),(no,li [] 0)]++AZ l g'++[(jl',oj)])
theorem kS{w:Aa}{A:Al}(I:A.handled=none)(J:A.depth≤620)(K:A.units≤4000){f r m c v y D no t u i tz o tp n:Nat}{e s a b g l h:Nat→Nat}(G:Lt a)(H:Lt b)(M:v≤8)(Y:c+(n+1)=v):
   RunsW w A (CV r f) ([(f,Cl w.2 e m c v s a b t u y D no i c 0 tz o tp [] 14),(r,Bb c (n+1)),(y,B3 w.2 b g l),(i,di [] 0),(no,li [] 0)]++AZ l h)
    (UE w.2 f r m c v y D no t u i e s a b g l h (B9 a b (n+1) c (0,c,0))):=by
 have z:c<8:=by (first|lia|omega)
 have fin: ∀(d:Fl) (p B tz o tp:Nat),d.r≤c+1→
   RunsW w A (CV r f) (([(f,Cl w.2 e m c v s a b t u y D no B p d.z tz o tp (d.x w.2) d.nx),(r,Bb (c+1) n),(y,B3 w.2 b g l),(B,di (d.ej (c+1)) d.nj),(no,li [] 0)]++AZ l h)++[(i,di [] 0)])
    (UE w.2 f r m c v y D no t u i e s a b g l h (B9 a b n (c+1) (d.r,p,d.z))):=λd p B tz o tp N=>
  FN [(i,di [] 0)] (AX _) (kP I J K G H M n (c+1) (by (first|lia|omega)) (by (first|lia|omega)) d p B tz o tp rfl N) λZ L0 F O=>by
   obtain⟨P,o1,E,j,tz,o,tp,Q,x,R⟩:=O;refine⟨_,?_,P,o1,E,j,tz,o,tp,Q,x,rfl⟩;rw[R];refine List.Perm.cons _ (List.Perm.cons _ (List.Perm.cons _ ?_));show(((j,E)::(no,li [] 0)::AZ l h)++[(i,di [] 0)]).Perm ((i,di [] 0)::(no,li [] 0)::(AZ l h++[(j,E)]));have S:(((j,E)::(no,li [] 0)::AZ l h)++[(i,di [] 0)]).Perm ((i,di [] 0)::(j,E)::(no,li [] 0)::AZ l h):=EF;refine S.trans (List.Perm.cons _ ?_);exact(List.Perm.swap _ _ _).trans (List.Perm.cons _ (EF (l₁:=[(j,E)])))
 by_cases C:a c=b c
 ·have L:B9 a b (n+1) c (0,c,0)=B9 a b n (c+1) (1,c-0,1):=by
   refine (?_:B9 a b n (c+1) (Ea a b c (0,c,0))=_);unfold Ea;rw[AS C,AS (by (first|((repeat(first|exact .head _|apply List.mem_cons_of_mem));done)|simp))]
  rw[L];have T:findBy (strKind pw w).is ⟨Bg w.2 (GY b g l)⟩ (c1 (a c))=some (.ref (l c)):=by
   rw[GV];exact Qn H G (by (first|lia|omega)) z C.symm
  refine ER (kH w f r m c v y D no i c 0 tz o tp c n e s a b t u _ [] 8 0 0 0 0 0 0 0 0 0 0 0 0 0 0 (l c) (h c) 0 0) ((AZ l h).eraseIdx c) (FO l h z _ _ _ _ _) [] I J K
   (Az _ _ (Ah (λ_ _ _=>JE (by (first|lia|omega))) (Ah (λ_ _ _=>HG z) (Ah (λ_ _ _=>Kp (strKind pw w) (GW w _ _) (GU w _) (by rw[T];rfl)) (Ah (λ_ F _=>Uz (Ku w) rfl) (Ah (λ_ _ _=>Oo (intKind pw w) (Mh w _ _) rfl (Ku w) rfl (by (first|((repeat(first|exact .head _|apply List.mem_cons_of_mem));done)|simp))) Ay))))))
   (Bi _ _ ?_) λU V W=>⟨_,kQ l h z _ _ _ _ _ _,fin (.s3 0 0 ..) (c-0) _ _ _ _ (Ev (B8 _))⟩
  have e:(c:Int)-(0+1:Nat)+1=(c-0:Nat):=by (first|lia|omega)
  exact AA (λ_ _ _=>Am Value.bool (BH (by (first|lia|omega)))) (AA (λ_ _ _=>Am Value.bool (BH (by (first|lia|omega)))) (AA (λ_ _ _=>rfl) (AA (λ_ _ _=>Am Value.bool (CD (by (first|lia|omega)))) (AA (λ_ F _=>Am (λx=>Value.int x (tk F 15)) e) (AA (λ_ F _=>Am (λx=>Value.int x (tk F 18)) e) Bp)))))
 ·have L:B9 a b (n+1) c (0,c,0)=B9 a b n (c+1) (0,c,0):=by
   refine (?_:B9 a b n (c+1) (Ea a b c (0,c,0))=_);unfold Ea;rw[AI C]
  rw[L];have X:findBy (strKind pw w).is ⟨Bg w.2 (GY b g l)⟩ (c1 (a c))=none:=by
   rw[GV];exact Kq H G (by (first|lia|omega)) z λk hk q=>C (by
    have:=H.inj G (by (first|lia|omega)) z q;rw[this]at q;exact q.symm)
  exact ER (kG w f r m c v y D no i c 0 tz o tp c n e s a b t u _ [] 8 0 0 0 0 0 0 0 0 0 0 0 0 0 0 0 0 0 0) (AZ l h) (AX _) [] I J K
   (Az _ _ (Ah (λ_ _ _=>JE (by (first|lia|omega))) (Ah (λ_ _ _=>HG z) (Ah (λ_ _ _=>Kp (strKind pw w) (GW w _ _) (GU w _) (by rw[X];rfl)) Ay)))) Ar
   λU V W=>⟨_,kR l h _ _ _ _ _ _,fin (.s1 ..) c _ _ _ _ (B8 _)⟩
theorem kT:P0= .type "tuple":=by
 refine (?_:Value.type s2766695959194262286x5=_);rw[←e2766695959194262286x5]
theorem JF(a:List Value)(n:Nat):tu a n={cls:=.type "tuple",dict:=none,data:=.seq ⟨a⟩ n,slots:= #[]}:=by
 refine (?_:Obj.mk P0 none _ _=_);rw[kT]
noncomputable def IL(c:String)(x:Nat)(v:Value)(b:List Value)(n:Nat):Ak:=
 {d:=900,u:=9000,h:=none,c:=.builtin c ⟨[.ref x],[]⟩,idx:=[],pre:=[(x,tu (v::b) n)],na:=1,nt:=0,r:=λa _=>.ok (.ret (.ref (a.getD 0 0))),outs:=λ_ _ _=>[tu (v::b) n],news:=λ_ _ _=>[li (v::b) 1]}
theorem UF{w:Aa}{c:String}{x n:Nat}{v:Value}{a:List Value}(g:c="proto.collect")(h:a.length≤1000):Av w (IL c x v a n):=by
 refine GT λA s u y z S R j=> ?_;have k:=S.mem (x,tu (v::a) n) (by simp[IL]);refine (?_:codeAny _ _ (.builtin c ⟨[.ref x],[]⟩) _ s);rw[g];refine EK F.entry_proto_collect ?_;rw[EG F.plain_proto_collect _];refine (?_:wpAny _ A.in1 (newList []>>=λl=>again (.builtin "list.__iadd__" ⟨[l,.ref x],[]⟩)) _ _ s);have d:=S.push (o:=li [] 0) rfl;have b:=d.sat.set (i:=1) (p:=(s.heap.objs.size,li [] 0)) rfl (f:=Obj.mapSeq (· ++(⟨v::a⟩:Array Value))) rfl;have m:Obj.mapSeq (· ++(⟨v::a⟩:Array Value)) (li [] 0)=li (v::a) 1:=by
  simp[Obj.mapSeq]
 dsimp only at b;rw[m]at b;have r:=d.trans b;have t:li [] 0={cls:=.type "list",data:=.seq ([]:List Value).toArray}:=BX [] 0;refine Af (wpAny_newObj_type ?_);refine Ap ⟨plainId_quiet F.plain_list_iadd _,EK F.entry_list_iadd ?_⟩;rw[EG F.plain_list_iadd _];refine (?_:wpAny _ A.in1 (Builtin.List.listExtendWith (.ref s.heap.objs.size) (.ref x) (.ref s.heap.objs.size)) _ _ _);have hS:(s.heap.push {cls:=.type "list",data:=.seq ([]:List Value).toArray}).get? s.heap.objs.size=some {cls:=.type "list",data:=.seq #[] 0}:=Heap.get?_push_size _ rfl;have e:=k;rw[JF]at e;refine wpAny_extend_seq (hsz:=by show(v::a).length≤_;exact AC (Ev h) (by decide)) (A:=A) (R:=R)
  (s:={s with heap:=s.heap.push {cls:=.type "list",data:=.seq ([]:List Value).toArray}}) _ x _ 0 (.inr rfl) hS (Heap.get?_push_of_some _ e) rfl rfl ?_
 rw[←t];exact j _ [s.heap.objs.size] [] [] rfl rfl rfl r (A8 _)
noncomputable abbrev JG:String:=s14938210572253517480x13
theorem UG:JG="proto.collect":=e14938210572253517480x13.symm
noncomputable abbrev UH:String:=s3845080603208081625x14
noncomputable def Mj(b e s0 s1:Nat):Ak:=
 {d:=900,u:=9000,h:=none,c:=.call NY ⟨[.int b s0,.int e s1],[]⟩,idx:=[],pre:=[],na:=1,nt:=1,r:=λa _=>.ok (.ret (.ref (a.getD 0 0))),outs:=λ_ _ _=>[],news:=λ_ t _=>[fi NY [.int b s0,.int e s1,.int 1 (t.getD 0 0)]]}
noncomputable abbrev Mk(a b c d e:Nat):=fi NY [.int a b,.int c d,.int 1 e]
noncomputable def Ml(x b e s0 s1 s2:Nat):Ak:=
 {d:=900,u:=9000,h:=none,c:=.call (.builtin UH) ⟨[.ref x],[]⟩,idx:=[],pre:=[(x,Mk b s0 e s1 s2)],na:=1,nt:=0,r:=λa _=>.ok (.ret (.ref (a.getD 0 0))),outs:=λ_ _ _=>[Mk b s0 e s1 s2],news:=λ_ t _=>[Bb b (e-b)]}
noncomputable def kU(o:Obj):List DictEntry:=match o.data with
 | .dict a _=>a.toList
 |_=>[]
noncomputable def Kw(P:Aj)(f n m i j k v no w t u tz A tp p z:Nat)(e s a b g l y:Nat→Nat):Ak:=
 {d:=620,u:=4000,h:=none,c:=BU Uw n (Uv f),idx:=[],pre:=[(f,Cl P e m i j s a b t u k v no w i 0 tz A tp [] 14),(n,Bb i (j-i)),(k,B3 P b g l),(w,di [] 0),(no,li [] 0)]++AZ l y,na:=1,nt:=0,no:=7,r:=λ_ _=>.ok .next,
  outs:=λx _ o=>[Cl P e m i j s a b t u k v no (x.getD 0 0) p z (Ao o 2) (Ao o 3) (Ao o 4) (kU (o.getD 5 default)) (Ao o 6),o.getD 0 default,B3 P b g l,di [] 0,li [] 0]++(AZ l y).map (·.2),news:=λ_ _ o=>[o.getD 1 default]}
noncomputable abbrev ES(d p z tp a tz:Nat):Obj:=⟨.ref 163,some d,.seq ⟨[.int p tp,.int p a,.int z tz]⟩ 0,⟨[]⟩⟩
theorem kW(w:Aa)(b a s0 s1:Nat)(h:b<a)(e:a≤8):
  AD w 19 (.call NY ⟨[.int b s0,.int a s1],[]⟩) ([]) [1,1,1,1] [] [] 2 900 9000 [0]
   (λc d g=>.done (.ret (.ref (c 0)))) (λc d g=>[(c 0,Mk b s0 a s1 (d 0))]) 1:=by
 have i:a<9:=by (first|lia|omega)
 clear e;revert b;revert a;exact Ty 9 (by kernel_rfl)
theorem kY(w:Aa)(x b a s0 s1 s2:Nat)(h:b<a)(d:a≤8):
  AD w 12 (.call (.builtin UH) ⟨[.ref x],[]⟩) ([(x,Mk b s0 a s1 s2)]) [1,1,1,1] [] [] 2 900 9000 [0,1]
   (λc e g=>.done (.ret (.ref (c 0)))) (λc e g=>[(x,Mk b s0 a s1 s2),(c 0,Bb b (a-b))]) 0:=by
 have i:a<9:=by (first|lia|omega)
 clear d;revert b;revert a;exact Ty 9 (by kernel_rfl)
noncomputable abbrev OA(a:List Nat):=[tk a 0,tk a 1,tk a 2,tk a 3,tk a 4,tk a 11,tk a 12,tk a 13,tk a 14,tk a 16,tk a 17,tk a 18,tk a 19,tk a 20]
theorem kZ(w:Aa)(m d n r A j k p z:Nat)(q s a b g l y:Nat→Nat)(B:Value)(t u:Nat):
  AD w 544 (.call (.ref 224) ⟨[.ref m,.int j (s 0),.int k (s 1),.int j (s 2),.int k (s 3)],[]⟩) ([(m,mO d),(d,AT w.2 q (AH a t) (AH b u) .none B n r A),(r,CH w.2),(n,B3 w.2 b g l)]++AZ l y) (rl 528 0xdc47f739cbd50494393cec14df72f8cd18ed6f27b0038e7a0957489fd055230dcdfa7099004c6242998c7097c7365da48d8d1fce6aaa13271a7dc96fb2c303cd19a929adae2ccf0a9f224e521ccb4383f7cfe084ed4c320c640e748e9e8b060b12b85007a94d3fa3b51d14f0eae1e1ded5f7a095b3553b357827cfabe42b00ac06bad68b818c0dee1b59ecc562ee6a59817315) (AB [(18,[]),(0,[24]),(0,[12,25,3,22,23,4,5,6,7,8,9,10,11]),(16,[28])] ([λc e h=>Mj j k (s 0) (s 1),λc e h=>Ml (tk c 12) j k (s 0) (s 1) (tk e 21),λc e h=>Kw w.2 (tk c 0) (tk c 13) m j k n (tk c 1) (tk c 11) (tk c 10) t u (tk e 15) (s 2) (s 0) p z (λi=>(OA e).getD i 0) s a b g l y,λc e h=>IL JG (tk c 16) (.int p (Ao h 4)) [.int p (Ao h 3),.int z (Ao h 2)] 0])) (Bh [16,1,0,1] [λc e h=>(.bool (decide ((p:Int)> j)),.bool false),λc e h=>(.bool (decide ((p:Int)+z<k)),.bool false),λc e h=>(.bool (decide ((p:Int)> j)),.bool false),λc e h=>(.bool (decide ((p:Int)+z<k)),.bool false)]) 1 600 3800 (zr 12 [31,30])
   (λo C v=>.done (.ret (.ref (o 19)))) (λo C v=>[(m,mO d),(d,AT w.2 q (AH a t) (AH b u) .none B n r A),(r,CH w.2),(n,B3 w.2 b g l)]++AZ l y++[(o 19,ES (o 18) p z (BQ (v 4)) (BQ (v 3)) (BQ (v 2))),(o 18,di [] 0)]) 31:=by
 kernel_rfl
theorem jA(w:Aa)(m d n r A k j p z:Nat)(q s a b g l y:Nat→Nat)(B:Value)(t u:Nat):
  AD w 677 (.call (.ref 224) ⟨[.ref m,.int k (s 0),.int j (s 1),.int k (s 2),.int j (s 3)],[]⟩) ([(m,mO d),(d,AT w.2 q (AH a t) (AH b u) .none B n r A),(r,CH w.2),(n,B3 w.2 b g l)]++AZ l y) (rl 528 0x5fd29f1645ca78147b6fd4281454b86efe686d2907d3f2c19a149e8d55d82815b3c730b3ea12819e86f3efeb9f78e31785ef75d79d8b9b0b3658fbf88af307e3fa099cfd7105e4f3a187d6f2d3a6f27d109efcf149000e33c69bb4b456db6a35a8e765c0f3b7a3470703cf8e30923295d80c2afd18ce511dc7280b854d3c466256f924c04dfd5011d740e8ebb4f37ae449b5a2ab454ab5c07969c0dee1b59ecc562ee6a59817315) (AB [(18,[]),(0,[24]),(0,[12,25,3,22,23,4,5,6,7,8,9,10,11]),(8,[]),(3,[]),(1,[]),(9,[]),(8,[28])] ([λe c h=>Mj k j (s 0) (s 1),λe c h=>Ml (tk e 12) k j (s 0) (s 1) (tk c 21),λe c h=>Kw w.2 (tk e 0) (tk e 13) m k j n (tk e 1) (tk e 11) (tk e 10) t u (tk c 15) (s 2) (s 0) p z (λi=>(OA c).getD i 0) s a b g l y,λe c h=>Ce b u (p+z) (tk c 24),λe c h=>Ce a t (p+z) (tk c 27),λe c h=>Ce b u (p+z) (tk c 29),λe c h=>Ce b u (p+z) (tk c 33),λe c h=>IL JG (tk e 16) (.int p (Ao h 4)) [.int p (Ao h 3),.int z (Ao h 2)] 0])) (Bh [16,1,1,0,2,0,0,0,1,1,0] [λe c h=>(.bool (decide ((p:Int)> k)),.bool false),λe c h=>(.bool (decide ((p:Int)+z<j)),.bool true),λe c h=>(.bool (decide ((p:Int)+z<j)),.bool true),λe c h=>(.int ((p:Int)+z) (tk c 24),.int (p+z:Nat) (tk c 24)),λe c h=>(.int ((p:Int)+z) (tk c 27),.int (p+z:Nat) (tk c 27)),λe c h=>(.int ((p:Int)+z) (tk c 29),.int (p+z:Nat) (tk c 29)),λe c h=>(.bool ((c1 (a (p+z))).cps.toList==(c1 (b (p+z))).cps.toList),.bool false),λe c h=>(.bool (decide ((p:Int)> k)),.bool false),λe c h=>(.bool (decide ((p:Int)+z<j)),.bool true),λe c h=>(.bool (decide ((p:Int)+z<j)),.bool true),λe c h=>(.int ((p:Int)+z) (tk c 33),.int (p+z:Nat) (tk c 33))]) 1 600 3800 (zr 12 [31,30])
   (λo C v=>.done (.ret (.ref (o 19)))) (λo C v=>[(m,mO d),(d,AT w.2 q (AH a t) (AH b u) .none B n r A),(r,CH w.2),(n,B3 w.2 b g l)]++AZ l y++[(o 19,ES (o 18) p z (BQ (v 4)) (BQ (v 3)) (BQ (v 2))),(o 18,di [] 0)]) 43:=by
 kernel_rfl
theorem jB(w:Aa)(m d n r A j k p z:Nat)(q s a b g l y:Nat→Nat)(B:Value)(t u:Nat):
  AD w 659 (.call (.ref 224) ⟨[.ref m,.int j (s 0),.int k (s 1),.int j (s 2),.int k (s 3)],[]⟩) ([(m,mO d),(d,AT w.2 q (AH a t) (AH b u) .none B n r A),(r,CH w.2),(n,B3 w.2 b g l)]++AZ l y) (rl 528 0x5fd29f1645ca78147b6fd4281454b86efe686d2907d3f2c19a149e8d55d82815b3c730b3ea12819e86f3efeb9f78e31785ef75d79d8b9b0b3658fbf88af307e3fa099cfd7105e4f3a187d6f2d3a6f27d109efcf149000e33c69bb4b456db6a35a8e765c0f3b7a3470703cf8e30923295478251420cd991fc8790e14f5dc1a755c02095e024a6b720ce03f33faf8d4d6cd49c5e60777acc3cea18c0dee1b59ecc562ee6a59817315) (AB [(18,[]),(0,[24]),(0,[12,25,3,22,23,4,5,6,7,8,9,10,11]),(4,[]),(3,[]),(1,[]),(8,[]),(11,[28])] ([λe c h=>Mj j k (s 0) (s 1),λe c h=>Ml (tk e 12) j k (s 0) (s 1) (tk c 21),λe c h=>Kw w.2 (tk e 0) (tk e 13) m j k n (tk e 1) (tk e 11) (tk e 10) t u (tk c 15) (s 2) (s 0) p z (λi=>(OA c).getD i 0) s a b g l y,λe c h=>Ce b u (p-1) (tk c 23),λe c h=>Ce a t (p-1) (tk c 27),λe c h=>Ce b u (p-1) (tk c 30),λe c h=>Ce b u (p-1) (tk c 34),λe c h=>IL JG (tk e 16) (.int p (Ao h 4)) [.int p (Ao h 3),.int z (Ao h 2)] 0])) (Bh [16,0,0,2,0,0,1,0,0,0,3] [λe c h=>(.bool (decide ((p:Int)> j)),.bool true),λe c h=>(.bool (decide ((p:Int)> j)),.bool true),λe c h=>(.int ((p:Int)-1) (tk c 23),.int (p-1:Nat) (tk c 23)),λe c h=>(.int ((p:Int)-1) (tk c 27),.int (p-1:Nat) (tk c 27)),λe c h=>(.int ((p:Int)-1) (tk c 30),.int (p-1:Nat) (tk c 30)),λe c h=>(.bool ((c1 (a (p-1))).cps.toList==(c1 (b (p-1))).cps.toList),.bool false),λe c h=>(.bool (decide ((p:Int)+z<k)),.bool false),λe c h=>(.bool (decide ((p:Int)> j)),.bool true),λe c h=>(.bool (decide ((p:Int)> j)),.bool true),λe c h=>(.int ((p:Int)-1) (tk c 34),.int (p-1:Nat) (tk c 34)),λe c h=>(.bool (decide ((p:Int)+z<k)),.bool false)]) 1 600 3800 (zr 12 [31,30])
   (λo C v=>.done (.ret (.ref (o 19)))) (λo C v=>[(m,mO d),(d,AT w.2 q (AH a t) (AH b u) .none B n r A),(r,CH w.2),(n,B3 w.2 b g l)]++AZ l y++[(o 19,ES (o 18) p z (BQ (v 4)) (BQ (v 3)) (BQ (v 2))),(o 18,di [] 0)]) 45:=by
 kernel_rfl
theorem jC(w:Aa)(m d n r A j k p z:Nat)(q s a b g l y:Nat→Nat)(B:Value)(t u:Nat):
  AD w 792 (.call (.ref 224) ⟨[.ref m,.int j (s 0),.int k (s 1),.int j (s 2),.int k (s 3)],[]⟩) ([(m,mO d),(d,AT w.2 q (AH a t) (AH b u) .none B n r A),(r,CH w.2),(n,B3 w.2 b g l)]++AZ l y) (rl 528 0x29aedef577b6017478e96f8e847b50cdd1e8c0ce6eaa116093f8bea134cfc265ee7013c577f323a34011eeea0e95d97aaa4b21a000e3f432daa15abdc9f565f5c62eca7030352a2961cdf915e8618a81b699f4e98913c160af567adaf35a68ecea33803f7f80458f1c3c42bdf4b85ed3219ee808fe5908f2314a4e2bb5f2649e6ea92157b2c1ec8da7c91e99e7bf2d3c94fc9f1f8a6182cd4c0c5041b922025e68c6a1e16fd4926ee774ab5c07969c0dee1b59ecc562ee6a59817315) (AB [(18,[]),(0,[24]),(0,[12,25,3,22,23,4,5,6,7,8,9,10,11]),(4,[]),(3,[]),(1,[]),(7,[]),(3,[]),(1,[]),(5,[]),(8,[]),(8,[28])] ([λe c h=>Mj j k (s 0) (s 1),λe c h=>Ml (tk e 12) j k (s 0) (s 1) (tk c 21),λe c h=>Kw w.2 (tk e 0) (tk e 13) m j k n (tk e 1) (tk e 11) (tk e 10) t u (tk c 15) (s 2) (s 0) p z (λi=>(OA c).getD i 0) s a b g l y,λe c h=>Ce b u (p-1) (tk c 23),λe c h=>Ce a t (p-1) (tk c 27),λe c h=>Ce b u (p-1) (tk c 30),λe c h=>Ce b u (p+z) (tk c 34),λe c h=>Ce a t (p+z) (tk c 37),λe c h=>Ce b u (p+z) (tk c 39),λe c h=>Ce b u (p-1) (tk c 42),λe c h=>Ce b u (p+z) (tk c 47),λe c h=>IL JG (tk e 16) (.int p (Ao h 4)) [.int p (Ao h 3),.int z (Ao h 2)] 0])) (Bh (dg 17 0x5c7e569bab391b9d4bb) [λe c h=>(.bool (decide ((p:Int)> j)),.bool true),λe c h=>(.bool (decide ((p:Int)> j)),.bool true),λe c h=>(.int ((p:Int)-1) (tk c 23),.int (p-1:Nat) (tk c 23)),λe c h=>(.int ((p:Int)-1) (tk c 27),.int (p-1:Nat) (tk c 27)),λe c h=>(.int ((p:Int)-1) (tk c 30),.int (p-1:Nat) (tk c 30)),λe c h=>(.bool ((c1 (a (p-1))).cps.toList==(c1 (b (p-1))).cps.toList),.bool false),λe c h=>(.bool (decide ((p:Int)+z<k)),.bool true),λe c h=>(.bool (decide ((p:Int)+z<k)),.bool true),λe c h=>(.int ((p:Int)+z) (tk c 34),.int (p+z:Nat) (tk c 34)),λe c h=>(.int ((p:Int)+z) (tk c 37),.int (p+z:Nat) (tk c 37)),λe c h=>(.int ((p:Int)+z) (tk c 39),.int (p+z:Nat) (tk c 39)),λe c h=>(.bool ((c1 (a (p+z))).cps.toList==(c1 (b (p+z))).cps.toList),.bool false),λe c h=>(.bool (decide ((p:Int)> j)),.bool true),λe c h=>(.bool (decide ((p:Int)> j)),.bool true),λe c h=>(.int ((p:Int)-1) (tk c 42),.int (p-1:Nat) (tk c 42)),λe c h=>(.bool (decide ((p:Int)+z<k)),.bool true),λe c h=>(.bool (decide ((p:Int)+z<k)),.bool true),λe c h=>(.int ((p:Int)+z) (tk c 47),.int (p+z:Nat) (tk c 47))]) 1 600 3800 (zr 12 [31,30])
   (λo C v=>.done (.ret (.ref (o 19)))) (λo C v=>[(m,mO d),(d,AT w.2 q (AH a t) (AH b u) .none B n r A),(r,CH w.2),(n,B3 w.2 b g l)]++AZ l y++[(o 19,ES (o 18) p z (BQ (v 4)) (BQ (v 3)) (BQ (v 2))),(o 18,di [] 0)]) 57:=by
 kernel_rfl
set_option maxHeartbeats 1000000
structure Gk(a b:Nat→Nat)(lo i r p z:Nat):Prop where
 r1:r≤i-lo
 r2: ∀k,i-r≤k→k<i→a k=b k
 r3:lo<i-r→a (i-r-1)≠b (i-r-1)
 p1:lo≤p
 p2:p+z≤i
 p3: ∀k,p≤k→k<p+z→a k=b k
 le:r≤z
 z0:z=0→p=lo∧ ∀k,lo≤k→k<i→a k≠b k
 pl:lo<p→a (p-1)≠b (p-1)
 pr:(p+z=i∧(z=0∨r=z))∨(p+z<i∧a (p+z)≠b (p+z))
theorem Gk.start(a b:Nat→Nat)(c:Nat):Gk a b c c 0 c 0:=
 ⟨by (first|lia|omega),λk d e=>by (first|lia|omega),λh=>by (first|lia|omega),by (first|lia|omega),by (first|lia|omega),λk d e=>by (first|lia|omega),by (first|lia|omega),λ_=>⟨rfl,λk d e=>by (first|lia|omega)⟩,λh=>by (first|lia|omega),.inl ⟨by (first|lia|omega),.inl rfl⟩⟩
theorem Gk.step{a b:Nat→Nat}{g i r p z:Nat}(u:g≤i)(h:Gk a b g i r p z):Gk a b g (i+1) (Ea a b i (r,p,z)).1 (Ea a b i (r,p,z)).2.1 (Ea a b i (r,p,z)).2.2:=by
 obtain⟨v,w,n,A,B,C,o,H,D,j⟩:=h;have t:=(Nat.le_sub_iff_add_le u).mp v;clear v u;obtain⟨m,rfl⟩:=Le (AC (GF r g) t);have E:g≤m:=Nat.le_of_add_le_add_left (Nat.add_comm m r▸t);clear t;have F:m+r-r=m:=NE m r;have s:m+r+1-(r+1)=m:=NE m (r+1);have l1:g≤m+r+1:=AC E (GF m (r+1));rw[F]at w n;unfold Ea
 by_cases e:a (m+r)=b (m+r)
 ·rw[AS e]
  have l: ∀k,m≤k→k<m+r+1→a k=b k:=λk c d=>by
   rcases Je (Ei d)with q|q
   ·exact w k c q
   ·rw[q];exact e
  have G:r+1≤m+r+1-g:=(Nat.le_sub_iff_add_le l1).mpr (by (first|lia|omega))
  by_cases hz:z<r+1
  ·rw[AS hz,F]
   dsimp only;refine⟨G,λk c d=>l k (s▸c) d,λq=> ?_,E,A8 _,l,A8 _,λq=>(nomatch q),n,.inl ⟨rfl,.inr rfl⟩⟩;rw[s]at q⊢;exact n q
  ·rw[AI hz]
   dsimp only;have o:=FG hz;have j:p+z<m+r∧a (p+z)≠b (p+z):=j.resolve_left λh=>h.2.elim (λh=>absurd (h▸o) (Nat.not_succ_le_zero r)) λh=>hz (h▸Hn _);refine⟨G,λk c d=>l k (s▸c) d,λq=> ?_,A,Ip B,C,o,λq=>absurd q (EZ (Eh (GH r) o)),D,.inr ⟨NF j.1,j.2⟩⟩;rw[s]at q⊢;exact n q
 ·rw[AI e]
  dsimp only;refine⟨B8 _,λk c d=>absurd d (Jj c),λq=>by simpa using e,A,Ip B,C,B8 _,λq=> ?_,D,.inr ?_⟩
  ·obtain⟨x,y⟩:=H q
   refine⟨x,λk c d=> ?_⟩;rcases Je (Ei d)with q|q
   ·exact y k c q
   ·rw[q];exact e
  ·rcases j with⟨c,d⟩|⟨c,d⟩
   ·exact⟨c▸Hn _,by rw[c];exact e⟩
   ·exact⟨NF c,d⟩
theorem Gk.run{a b:Nat→Nat}{lo:Nat}: ∀(n i:Nat) (s:Nat×Nat×Nat),lo≤i→Gk a b lo i s.1 s.2.1 s.2.2→Gk a b lo (i+n) (B9 a b n i s).1 (B9 a b n i s).2.1 (B9 a b n i s).2.2:=by
 intro n
 induction n with
 |zero=>intro i s _ h;exact h
 |succ n c=>
  intro i s d h;have:=c (i+1) (Ea a b i s) (by (first|lia|omega)) (h.step d);rwa[show i+1+n=i+(n+1) by (first|lia|omega)]at this
noncomputable def Em(a b:Nat→Nat)(c d:Nat):Nat:=(B9 a b (d-c) c (0,c,0)).2.1
noncomputable def En(a b:Nat→Nat)(c d:Nat):Nat:=(B9 a b (d-c) c (0,c,0)).2.2
theorem Qu(a b:Nat→Nat){c d:Nat}(h:c≤d): ∃r,Gk a b c d r (Em a b c d) (En a b c d):=by
 have:=Gk.run (a:=a) (b:=b) (lo:=c) (d-c) c (0,c,0) (A8 _) (Gk.start a b c);rw[show c+(d-c)=d by (first|lia|omega)]at this;exact⟨_,this⟩
theorem OC{w:Aa}{b a s0 s1:Nat}(h:b<a)(c:a≤8):Av w (Mj b a s0 s1):=by
 refine Ba.ext λA d e g=> ?_;exact Bc (kW w b a s0 s1 h c) [0] g d e AR Ar λi j k=>⟨[i 0],[],rfl,rfl,rfl,rfl,rfl⟩
theorem OD{w:Aa}{x b a s0 s1 s2:Nat}(h:b<a)(c:a≤8):Av w (Ml x b a s0 s1 s2):=by
 refine Ba.ext λA d e g=> ?_;exact Bc (kY w x b a s0 s1 s2 h c) [] g d e AR Ar λi j k=>⟨[i 0],[],rfl,rfl,rfl,rfl,rfl⟩
theorem Kx(L a:Ae)(h:L.map (·.1)=a.map (·.1)):Bk L (a.map (·.2))=a:=by
 induction L generalizing a with
 |nil=>cases a with
  |nil=>rfl
  |cons p l=>cases h
 |cons p l e=>cases a with
  |nil=>cases h
  |cons c b=>
   rw[Ej,Ej]at h;have d:=J9 h;show(p.1,c.2)::Bk l (b.map (·.2))=c::b;rw[e b d.2,d.1]
theorem UI{L M N:Ae}(h:L.map (·.1)=M.map (·.1)):Bk (L++N) (M.map (·.2)++N.map (·.2))=M++N:=by
 rw[←BC];exact Kx _ _ (by rw[BC,BC,h])
theorem jD{w:Aa}{f i m c d j v no k t u tz y tp p z:Nat}{e s a b g l B:Nat→Nat}(J:Lt a)(K:Lt b)(h:c<d)(N:d≤8)(O:Em a b c d=p)(hz:En a b c d=z):Av w (Kw w.2 f i m c d j v no k t u tz y tp p z e s a b g l B):=by
 obtain⟨n,rfl⟩: ∃n,d=c+(n+1):=⟨d-c-1,by (first|lia|omega)⟩
 have en:c+(n+1)-c=n+1:=by (first|lia|omega)
 have C:(B9 a b (n+1) c (0,c,0)).2.1=p:=by rw[←O];unfold Em;rw[en]
 have D:(B9 a b (n+1) c (0,c,0)).2.2=z:=by rw[←hz];unfold En;rw[en]
 refine Ba.ext λA P Q R=> ?_;have S:Bb c (c+(n+1)-c)=Bb c (n+1):=by rw[en]
 refine (?_:RunsW w A (CV i f) ([(f,Cl w.2 e m c (c+(n+1)) s a b t u j v no k c 0 tz y tp [] 14),(i,Bb c (c+(n+1)-c)),(j,B3 w.2 b g l),(k,di [] 0),(no,li [] 0)]++AZ l B) _);rw[S];refine(Mf (kS R P Q J K N rfl)).mono ?_;rintro r X Y ⟨T,W,U,o1,E,o,F,G,H,V,x,I⟩;refine⟨[o],[o1,E,Ac F,Ac G,Ac H,di x 0,Ac V],rfl,by rw[T];rfl,rfl,U,?_⟩;rw[C,D]at I;exact I.trans (Am (λz=>z++[(o,E)]) (UI (L:=[(f,_),(i,_),(j,_),(k,_),(no,_)]) (M:=[(f,_),(i,_),(j,_),(k,_),(no,_)]) rfl).symm)
noncomputable def UJ(P:Aj)(m d e i j k n p z:Nat)(q s a b g l v:Nat→Nat)(w:Value)(t u:Nat):Ak:=
 {d:=600,u:=3800,h:=none,c:=.call (.ref 224) ⟨[.ref m,.int k (s 0),.int n (s 1),.int k (s 2),.int n (s 3)],[]⟩,idx:=[],pre:=[(m,mO d),(d,AT P q (AH a t) (AH b u) .none w e i j),(i,CH P),(e,B3 P b g l)]++AZ l v,na:=2,nt:=0,no:=3,
  r:=λx _=>.ok (.ret (.ref (x.getD 0 0))),outs:=λ_ _ _=>[mO d,AT P q (AH a t) (AH b u) .none w e i j,CH P,B3 P b g l]++(AZ l v).map (·.2),news:=λx _ o=>[ES (x.getD 1 0) p z (Ao o 0) (Ao o 1) (Ao o 2),di [] 0]}
noncomputable def jE(w:Aa)(m d h i j p z:Nat)(q a b g l k:Nat→Nat)(n:Value)(t u:Nat):Result→Ae→List Nat→Prop:=λr o s=>s=[]∧Ew λ (c v:Aw) (e:AU)=>r= .ok (.ret (.ref (c 19)))∧o=[(m,mO d),(d,AT w.2 q (AH a t) (AH b u) .none n h i j),(i,CH w.2),(h,B3 w.2 b g l)]++AZ l k++[(c 19,ES (c 18) p z (BQ (e 4)) (BQ (e 3)) (BQ (e 2))),(c 18,di [] 0)]
theorem jF{w:Aa}{m d D F K o j p z:Nat}{q s a b g l J:Nat→Nat}{N:Value}{t u:Nat}(Z:Lt a)(hb:Lt b)(h:o<j)(y:j≤8)(Y:Em a b o j=p)(hz:En a b o j=z):Av w (UJ w.2 m d D F K o j p z q s a b g l J N t u):=by
 obtain⟨r0,C⟩:=Qu a b (Bw h);rw[Y,hz]at C;have Q: ∀{f it jb no jl tz tq tp:Nat} {e:Nat→Nat},Av w (Kw w.2 f it m o j D jb no jl t u tz tq tp p z e s a b g l J):=jD Z hb h y Y hz;have R: ∀{x:Nat} {S W v3:Value},Av w (IL JG x S [W,v3] 0):=UF UG (by (first|((repeat(first|exact .head _|apply List.mem_cons_of_mem));done)|simp));have T: ∀i,a i≠b i→Value.bool ((c1 (a i)).cps.toList==(c1 (b i)).cps.toList)= .bool false:=λi j=>Am Value.bool (by simp[c1,j]);have p8:p+z≤8:=AC C.p2 y;refine Ba.ext λA U V O=> ?_;refine Ba.mono (Φ:=jE w m d D F K p z q a b g l J N t u) ?_ λr L' ts O=> ?_
 rotate_left
 ·obtain⟨e,B,G,v,e1,e2⟩:=O
  exact⟨[B 19,B 18],[v 4,v 3,v 2],rfl,Am Ir e,rfl,e1,e2.trans (Am (λz=>z++_) (UI (L:=[(m,_),(d,_),(F,_),(D,_)]) (M:=[(m,_),(d,_),(F,_),(D,_)]) rfl).symm)⟩
 have pz:(p:Int)+z=(p+z:Nat):=by (first|lia|omega)
 by_cases S:o<p
 ·have n:decide ((p:Int)> o)=true:=CD (by (first|lia|omega))
  have H:(p:Int)-1=(p-1:Nat):=by (first|lia|omega)
  have I: ∀{c:Nat→Nat} {u P:Nat},Av w (Ce c u (p-1) P):=HG (by (first|lia|omega))
  by_cases W:p+z<j
  ·have k:decide ((p:Int)+z<j)=true:=CD (by (first|lia|omega))
   have E: ∀{c:Nat→Nat} {u P:Nat},Av w (Ce c u (p+z) P):=HG (by (first|lia|omega));have X:a (p+z)≠b (p+z):=by
    rcases C.pr with x|x
    ·(first|lia|omega)
    ·exact x.2
   exact Bc (jC w m d D F K o j p z q s a b g l J N t u) [] O U V (Az _ _ (Ah (λ_ _ _=>OC h y) (Ah (λ_ _ _=>OD h y) (Ah (λ_ _ _=>Q) (Ah (λ_ _ _=>I) (Ah (λ_ _ _=>I) (Ah (λ_ _ _=>I) (Ah (λ_ _ _=>E) (Ah (λ_ _ _=>E) (Ah (λ_ _ _=>E) (Ah (λ_ _ _=>I) (Ah (λ_ _ _=>E) (Ah (λ_ _ _=>R) Ay))))))))))))) (Bi _ _ (AA (λ_ _ _=>Am Value.bool n) (AA (λ_ _ _=>Am Value.bool n) (AA (λ_ _ _=>Am (λx=>Value.int x _) H) (AA (λ_ _ _=>Am (λx=>Value.int x _) H) (AA (λ_ _ _=>Am (λx=>Value.int x _) H) (AA (λ_ _ _=>T _ (C.pl S)) (AA (λ_ _ _=>Am Value.bool k) (AA (λ_ _ _=>Am Value.bool k) (AA (λ_ _ _=>Am (λx=>Value.int x _) pz) (AA (λ_ _ _=>Am (λx=>Value.int x _) pz) (AA (λ_ _ _=>Am (λx=>Value.int x _) pz) (AA (λ_ _ _=>T _ X) (AA (λ_ _ _=>Am Value.bool n) (AA (λ_ _ _=>Am Value.bool n) (AA (λ_ _ _=>Am (λx=>Value.int x _) H) (AA (λ_ _ _=>Am Value.bool k) (AA (λ_ _ _=>Am Value.bool k) (AA (λ_ _ _=>Am (λx=>Value.int x _) pz) Bp))))))))))))))))))) λB G v=>⟨rfl,B,G,v,rfl,rfl⟩
  ·have k:decide ((p:Int)+z<j)=false:=BH (by (first|lia|omega))
   exact Bc (jB w m d D F K o j p z q s a b g l J N t u) [] O U V (Az _ _ (Ah (λ_ _ _=>OC h y) (Ah (λ_ _ _=>OD h y) (Ah (λ_ _ _=>Q) (Ah (λ_ _ _=>I) (Ah (λ_ _ _=>I) (Ah (λ_ _ _=>I) (Ah (λ_ _ _=>I) (Ah (λ_ _ _=>R) Ay))))))))) (Bi _ _ (AA (λ_ _ _=>Am Value.bool n) (AA (λ_ _ _=>Am Value.bool n) (AA (λ_ _ _=>Am (λx=>Value.int x _) H) (AA (λ_ _ _=>Am (λx=>Value.int x _) H) (AA (λ_ _ _=>Am (λx=>Value.int x _) H) (AA (λ_ _ _=>T _ (C.pl S)) (AA (λ_ _ _=>Am Value.bool k) (AA (λ_ _ _=>Am Value.bool n) (AA (λ_ _ _=>Am Value.bool n) (AA (λ_ _ _=>Am (λx=>Value.int x _) H) (AA (λ_ _ _=>Am Value.bool k) Bp)))))))))))) λB G v=>⟨rfl,B,G,v,rfl,rfl⟩
 ·have n:decide ((p:Int)> o)=false:=BH (by (first|lia|omega))
  by_cases W:p+z<j
  ·have k:decide ((p:Int)+z<j)=true:=CD (by (first|lia|omega))
   have E: ∀{c:Nat→Nat} {u P:Nat},Av w (Ce c u (p+z) P):=HG (by (first|lia|omega));have X:a (p+z)≠b (p+z):=by
    rcases C.pr with x|x
    ·(first|lia|omega)
    ·exact x.2
   exact Bc (jA w m d D F K o j p z q s a b g l J N t u) [] O U V (Az _ _ (Ah (λ_ _ _=>OC h y) (Ah (λ_ _ _=>OD h y) (Ah (λ_ _ _=>Q) (Ah (λ_ _ _=>E) (Ah (λ_ _ _=>E) (Ah (λ_ _ _=>E) (Ah (λ_ _ _=>E) (Ah (λ_ _ _=>R) Ay))))))))) (Bi _ _ (AA (λ_ _ _=>Am Value.bool n) (AA (λ_ _ _=>Am Value.bool k) (AA (λ_ _ _=>Am Value.bool k) (AA (λ_ _ _=>Am (λx=>Value.int x _) pz) (AA (λ_ _ _=>Am (λx=>Value.int x _) pz) (AA (λ_ _ _=>Am (λx=>Value.int x _) pz) (AA (λ_ _ _=>T _ X) (AA (λ_ _ _=>Am Value.bool n) (AA (λ_ _ _=>Am Value.bool k) (AA (λ_ _ _=>Am Value.bool k) (AA (λ_ _ _=>Am (λx=>Value.int x _) pz) Bp)))))))))))) λB G v=>⟨rfl,B,G,v,rfl,rfl⟩
  ·have k:decide ((p:Int)+z<j)=false:=BH (by (first|lia|omega))
   exact Bc (kZ w m d D F K o j p z q s a b g l J N t u) [] O U V (Az _ _ (Ah (λ_ _ _=>OC h y) (Ah (λ_ _ _=>OD h y) (Ah (λ_ _ _=>Q) (Ah (λ_ _ _=>R) Ay))))) (Bi _ _ (AA (λ_ _ _=>Am Value.bool n) (AA (λ_ _ _=>Am Value.bool k) (AA (λ_ _ _=>Am Value.bool n) (AA (λ_ _ _=>Am Value.bool k) Bp))))) λB G v=>⟨rfl,B,G,v,rfl,rfl⟩
set_option maxHeartbeats 400000
noncomputable def OE(q:Nat)(a:List Value)(n k:Nat):Ak:=
 {d:=900,u:=9000,h:=none,c:=.builtin Ma ⟨[.ref q],[]⟩,idx:=[],pre:=[(q,li a n)],na:=0,nt:=1,r:=λ_ t=>.ok (.ret (.int k (t.getD 0 0))),outs:=λ_ _ _=>[li a n],news:=λ_ _ _=>[]}
theorem UK{w:Aa}{q n k:Nat}{a:List Value}(d:a.length=k)(l:k≤1000):Av w (OE q a n k):=by
 refine GT λA s m o t S R g=> ?_;have i:=S.mem (q,li a n) (by simp[OE]);have b:=i;rw[BX]at b;refine (?_:codeAny _ _ (.builtin Ma ⟨[.ref q],[]⟩) _ s);rw[T6];refine EK entry_len ?_;rw[EG plain_len _];have j:s.heap.IsList q (⟨a⟩:Array Value):=⟨_,b,rfl,n,rfl⟩
 have e:((⟨a⟩:Array Value).size:Int)=k:=by show((a.length:Nat):Int)=_;rw[d]
 refine CE (wpAny_len_body_list (E:=λ_ _=>False) (Q:=λr c=>r= .int k (s.toks+1)∧c={s with toks:=s.toks+1+1}) j (by rw[e];(first|lia|omega)) ⟨by rw[e],rfl⟩) (λfin c h=> ?_) (λe c h=>False.elim h);obtain⟨v,rfl,h⟩:=h;obtain⟨rfl,rfl⟩:=h;refine g _ [] [s.toks+1] [] rfl rfl rfl ?_ ⟨Jn _,A8 _⟩;exact S.tok.trans S.tok.sat.tok
noncomputable def UL(q:Nat)(a:List Value)(x:Value)(n:Nat):Ak:=IF (.call (.builtin T4) ⟨[.ref q],[]⟩) [(q,li (a++[x]) n)] [li a (n+1)] x
theorem jG{w:Aa}{q n:Nat}{a:List Value}{x:Value}(g:a.length≤1000):Av w (UL q a x n):=by
 refine Ko λA s _ _ _ S R h=> ?_;have b:=S.mem _ Bj;have hz:(⟨a++[x]⟩:Array Value).size=a.length+1:=by (first|((repeat(first|exact .head _|apply List.mem_cons_of_mem));done)|simp)
 have c:=S.set (i:=0) rfl (f:=Obj.mapSeq λd=>d.eraseIdxIfInBounds ((⟨a++[x]⟩:Array Value).size-1)) (p:=(q,li (a++[x]) n)) rfl;have e:Obj.mapSeq (λd=>d.eraseIdxIfInBounds ((⟨a++[x]⟩:Array Value).size-1)) (li (a++[x]) n)=li a (n+1):=by
  have j:(⟨a++[x]⟩:Array Value).eraseIdxIfInBounds (a.length+1-1)=⟨a⟩:=by
   apply Array.ext';(first|((repeat(first|exact .head _|apply List.mem_cons_of_mem));done)|simp);rw[List.eraseIdx_append_of_length_le (A8 _)];(first|((repeat(first|exact .head _|apply List.mem_cons_of_mem));done)|simp)
  rw[hz];unfold Obj.mapSeq;dsimp only;rw[j];(first|((repeat(first|exact .head _|apply List.mem_cons_of_mem));done)|simp)
 dsimp only at b c;rw[e]at c;rw[BX]at b;rw[qG];have k:(⟨a++[x]⟩:Array Value)[(⟨a++[x]⟩:Array Value).size-1]? =some x:=by
  rw[hz];(first|((repeat(first|exact .head _|apply List.mem_cons_of_mem));done)|simp)
 exact Qc F.slot_list_pop (T:="list") ⟨_,b,rfl⟩ F.entry_list_pop (F.args_list_pop_1 _) (MeetsSeq.list_pop_last q ⟨a++[x]⟩ n x k (by rw[hz];exact AC (Ev g) (by decide))) ⟨b,h _ c⟩
section
noncomputable def Mm(s:Stmt)(a:Env):Code:=.whileLoop (A9 (Ke s) 0) (AO s) (Dv s) a
noncomputable abbrev Mn(f:Nat):Env:={scope:=EM (EO 6 7),locals:=f,globals:=3,cells:=[],qual:=⟨⟨[83,101,113,117,101,110,99,101,77,97,116,99,104,101,114,46,103,101,116,95,109,97,116,99,104,105,110,103,95,98,108,111,99,107,115,46,60,108,111,99,97,108,115,62,46]⟩⟩,func:=some 231,code:=.ref 230,frame:=some f,builtins:=0}
noncomputable abbrev Mo:Stmt:=AF (AO (EO 6 7)) 5
noncomputable abbrev IM(a b:Nat)(s:Nat→Nat):Obj:=tu [.int a (s 0),.int b (s 1),.int a (s 2),.int b (s 3)] 0
noncomputable abbrev Qv(P:Aj)(e:Nat→Nat)(m q a b d:Nat)(x:List DictEntry)(n:Nat):Obj:=
 fr ([Aq P HC (e 0) (.ref m),Aq P yJ (e 1) (.int 8 b),Aq P yI (e 2) (.int 8 d),Aq P yQ (e 3) (.ref q),Aq P P3 (e 4) (.ref a)]++x) n
noncomputable abbrev jH(P:Aj)(y:Nat→Nat)(a b p z:Nat)(s:Nat→Nat)(tp d tz x:Nat):List DictEntry:=
 [Aq P TG (y 0) (.int a (s 0)),Aq P TF (y 1) (.int b (s 1)),Aq P TM (y 2) (.int a (s 2)),Aq P TJ (y 3) (.int b (s 3)),Aq P By (y 4) (.int p tp),Aq P CL (y 5) (.int p d),Aq P BW (y 6) (.int z tz),Aq P Gj (y 7) (.ref x)]
structure QE where
 x:Nat
 lo:Nat
 hi:Nat
 s:Nat→Nat
structure BE where
 x:Nat
 d:Nat
 p:Nat
 z:Nat
 tp:Nat
 tq:Nat
 tz:Nat
structure TT where
 y:Nat→Nat
 lo:Nat
 hi:Nat
 p:Nat
 z:Nat
 s:Nat→Nat
 tp:Nat
 tq:Nat
 tz:Nat
 x:Nat
structure QK where
 f:Nat
 q:Nat
 mb:Nat
 m:Nat
 d:Nat
 j2:Nat
 bj:Nat
 bp:Nat
 tb:Nat
 ta:Nat
 t:Nat
 u:Nat
 e:Nat→Nat
 kq:Nat→Nat
 a:Nat→Nat
 b:Nat→Nat
 g:Nat→Nat
 l:Nat→Nat
 g':Nat→Nat
 fb:Value
noncomputable def QL(Q:List QE):Ae:=Q.map λe=>(e.x,IM e.lo e.hi e.s)
noncomputable def BL:List BE→Ae
 |[]=>[]
 |e::B=>(e.x,ES e.d e.p e.z e.tp e.tq e.tz)::(e.d,di [] 0)::BL B
noncomputable def Ky:List Value→List Value→List Value
 |l,[]=>l
 |l,y::a=>Ky (l++[y]) a
theorem Qw: ∀a l:List Value,Ky l a=l++a
 |[],l=>(BR l).symm
 |y::a,l=>(Qw a (l++[y])).trans (Dt l [y] a)
noncomputable abbrev HH(Q:List QE):List Value:=Q.map λe=>.ref e.x
noncomputable abbrev G0(B:List BE):List Value:=B.map λe=>.ref e.x
section
variable (P:Aj)(K:QK)(v:Bool)(T:TT)(xs ms:List Value)(n nm:Nat)
noncomputable def jI:Obj:=Qv P K.e K.m K.q K.mb K.tb K.ta (cond v (jH P T.y T.lo T.hi T.p T.z T.s T.tp T.tq T.tz T.x) []) (cond v 13 5)
noncomputable abbrev HJ:Ae:=[(K.f,jI P K v T),(K.q,li xs n)]
noncomputable abbrev IN:Ae:=[(K.mb,li ms nm),(K.m,mO K.d),(K.d,AT P K.kq (.str (sf K.a) K.t) (.str (sf K.b) K.u) .none K.fb K.j2 K.bj K.bp),(K.bj,CH P),(K.j2,B3 P K.b K.g K.l)]++AZ K.l K.g'
end
section
variable (w:Aa)(K:QK)(v:Bool)(T:TT)(xs ms:List Value)(n nm:Nat)(c:QE)(p z:Nat)(nz v1 v2:Bool)
noncomputable def JH(a b:Nat→Nat)(d:Nat→Obj):List QE:=cond nz (cond v1 [⟨a 8,c.lo,p,λi=>[c.s 0,BQ (d 0),c.s 2,BQ (d 1)].getD i 0⟩] []++cond v2 [⟨a (cond v1 9 8),p+z,c.hi,λi=>[b 11,c.s 1,b 12,c.s 3].getD i 0⟩] []) []
noncomputable def Kz(b:Nat→Nat)(a:Nat→Obj):List BE:=cond nz [⟨b 3,b 4,p,z,BQ (a 0),BQ (a 1),BQ (a 2)⟩] []
noncomputable def UM:List (List Nat→List Nat→List Obj→Ak):=[λ_ _ _=>OE K.q (xs++[.ref c.x]) n (xs.length+1),λ_ _ _=>UL K.q xs (.ref c.x) n,λ_ _ _=>UJ w.2 K.m K.d K.j2 K.bj K.bp c.lo c.hi p z K.kq c.s K.a K.b K.g K.l K.g' K.fb K.t K.u]++cond nz ([λa _ _=>Ck K.mb ms nm (.ref (tk a 3))]++cond v1 [λa _ _=>Ck K.q xs (n+1) (.ref (tk a 8))] []++cond v2 [λa _ _=>Ck K.q (cond v1 (xs++[.ref (tk a 8)]) xs) (n+1+cond v1 1 0) (.ref (tk a (cond v1 9 8)))] []) []
noncomputable abbrev Gl(a:Bool):=(cond a 2 1)
noncomputable def UN:List (List Nat→List Nat→List Obj→Value×Value):=(λ_ _ _=>(.bool ((z:Int) != 0),.bool nz))::cond nz (Cd (Gl v1) (λ_ _ _=>(.bool (decide ((c.lo:Int)<p)),.bool v1))++Cd (Gl v2) (λ_ _ _=>(.bool (decide ((p:Int)+z<c.hi)),.bool v2))++cond v2 [λ_ a _=>(.int ((p:Int)+z) (tk a 11),.int (p+z:Nat) (tk a 11)),λ_ a _=>(.int ((p:Int)+z) (tk a 12),.int (p+z:Nat) (tk a 12))] []) []
noncomputable def UO(d a:Nat→Nat)(b:Nat→Obj):TT:=⟨cond v T.y λi=>[a 1,a 2,a 3,a 4,a 5,a 6,a 7,a 8].getD i 0,c.lo,c.hi,p,z,c.s,BQ (b 0),BQ (b 1),BQ (b 2),d 3⟩
noncomputable abbrev jJ:Prop:=AD w (251+cond nz (41+cond v1 31 0+cond v2 52 0) 0) (Mm Mo (Mn K.f)) (HJ w.2 K v T (xs++[.ref c.x]) n++((c.x,IM c.lo c.hi c.s)::IN w.2 K ms nm)) ([1,2,2,1,2,2,2,2,3,3,3,1,3,17,17,17,17,17,3,17,17,17,17,17,17,3,17,17,17,17,17,17,3,17,17,17,17,17,17,3,17,17,17,17,17,17,3,17,17,19,0,1,1,0,1,1,0,1,1,0,1,1,1,5,0,0,0,5,0,0,0,5,0,0,0,0,5,6,1,1,1,1,0,20,0,0,0,20,0,0,0,20,0,0,0,1,20,0,22,22,22,22,22,20,22,22,22,22,22,22,20,22,22,22,22,22,22,20,22,22,22,22,22,22,20,22,22,24,0,1,1,0,1,1,0,1,1,0,1,1,1]++cond nz (1::[4,4,4,4]++Cd 8 1++cond v1 (Cd 4 2++Cd 8 1) []++cond v2 (Cd 5 1++Cd 4 2++Cd 6 1) []) []) (AB ([(0,[1]),(0,[1]),(6,[4,5,6,7,8,9,10,11,12,13,14,15])]++cond nz ([(6,[3])]++cond v1 [(2,[1])] []++cond v2 [(cond v1 6 7,[1])] []) []) (UM w K xs ms n nm c p z nz v1 v2)) (Bh (9::cond nz ([0]++cond v1 [0] []++[1]++cond v2 [1,0,0] []) []) (UN c p z nz v1 v2)) 0 570 3400 (List.range 16++cond nz ([19,20]++cond v1 [24] []++cond v2 [cond v1 25 24] []) [])
   (λa d b=>.again (Mm Mo (Mn K.f))) (λa d b=>HJ w.2 K true (UO v T c p z a d b) (Ky xs (HH (JH c p z nz v1 v2 a d b))) (n+1+(JH c p z nz v1 v2 a d b).length)++((c.x,IM c.lo c.hi c.s)::(IN w.2 K (Ky ms (G0 (Kz p z nz a b))) (nm+(Kz p z nz a b).length)++(BL (Kz p z nz a b)++QL (JH c p z nz v1 v2 a d b))))) (9+cond nz (1+cond v2 3 0) 0)
theorem jK:jJ w K v T xs ms n nm c p z nz v1 v2:=by
 cases nz
 ·cases v <;> kernel_rfl
 ·cases v <;> cases v1 <;> cases v2 <;> kernel_rfl
end
theorem jL(w:Aa)(f q m a b d n:Nat)(e:Nat→Nat)(x:List DictEntry)(g:Nat):
  AD w 22 (Mm Mo (Mn f)) ([(f,Qv w.2 e m q a b d x g),(q,li [] n)]) [1,2,2,2,2,2] [] [] 1 570 3400 [0,1]
   (λh i j=>.done .next) (λh i j=>[(f,Qv w.2 e m q a b d x g),(q,li [] n)]) 2:=by
 kernel_rfl
end
set_option maxHeartbeats 200000
inductive PT where
 |a (i:Nat)
 |c (i:Nat) (t:PT)
 |p (s t:PT)
 |z
noncomputable def nL:List Ae→Nat→Ae
 |[],_=>[]
 |x::_,0=>x
 |_::l,n+1=>nL l n
noncomputable def nE:List (Addr×Obj)→Nat→Addr×Obj
 |[],_=>(0,default)
 |x::_,0=>x
 |_::l,n+1=>nE l n
noncomputable def PT.den(e:List Ae)(E:List (Addr×Obj)):PT→Ae
 | .a i=>nL e i
 | .c i t=>nE E i::t.den e E
 | .p s t=>s.den e E++t.den e E
 | .z=>[]
noncomputable def PT.flat:PT→List Nat
 | .a i=>[2*i+1]
 | .c i t=>2*i::t.flat
 | .p s t=>s.flat++t.flat
 | .z=>[]
noncomputable def PT.at(e:List Ae)(E:List (Addr×Obj))(k:Nat):Ae:=if k%2=0 then[nE E (k/2)]else nL e (k/2)
theorem PT.den_flat(e:List Ae)(E:List (Addr×Obj)): ∀t:PT,t.den e E=t.flat.flatMap (PT.at e E):=by
 intro t
 induction t with
 |a i=>simp only[PT.den,PT.flat,List.flatMap_cons,List.flatMap_nil,BR,PT.at];rw[AI (by (first|lia|omega)),show(2*i+1)/2=i by (first|lia|omega)]
 |c i t b=>simp only[PT.den,PT.flat,List.flatMap_cons,PT.at];rw[AS (by (first|lia|omega)),show 2*i/2=i by (first|lia|omega),b];rfl
 |p s t b d=>simp only[PT.den,PT.flat,List.flatMap_append,b,d]
 |z=>rfl
theorem jM(e:List Ae)(E:List (Addr×Obj))(s t:PT)(h:s.flat.isPerm t.flat=true:=by rfl):(s.den e E).Perm (t.den e E):=by
 rw[PT.den_flat,PT.den_flat];exact(List.isPerm_iff.mp h).flatMap_right _
noncomputable def JI:Nat→List Nat→PT
 |0,_=>.z
 |_+1,[]=>.z
 |f+1,x::l=>match x with
  |0=>match l with
   |[]=>.z
   |k::l=>.p (JI f (l.take k)) (JI f (l.drop k))
  |x+1=>match x%2 with
   |0=>.c (x/2) (JI f l)
   |_=>.a (x/2)
theorem AM(e:List Ae)(E:List (Addr×Obj))(s t:List Nat)(h:(JI 99 s).flat.isPerm (JI 99 t).flat=true:=by rfl):((JI 99 s).den e E).Perm ((JI 99 t).den e E):=jM e E _ _ h
set_option maxHeartbeats 400000
noncomputable def Eb(a b:Nat→Nat):Nat→List (Nat×Nat)→List (Nat×Nat)→List (Nat×Nat)
 |0,_,e=>e
 |_+1,[],e=>e
 |n+1,(c,d)::Q,e=>
  if En a b c d=0 then Eb a b n Q e
  else Eb a b n ((if Em a b c d+En a b c d<d then[(Em a b c d+En a b c d,d)]else[])++(if c<Em a b c d then[(c,Em a b c d)]else[])++Q) (e++[(Em a b c d,En a b c d)])
noncomputable def mu(Q:List QE):Nat:=(Q.map λe=>e.hi-e.lo).sum
theorem jN(Q R:List QE):mu (Q++R)=mu Q+mu R:=by
 unfold mu;rw[BC,List.sum_append]
noncomputable abbrev lh(Q:List QE):List (Nat×Nat):=Q.map λc=>(c.lo,c.hi)
noncomputable abbrev pz(B:List BE):List (Nat×Nat):=B.map λc=>(c.p,c.z)
noncomputable abbrev KA(w:Aa)(K:QK)(v:Bool)(T:TT)(n a:Nat)(Q:List QE)(B:List BE):Ae:=
 HJ w.2 K v T (HH Q.reverse) n++(IN w.2 K (G0 B) a++(QL Q++BL B))
theorem jO(H R Z D:Ae)(X:Addr×Obj):((H++(X::R))++(Z++D)).Perm ((H++(R++(X::Z)))++D):=by
 classical
 exact List.perm_iff_count.mpr λy=>by simp only[NG,List.count_cons];(first|lia|omega)
theorem jP{H R b q Q a B c D:Ae}{X:Addr×Obj}(h:(q++Q).Perm a)(e:c=B++b):((H++(X::(R++(b++q))))++((Q++B)++D)).Perm ((H++(R++(a++c)))++(X::D)):=by
 classical
 subst e;refine List.perm_iff_count.mpr λy=> ?_;have h:=List.perm_iff_count.mp h y;simp only[NG,List.count_cons]at h⊢;(first|lia|omega)
theorem UP{a b:List (List Nat→List Nat→List Obj→Value×Value)}(c:E8 a)(d:E8 b):E8 (a++b):=λe g=>(List.mem_append.mp g).elim (c e) (d e)
theorem UQ(B:List BE): ∀C:List BE,BL (C++B)=BL C++BL B
 |[]=>rfl
 |e::C=>Am (λl=>_::_::l) (UQ B C)
theorem jQ{a p z b:Nat}(c:a≤p)(d:p+z≤b)(h:z≠0):p-a+(b-(p+z))+1≤b-a:=by
 obtain⟨x,e⟩:=Nat.le.dest c;obtain⟨y,g⟩:=Nat.le.dest d;rw[←g,←e,Lf,Lf,Ls a x z,Ls a (x+z) y,Lf];(first|lia|omega)
theorem jR{c:QE}{p z:Nat}{j m l:Bool}{a b:Nat→Nat}(v:Em a b c.lo c.hi=p)(hz:En a b c.lo c.hi=z)(w:c.lo≤p)(r:p+z≤c.hi)(y:c.lo<c.hi)(ch:c.hi≤8)(s:((z:Int) != 0)=j)(i:decide ((c.lo:Int)<p)=m)(g:decide ((p:Int)+z<c.hi)=l)(n t:Nat→Nat)(o:Nat→Obj):
  mu (JH c p z j m l n t o)+1≤c.hi-c.lo∧(Kz p z j n o).length≤1∧(∀e∈JH c p z j m l n t o,e.lo<e.hi∧e.hi≤8)∧
   ∀k Q B,Eb a b (k+1) ((c.lo,c.hi)::Q) B=Eb a b k (lh (JH c p z j m l n t o).reverse++Q) (B++pz (Kz p z j n o)):=by
 have d: ∀k Q B,Eb a b (k+1) ((c.lo,c.hi)::Q) B=if z=0 then Eb a b k Q B else Eb a b k ((if p+z<c.hi then[(p+z,c.hi)]else[])++(if c.lo<p then[(c.lo,p)]else[])++Q) (B++[(p,z)]):=λk Q B=>by
  rw[←v,←hz];rfl
 clear v hz;cases j with
 |false=>exact⟨Nat.sub_pos_of_lt y,B8 _,λe h=>(nomatch h),λk Q B=>((d k Q B).trans (AS (Int.ofNat.inj (bne_eq_false_iff_eq.mp s)))).trans (Am _ (BR B).symm)⟩
 |true=>
  have u:z≠0:=λe=>bne_iff_ne.mp s (Am Int.ofNat e);have key:=jQ w r u;have A:=AC (GF p z) (AC r ch);have d:=λk Q B=>(d k Q B).trans (AI u);clear u s y w r;cases m with
  |false=>
   have i: ¬c.lo<p:=λe=>of_decide_eq_false i (Int.ofNat_lt.mpr e);rw[AI i]at d;clear i;cases l with
   |false=>
    rw[AI λe=>of_decide_eq_false g (Int.ofNat_lt.mpr e)]at d;exact⟨AC (Ev (B8 _)) key,A8 _,λe h=>(nomatch h),d⟩
   |true=>
    have g:p+z<c.hi:=Int.ofNat_lt.mp (of_decide_eq_true g);rw[AS g]at d;exact⟨AC (Ev (Nat.le_add_left _ _)) key,A8 _,λe h=>List.mem_singleton.mp h▸⟨g,ch⟩,d⟩
  |true=>
   have i:c.lo<p:=Int.ofNat_lt.mp (of_decide_eq_true i);rw[AS i]at d;cases l with
   |false=>
    rw[AI λe=>of_decide_eq_false g (Int.ofNat_lt.mpr e)]at d;exact⟨AC (Ev (GF _ _)) key,A8 _,λe h=>List.mem_singleton.mp h▸⟨i,A⟩,d⟩
   |true=>
    have g:p+z<c.hi:=Int.ofNat_lt.mp (of_decide_eq_true g);rw[AS g]at d;exact⟨key,A8 _,λe h=>(List.mem_cons.mp h).elim (λh=>h▸⟨i,A⟩) λh=>List.mem_singleton.mp h▸⟨g,ch⟩,d⟩
theorem jS(b a c:Bool):BS (List.range 16++cond b ([19,20]++cond a [24] []++cond c [cond a 25 24] []) [])=true:=by
 cases b <;> cases a <;> cases c <;> rfl
theorem jT(a Q:List QE):HH (a.reverse++Q).reverse=Ky (HH Q.reverse) (HH a):=by
 rw[Qw,List.reverse_append,List.reverse_reverse];exact BC
theorem jU(B a:List BE):G0 (B++a)=Ky (G0 B) (G0 a):=(Qw _ _).symm▸BC
theorem jV{Q:List QE}(h: ∀c∈Q,c.lo<c.hi∧c.hi≤8):Q.length≤mu Q:=by
 induction Q with
 |nil=>exact B8 _
 |cons c Q a=>
  have d:=(h c (.head _)).1;have g:=a λe b=>h e (.tail _ b);refine (?_:Q.length+1≤c.hi-c.lo+mu Q);(first|lia|omega)
noncomputable def OF(w:Aa)(K:QK)(d:Bool)(k:Nat)(Q:List QE)(B:List BE)(D:List QE)(r:Result)(L:Ae):Prop:=r= .ok .next∧Sz λ (v:Bool) (T:TT) (n e:Nat) (a:List BE) (b:List QE)=>(Q≠[]∨d=true→v=true)∧(∀c g,Q=c::g→ ∃h,b=h++[c])∧L=KA w K v T n e [] a++(QL b++QL D)∧pz a=Eb K.a K.b k (lh Q) (pz B)
theorem OF.up{w:Aa}{K:QK}{v:Bool}{k:Nat}{c:QE}{b Q:List QE}{B d:List BE}{D:List QE}{r:Result}{L:Ae}(e:Eb K.a K.b (k+1) (lh (c::Q)) (pz B)=Eb K.a K.b k (lh b.reverse++lh Q) (pz B++pz d))(h:OF w K true k (b.reverse++Q) (B++d) (c::D) r L):OF w K v (k+1) (c::Q) B D r L:=by
 obtain⟨j,v,T,n,g,i,a,l,_,m,o⟩:=h;refine⟨j,v,T,n,g,i,a++[c],λ_=>l (.inr rfl),λs t e=>⟨a,Am (a++[·]) (J9 e).1⟩,m.trans (Am (KA w K v T n g [] i++ ·) ?_),(o.trans ?_).trans e.symm⟩
 ·unfold QL
  rw[BC,Dt];rfl
 ·unfold lh pz
  rw[BC,BC]
theorem jW{w:Aa}{K:QK}(i:Lt K.a)(j:Lt K.b){d k:List Value}{n u:Nat}{c:QE}{p z:Nat}{l e m:Bool}(o:Em K.a K.b c.lo c.hi=p)(hz:En K.a K.b c.lo c.hi=z)(r:c.lo<c.hi)(ch:c.hi≤8)(b:d.length≤8)(y:k.length≤8):DF w (UM w K d k n u c p z l e m):=by
 have g: ∀{a n x} {s:List Value},s.length≤9→Av w (Ck a s n x):=λh=>EB (AC h (Eg rfl));have t: ∀{v},(d++[v]).length≤9:=EH▸Ev b;have b:=Ip b;refine IG (Ah (λ_ _ _=>UK EH (Ev (AC b (Eg rfl)))) (Ah (λ_ _ _=>jG (AC b (Eg rfl))) (Ah (λ_ _ _=>jF i j r ch o hz) Ay))) ?_;clear i j o hz r ch;cases l with
 |false=>exact Ay
 |true=>
  refine Ah (λ_ _ _=>g (Ip y)) (IG ?_ ?_)
  ·cases e with
   |false=>exact Ay
   |true=>exact Ah (λ_ _ _=>g b) Ay
  ·cases m with
   |false=>exact Ay
   |true=>exact Ah (λ_ _ _=>g (by cases e;exact b;exact t)) Ay
theorem jX{c:QE}{p z:Nat}{a d b:Bool}(g:((z:Int) != 0)=a)(i:decide ((c.lo:Int)<p)=d)(j:decide ((p:Int)+z<c.hi)=b):E8 (UN c p z a d b):=by
 refine AA (λ_ _ _=>Am Value.bool g) ?_;have k: ∀{n:Nat} {e:List Nat→List Nat→List Obj→Value×Value},(∀l m o,(e l m o).1=(e l m o).2)→E8 (Cd n e):=λh f r=>List.eq_of_mem_replicate r▸h;clear g;cases a with
 |false=>exact Bp
 |true=>
  refine UP (UP (k λ_ _ _=>Am Value.bool i) (k λ_ _ _=>Am Value.bool j)) ?_;clear i j;cases b with
  |false=>exact Bp
  |true=>exact AA (λ_ _ _=>rfl) (AA (λ_ _ _=>rfl) Bp)
theorem UR{w:Aa}{A:Al}(m:A.handled=none)(o:A.depth≤570)(s:A.units≤3400){K:QK}(H:Lt K.a)(I:Lt K.b):
  ∀(k:Nat) (Q:List QE) (B:List BE) (v:Bool) (T:TT) (n a:Nat) (D:List QE),mu Q<k→mu Q+B.length≤8→(∀c∈Q,c.lo<c.hi∧c.hi≤8)→
   RunsW w A (Mm Mo (Mn K.f)) (KA w K v T n a Q B++QL D) λr t u=>OF w K v k Q B D r t
 |0,_,_,_,_,_,_,_,y,_,_=>absurd y (J7 _)
 |k+1,[],B,v,T,n,a,D,_,_,_=>by
  rw[KA,Dt];refine Md (Bc (jL w K.f K.q K.m K.mb K.tb K.ta n K.e _ _) [] m o s AR Ar (Φ:=λr t u=>r= .ok .next∧t=HJ w.2 K v T [] n) λb i d=>⟨rfl,rfl⟩) λr L u h=> ?_;exact⟨h.1,v,T,n,a,B,[],λh=>h.elim (absurd rfl) id,λc V e=>(nomatch e),(Am (· ++_) h.2).trans (Dt _ _ _).symm,rfl⟩
 |k+1,c::Q,B,v,T,n,a,D,y,P,g=>by
  obtain⟨C,ch⟩:=g c (.head _);obtain⟨_,E⟩:=Qu K.a K.b (Bw C);have g: ∀e∈Q,e.lo<e.hi∧e.hi≤8:=λe F=>g e (.tail _ F);have X:=jV g;have R:mu (c::Q)=c.hi-c.lo+mu Q:=rfl;rw[R]at y P;have J:(HH Q.reverse).length≤8:=by rw[BZ,List.length_reverse];(first|lia|omega)
  have M:(G0 B).length≤8:=by rw[BZ];(first|lia|omega)
  have N:HH (c::Q).reverse=HH Q.reverse++[.ref c.x]:=by rw[List.reverse_cons];exact BC
  rw[KA,N];have W:=jX (c:=c) (p:=Em K.a K.b c.lo c.hi) (z:=En K.a K.b c.lo c.hi) rfl rfl rfl;refine ER (jK w K v T (HH Q.reverse) (G0 B) n a c _ _ _ _ _) ((QL Q++BL B)++QL D) (jO _ _ _ _ _) [] m o s (Az _ _ (jW H I rfl rfl C ch J M)) (Bi _ _ W) (λb i d=> ?_) (jS _ _ _);obtain⟨S,U,O,G⟩:=jR rfl rfl E.p1 E.p2 C ch rfl rfl rfl b i d;clear W E J M N;generalize JH c _ _ _ _ _ b i d=j at S O G⊢;generalize Kz _ _ _ b d=l at U G⊢;have Y:mu (j.reverse++Q)=mu j+mu Q:=by
   rw[jN];unfold mu;rw[List.map_reverse,List.sum_reverse]
  have Z:(B++l).length=B.length+l.length:=EH;refine⟨_,?_,(UR m o s H I k (j.reverse++Q) (B++l) true (UO v T c (Em K.a K.b c.lo c.hi) (En K.a K.b c.lo c.hi) b i d) (n+1+j.length) (a+l.length) (c::D) (by (first|lia|omega)) (by (first|lia|omega)) λe F=>(List.mem_append.mp F).elim (λh=>O e (List.mem_reverse.mp h)) (g e)).mono λr L u h=>h.up (G k _ _)⟩;rw[KA,jT,jU];refine jP ?_ (UQ _ _);unfold QL;rw[BC,List.map_reverse];exact(GD _).symm.append_right _
noncomputable abbrev Qx:Expr:=sk (AF (AO (DY 17)) 0) 0 [1]
noncomputable abbrev US(f a c:Nat):Env:={scope:={Fp Qx with names:=[(Hy,.local),(BW,.local),(GP,.cell)]},locals:=a,globals:=3,cells:=[(GP,c)],qual:=⟨⟨[95,108,97,119,95,116,101,120,116,46,60,108,111,99,97,108,115,62,46]⟩⟩,func:=none,code:=.ref 306,frame:=some f,builtins:=0}
noncomputable abbrev c_text(f b c d a:Nat):Code:=.compLoop Qx 0 (.ref d) (.ref a) (US f b c)
noncomputable abbrev As(a:Nat):=ce (some (.ref a))
noncomputable abbrev L_text(g c b a d:Nat)(e h:List Value)(n m k j:Nat)(o:Obj):Ae:=[(g,li e n),(c,As g),(b,fi Ez [.int k 0,.int j 0,.int 1 0]),(a,li h m),(d,o)]
noncomputable def ch(b:Bool)(k:Nat):Nat:=cond b (65+k) (97+k)
noncomputable abbrev OG(g c:Nat)(d e:List Value)(n m k:Nat)(b:Bool):List (Nat×(List Nat→List Nat→List Obj→Ak)):=
 [(1,λ_ a _=>(EQ g d n k (a.getD 0 0) b).at [0]),(1,λ_ a _=>(Ck c e m (.str ⟨⟨[ch b k]⟩⟩ (a.getD 3 0))).at [3])]
inductive ClK (P:Aj):Nat→Obj→Prop
 |no:ClK P 0 (di [] 0)
 |yes (k t1 t2:Nat):ClK P (k+1) (di [Aq P BW t1 (.int k t2)] 1)
theorem jY(w:Aa)(g f c d a e:Nat)(i l:List Value)(n m:Nat)(b:Bool)(k j:Nat)(h:k+j=7)(r:Nat)(s:Int)(t:Nat):
  AD w 60 (c_text f e c d a) (L_text g c d a e i l n m k (j+1) (di [Ad w BW r (.int s t)] 1)) [3,3,3,3,3,3,3,3,3,0,5,5,5,2,1,1,5] (OG g a i l n m k b) [] 0 720 5000 [0,1,2,3,4]
   (λu o v=>.again (c_text f e c d a)) (λu o v=>L_text g c d a e i (l++[.str ⟨⟨[ch b k]⟩⟩ (o 3)]) n (m+1) (k+1) j (di [Ad w BW r (.int k (o 0))] 1)) 4:=by
 obtain rfl:j=7-k:=by (first|lia|omega)
 have y:k<8:=by (first|lia|omega)
 clear h;revert b;revert k;exact Tz 8 (by kernel_rfl)
theorem jZ(w:Aa)(g f c d a e:Nat)(l o:List Value)(n m:Nat)(b:Bool)(k j:Nat)(h:k+j=7):
  AD w 60 (c_text f e c d a) (L_text g c d a e l o n m k (j+1) (di [] 0)) [3,3,3,3,3,3,3,3,3,0,5,5,5,2,1,1,5] (OG g a l o n m k b) [] 0 720 5000 [0,1,2,3,4]
   (λr i s=>.again (c_text f e c d a)) (λr i s=>L_text g c d a e l (o++[.str ⟨⟨[ch b k]⟩⟩ (i 3)]) n (m+1) (k+1) j (di [Ad w BW (i 1) (.int k (i 0))] 1)) 4:=by
 obtain rfl:j=7-k:=by (first|lia|omega)
 have t:k<8:=by (first|lia|omega)
 clear h;revert b;revert k;exact Tz 8 (by kernel_rfl)
theorem uC(w:Aa)(g f c b a d:Nat)(e h:List Value)(n m:Nat)(o:Obj):
  AD w 60 (c_text f d c b a) (L_text g c b a d e h n m 8 0 o) [3,3,3,3,3,7] [] [] 0 720 5000 [0,1,2,3,4] (λi j k=>.done .next) (λi j k=>L_text g c b a d e h n m 8 0 o) 0:=by
 kernel_rfl
noncomputable def chOf(a:List Int)(k:Nat):Nat:=ch (decide ((k:Int)∈a)) k
noncomputable def Mp(a:List Int):Nat→List Nat→List Value
 |_,[]=>[]
 |k,t::b=>.str ⟨⟨[chOf a k]⟩⟩ t::Mp a (k+1) b
noncomputable abbrev KB:=fi Ez [.int 8 0,.int 0 0,.int 1 0]
theorem uD{w:Aa}{A:Al}(B:A.handled=none)(C:A.depth≤720)(D:A.units≤5000){g f c d a e:Nat}{h:List Value}{n:Nat}{u:List Int}(L:AV h u):
  ∀(j k:Nat),k+j=8→ ∀(b:List Value) (m:Nat) (o:Obj),ClK w.2 k o→b.length+j≤100→RunsW w A (c_text f e c d a) (L_text g c d a e h b n m k j o)
   λr v i=>r= .ok .next∧i.length=j∧Ew λo1 l s=>v=[(g,li h n),(c,As g),(d,o1),(a,li (b++Mp u k i) (m+j)),(e,di [Ad w BW l (.int 7 s)] 1)]:=by
 intro j
 induction j with
 |zero=>
  intro k M b m o E N;obtain rfl:k=8:=by (first|lia|omega)
  cases E;rename_i l s;refine Bc (uC w g f c d a e h b n m _) [] B C D AR Ar λF y G=>⟨rfl,rfl,KB,l,s,?_⟩
  simp only[Mp,List.map_nil,BR,Lx];rfl
 |succ j O=>
  intro k M b m o E N;have X: ∀q∈OG g a h b n m k (decide ((k:Int)∈u)),∀H i I,Av w (q.2 H i I):=by
   intro q J H i I;simp only[OG,Jm,Jk,or_false]at J;rcases J with rfl|rfl
   ·exact Kn L rfl
   ·exact EB (by (first|lia|omega))
  have next: ∀(t:Nat) (z:Obj),ClK w.2 (k+1) z→RunsW w A (c_text f e c d a) (L_text g c d a e h (b++[.str ⟨⟨[chOf u k]⟩⟩ t]) n (m+1) (k+1) j z)
    λr v i=>r= .ok .next∧(t::i).length=j+1∧Ew λo1 l s=>v=[(g,li h n),(c,As g),(d,o1),(a,li (b++Mp u k (t::i)) (m+(j+1))),(e,di [Ad w BW l (.int 7 s)] 1)]:=λt z K=>
   (O (k+1) (by (first|lia|omega)) _ (m+1) z K (by (first|((repeat(first|exact .head _|apply List.mem_cons_of_mem));done)|simp);(first|lia|omega))).mono (by rintro r v i ⟨P,Q,o1,l,s,R⟩;exact⟨P,Am (· +1) Q,o1,l,s,by
    rw[R,Dt,show m+1+j=m+(j+1) by (first|lia|omega)];rfl⟩)
  cases E with
  |no=>exact Dz (jZ w g f c d a e h b n m _ 0 j (by (first|lia|omega))) [3] B C D X Ar λF y G=>next (y 3) _ (.yes ..)
  |yes k l s=>exact Dz (jY w g f c d a e h b n m _ (k+1) j (by (first|lia|omega)) l k s) [3] B C D X Ar λF y G=>next (y 3) _ (.yes ..)
noncomputable def Qy(P:Aj)(g f c b a e:Nat)(i:List Value)(n:Nat)(j:List Int):Ak:=
 {d:=720,u:=5000,h:=none,c:=.compStart Qx 0 (.ref b) (.ref a) (US f e c),idx:=[],pre:=L_text g c b a e i [] n 0 0 8 (di [] 0),na:=0,nt:=8,no:=3,r:=λ_ _=>.ok .next,
  outs:=λ_ t o=>[li i n,As g,o.getD 0 default,li (Mp j 0 t) 8,di [Aq P BW (Ao o 1) (.int 7 (Ao o 2))] 1],news:=λ_ _ _=>[]}
theorem uE{w:Aa}{g f c e a h:Nat}{b:List Value}{n:Nat}{d:List Int}(i:AV b d):Av w (Qy w.2 g f c e a h b n d):=by
 refine Ba.ext λA j k l=> ?_;refine IA 0 (o:=fi Ez [.int 0 0,.int 8 0,.int 1 0]) ?_ (by simp[Qy,L_text]) (by kernel_rfl) (by kernel_rfl);refine(uD l j k i 8 0 rfl [] 0 (di [] 0) .no (by decide)).mono ?_;rintro r y z ⟨m,s,o1,t,u,v⟩;refine⟨[],[o1,Ac t,Ac u],rfl,s,rfl,m,?_⟩;rw[v];rfl
noncomputable def BY(a:List Int):Str:=⟨⟨[chOf a 0,chOf a 1,chOf a 2,chOf a 3,chOf a 4,chOf a 5,chOf a 6,chOf a 7]⟩⟩
theorem uF(w:Aa)(g:Nat)(b:List Value)(n:Nat)(c:List Int):
  AD w 100 (.call (.ref 307) ⟨[.ref g],[]⟩) [(g,li b n)] [0,0,3,3,0,1,0,0,4,4,4,4,4,4,1,4,4,4,4,5,7,7,7,6,6]
   [(4,λa i j=>(Qy w.2 g (a.getD 0 0) (a.getD 1 0) (a.getD 3 0) (a.getD 4 0) (a.getD 5 0) b n c).at [0,2,4,5,6])] [] 1 620 4000 [0]
   (λe d h=>.done (.ret (.str (BY c) (d 12)))) (λe d h=>[(g,li b n)]) 13:=by
 kernel_rfl
noncomputable def KC(g:Nat)(a:List Value)(n:Nat)(b:List Int):Ak:=
 {d:=620,u:=4000,h:=none,c:=.call (.ref 307) ⟨[.ref g],[]⟩,idx:=[],pre:=[(g,li a n)],na:=0,nt:=1,r:=λ_ t=>.ok (.ret (.str (BY b) (t.getD 0 0))),outs:=λ_ _ _=>[li a n],news:=λ_ _ _=>[]}
theorem OH{w:Aa}{g:Nat}{a:List Value}{n:Nat}{b:List Int}(d:AV a b):Av w (KC g a n b):=by
 refine Ba.ext λA e h i=> ?_;refine Bc (uF w g a n b) [12] i e h (λq c j k l=> ?_) Ar λm o r=>⟨[],[],rfl,rfl,rfl,rfl,rfl⟩
 simp only[Jm,Jk,or_false]at c;subst c;exact uE d
noncomputable abbrev Qz:Expr:=sk (AF (AO (DY 21)) 0) 0 []
noncomputable abbrev UT(f a c1 b:Nat):Env:={scope:={Fp Qz with names:=[(Hy,.local),(BW,.local),(DE,.cell),(GP,.cell)]},locals:=a,globals:=3,cells:=[(GP,c1),(DE,b)],qual:=⟨⟨[95,108,97,119,95,116,117,114,110,101,100,46,60,108,111,99,97,108,115,62,46]⟩⟩,func:=none,code:=.ref 326,frame:=some f,builtins:=0}
noncomputable abbrev Mq(f b c1 c d a:Nat):Code:=.compLoop Qz 0 (.ref d) (.ref a) (UT f b c1 c)
noncomputable abbrev Gm(P:Aj)(a c:Nat)(d:Int)(b:Bool):Obj:=di (cond b [Aq P BW a (.int d c)] []) (cond b 1 0)
theorem uG(w:Aa)(g h f c1 k j a l i n s t m A B:Nat)(C:Int)(u v o:List Value)(b c d:Bool):
  AD w 40 (Mq f l c1 k j a) ([(g,li u s),(h,li v t),(c1,As g),(k,As h),(j,Bb i (n+1)),(a,li o m),(l,Gm w.2 A B C b)]) ([5,0,7,7,7,3,1,1,7,4,2,2,1]++cond (c != d) [7] []) (AB ([(0,[4]),(0,[0]),(0,[1])]++cond (c != d) [(1,[5])] []) ([λy e z=>Ft j i n,λy e z=>EQ g u s i (tk e 0) c,λy e z=>EQ h v t i (tk e 0) d]++cond (c != d) [λy e z=>Ck a o m (.int i (tk e 0))] [])) [] 0 520 3000 (.range 7)
   (λD r E=>.again (Mq f l c1 k j a)) (λD r E=>[(g,li u s),(h,li v t),(c1,As g),(k,As h),(j,Bb (i+1) n),(a,li (cond (c != d) (o++[.int i (r 0)]) o) (cond (c != d) (m+1) m)),(l,Gm w.2 (cond b A (r 1)) (r 0) i true)]) 2:=by
 revert b c d;exact xN (by kernel_rfl)
theorem uH(w:Aa)(f c1 c a b d i:Nat):
  AD w 20 (Mq f d c1 c a b) ([(a,Bb i 0)]) [1,1,1,1,1,3] [] [] 0 520 3000 [0]
   (λe g h=>.done .next) (λe g h=>[(a,Oz i)]) 0:=by
 kernel_rfl
section
noncomputable def BD:List Int→(Nat→Nat)→List Value
 |[],_=>[]
 |n::a,g=>.int n (g 0)::BD a λi=>g (i+1)
theorem JJ: ∀(a:List Int) (g:Nat→Nat),AV (BD a g) a:=by
 intro a
 induction a with
 |nil=>intro g;exact .nil
 |cons n a b=>intro g;exact .cons n (g 0) (b _)
theorem uI: ∀{a:List Value} {b:List Int},AV a b→ ∃g,a=BD b g:=by
 intro a b h
 induction h with
 |nil=>exact⟨λ_=>0,rfl⟩
 | @cons n t a b _ c=>
  obtain⟨g,rfl⟩:=c;exact⟨λi=>match i with|0=>t|i+1=>g i,rfl⟩
theorem uJ: ∀(a:List Int) (g h:Nat→Nat),(∀i,i<a.length→g i=h i)→BD a g=BD a h:=by
 intro a
 induction a with
 |nil=>intro g h _;rfl
 |cons n a b=>
  intro g h e;refine (?_:Value.int n (g 0)::BD a _=Value.int n (h 0)::BD a _);rw[e 0 (by (first|((repeat(first|exact .head _|apply List.mem_cons_of_mem));done)|simp)),b _ _ λi c=>e (i+1) (by simpa using c)]
theorem uK{a:List Value}{b:List Int}(h:AV a b)(n:Int)(t:Nat):AV (a++[.int n t]) (b++[n]):=by
 induction h with
 |nil=>exact .cons n t .nil
 |cons _ _ _ c=>exact .cons _ _ c
theorem G1{a:List Value}{b:List Int}(h:AV a b):a.length=b.length:=by
 induction h with
 |nil=>rfl
 |cons _ _ _ c=>simp[c]
theorem uL(a:List Int)(h:a.length≤8)(o1 o2 o3:Obj)(g:Nat→Nat):BD a g=BD a λi=>Ao (o1::o2::o3::(List.range 8).map λi=>Ac (g i)) (3+i):=
 uJ _ _ _ λi b=>GO 8 (f:=g) (g:=λi=>Ao (o1::o2::o3::(List.range 8).map λi=>Ac (g i)) (3+i)) rfl i (Eh b h)
theorem QA{w:Aa}{b:Bool}{a:List (List Nat→List Nat→List Obj→Ak)}(h:DF w a):DF w (cond b a []):=by
 cases b
 ·exact Ay
 ·exact h
noncomputable def Bz(p:Nat→Bool)(n:Nat):List Int:=Nat.rec [] (λi l=>cond (p i) (l++[(i:Int)]) l) n
theorem QB(p:Nat→Bool): ∀i,(Bz p i).length≤i:=by
 intro i
 induction i with
 |zero=>exact A8 0
 |succ i a=>
  show(cond (p i) (Bz p i++[(i:Int)]) (Bz p i)).length≤i+1;cases p i
  ·exact Ip a
  ·rw[cond_true,EH]
   exact Ev a
theorem OI{p:Nat→Bool}{i x:Nat}{a:List Value}(h:AV a (Bz p i)):AV (cond (p i) (a++[.int i x]) a) (Bz p (i+1))∧(Bz p (i+1)).length=cond (p i) ((Bz p i).length+1) (Bz p i).length:=by
 refine (?_:AV (cond (p i) _ a) (cond (p i) (Bz p i++[(i:Int)]) (Bz p i))∧(cond (p i) (Bz p i++[(i:Int)]) (Bz p i)).length=_);cases p i
 ·exact⟨h,rfl⟩
 ·exact⟨uK h _ _,EH⟩
section
variable (w:Aa)(A:Al)(C:Code)(G:Ae)(it acc cl:Nat)(p:Nat→Bool)
noncomputable def QD:Prop:= ∀(c:Result→Ae→List Nat→Prop) (i n m d e:Nat) (g:Int) (b:Bool) (a:List Value),i+n<8→a.length≤8→
 (∀x y,RunsW w A C (G++[(it,Bb (i+1) n),(acc,li (cond (p i) (a++[.int i x]) a) (cond (p i) (m+1) m)),(cl,Gm w.2 (cond b d y) x i true)]) c)→
 RunsW w A C (G++[(it,Bb i (n+1)),(acc,li a m),(cl,Gm w.2 d e g b)]) c
noncomputable def QF:Prop:=RunsW w A C [(it,Bb 8 0)] λr a b=>r= .ok .next∧a=[(it,KB)]
noncomputable def OJ(P:Aj)(o:List Obj):Ae:=G++[(it,o.getD 0 default),(acc,li (BD (Bz p 8) λi=>Ao o (3+i)) (Bz p 8).length),(cl,di [Aq P BW (Ao o 1) (.int 7 (Ao o 2))] 1)]
inductive UU (P:Aj) (r:Result) (L':Ae):Prop
 |mk (hr:r= .ok .next) (o:List Obj) (ho:o.length=11) (hL:L'=OJ G it acc cl p P o)
noncomputable def OK(P:Aj)(d u:Nat)(e:Expr)(a:Env):Ak:=
 {d:=d,u:=u,h:=none,c:=.compStart e 0 (.ref it) (.ref acc) a,idx:=[],pre:=G++[(it,Bb 0 8),(acc,li [] 0),(cl,di [] 0)],na:=0,nt:=0,no:=11,r:=λ_ _=>.ok .next,
  outs:=λ_ _ o=>(OJ G it acc cl p P o).map (·.2),news:=λ_ _ _=>[]}
end
section
variable {w:Aa}{A:Al}{C:Code}{G:Ae}{it acc cl:Nat}{p:Nat→Bool}
theorem uM(k:QF w A C it)(l:QD w A C G it acc cl p): ∀(n i:Nat),i+1+n=8→ ∀(d:List Value) (b c:Nat),AV d (Bz p (i+1))→
  RunsW w A C (G++[(it,Bb (i+1) n),(acc,li d (Bz p (i+1)).length),(cl,Gm w.2 b c i true)]) λr m o=>UU G it acc cl p w.2 r m:=by
 intro n
 induction n with
 |zero=>
  intro i j d b c e;obtain rfl:i=7:=Nat.succ.inj j;obtain⟨g,rfl⟩:=uI e;refine (?_:RunsW w A C (G++[(it,Bb 8 0),(acc,li (BD (Bz p 8) g) (Bz p 8).length),(cl,Gm w.2 b c (7:Nat) true)]) _);refine FN (G++[(acc,li (BD (Bz p 8) g) (Bz p 8).length),(cl,Gm w.2 b c (7:Nat) true)]) (L1:=[(it,Bb 8 0)]) (EJ (l₁:=G) (a:=(it,Bb 8 0))).symm k λr u o h=> ?_;obtain⟨s,rfl⟩:=h;refine⟨_,(EJ (l₁:=G) (a:=(it,KB))).symm,s,fi Ez [.int 8 0,.int 0 0,.int 1 0]::Ac b::Ac c::(List.range 8).map (λi=>Ac (g i)),rfl,?_⟩;rw[uL _ (QB p 8) (fi Ez [.int 8 0,.int 0 0,.int 1 0]) (Ac b) (Ac c) g];rfl
 |succ n t=>
  intro i j d b c e;refine l _ (i+1) n _ b c i true d (by (first|lia|omega)) (AC (G1 e▸QB p _) (by (first|lia|omega))) λx y=> ?_;have z:=t (i+1) (by (first|lia|omega)) _ b x (OI (x:=x) e).1;rw[(OI (x:=x) e).2]at z;exact z
theorem QG{d u:Nat}{e:Expr}{a:Env}(g:Iv e 0=true)(h: ∀A:Al,A.handled=none→A.depth≤d→A.units≤u→QF w A (.compLoop e 0 (.ref it) (.ref acc) a) it∧QD w A (.compLoop e 0 (.ref it) (.ref acc) a) G it acc cl p):Av w (OK G it acc cl p w.2 d u e a):=by
 refine Ba.ext λA j k l=> ?_;have H:=h A l j k;refine IA 0 (o:=Bb 0 8) (Φ:=λr b c=>_) ?_ (BG _ Bj) (by kernel_rfl) g;refine(Mf (Φ:=λr b c=>UU G it acc cl p w.2 r b) (H.2 _ 0 7 0 0 0 0 false [] (by decide) (by decide) λx y=> ?_)).mono λr b c hz=> ?_
 ·have z:=uM H.1 H.2 7 0 rfl _ y x (OI (p:=p) (i:=0) (x:=x) .nil).1
  rw[(OI (p:=p) (i:=0) (x:=x) .nil).2]at z;exact z
 ·obtain⟨m,v,n,o,s,t⟩:=hz
  refine⟨[],o,rfl,by rw[m];rfl,s,n,?_⟩;rw[t];refine (?_:_=Bk (G++[(it,Bb 0 8),(acc,li [] 0),(cl,di [] 0)]) ((OJ G it acc cl p w.2 o).map (·.2))++[]);rw[BR,Kx];unfold OJ;rw[BC,BC];rfl
end
noncomputable def QH(a b:List Int)(i:Nat):Bool:=decide ((i:Int)∈a) != decide ((i:Int)∈b)
noncomputable abbrev DP(a b:List Int):Nat→List Int:=Bz (QH a b)
theorem uN{w:Aa}{A:Al}(l:A.handled=none)(o:A.depth≤520)(r:A.units≤3000){d g f c1 c it acc cl s t:Nat}{h j:List Value}{a b:List Int}(u:AV h a)(v:AV j b):
  QF w A (Mq f cl c1 c it acc) it∧QD w A (Mq f cl c1 c it acc) [(d,li h s),(g,li j t),(c1,As d),(c,As g)] it acc cl (QH a b):=
 ⟨Bc (uH w f c1 c it acc cl 8) [] l o r AR Ar λy k z=>⟨rfl,rfl⟩,λJ i n m B D E e F H I K=>
  Dz (uG w d g f c1 c it acc cl i n s t m B D E h j F e (decide ((i:Int)∈a)) (decide ((i:Int)∈b))) [] l o r (Az _ _ (IG (Ah (λ_ _ _=>JE H) (Ah (λ_ _ _=>Kn u rfl) (Ah (λ_ _ _=>Kn v rfl) Ay))) (QA (Ah (λ_ _ _=>EB (AC I (by decide))) Ay)))) Ar λy k z=>K (k 0) (k 1)⟩
end
noncomputable abbrev UV(P:Aj)(c d f c1 e i g h j k:Nat)(l m:List Value)(a b:List Int):Ak:=
 OK [(c,li l j),(d,li m k),(c1,As c),(e,As d)] i g h (QH a b) P 520 3000 Qz (UT f h c1 e)
noncomputable abbrev Mr(a:Nat→Obj):=[a 0,a 1,a 2,a 3,a 4,a 5,a 6,a 7,a 8,a 9,a 10]
theorem uO(w:Aa)(d e g h:Nat)(j k:List Value)(a b:List Int):
  AD w 63 (.call (.ref 327) ⟨[.ref d,.ref e],[]⟩) ([(d,li j g),(e,li k h)]) (dg 10 0x84f0426ec0910dbee4adf) (AB [(4,[0,1,3,4,6,7,8])] ([λc o r=>UV w.2 d e (tk c 0) (tk c 1) (tk c 2) (tk c 4) (tk c 5) (tk c 6) g h j k a b])) [] 1 470 2500 [0,1,7]
   (λl n m=>.done (.ret (.ref (l 5)))) (λl n m=>[(d,li j g),(e,li k h),(l 5,li (BD (DP a b 8) λi=>Ao (Mr m) (3+i)) (DP a b 8).length)]) 3:=by
 kernel_rfl
theorem uP{w:Aa}{g h f c1 i j c k l m:Nat}{d e:List Value}{a b:List Int}(n:AV d a)(o:AV e b):Av w (UV w.2 g h f c1 i j c k l m d e a b):=
 QG (by kernel_rfl) λA r s t=>uN r s t n o
noncomputable def QI(e g j k:Nat)(l m:List Value)(a b:List Int):Ak:=
 {d:=470,u:=2500,h:=none,c:=.call (.ref 327) ⟨[.ref e,.ref g],[]⟩,idx:=[],pre:=[(e,li l j),(g,li m k)],na:=1,nt:=0,no:=11,r:=λx _=>.ok (.ret (.ref (x.getD 0 0))),
  outs:=λ_ _ _=>[li l j,li m k],news:=λ_ _ o=>[li (BD (DP a b 8) λi=>Ao o (3+i)) (DP a b 8).length]}
theorem uQ{w:Aa}{e g h i:Nat}{c d:List Value}{a b:List Int}(j:AV c a)(k:AV d b):Av w (QI e g h i c d a b):=by
 refine Ba.ext λA l m n=> ?_;exact Bc (uO w e g h i c d a b) [] n l m (Az _ _ (Ah (λ_ _ _=>uP j k) Ay)) Ar λo s r=>⟨[o 5],Mr r,rfl,rfl,rfl,rfl,rfl⟩
noncomputable abbrev QJ:Expr:=sk (AF (AO (DY 18)) 0) 0 []
noncomputable abbrev UW(f a c:Nat):Env:={scope:={Fp QJ with names:=[(Hy,.local),(BW,.local),(Gh,.cell)]},locals:=a,globals:=3,cells:=[(Gh,c)],qual:=⟨⟨[95,108,97,119,95,103,114,101,97,116,46,60,108,111,99,97,108,115,62,46]⟩⟩,func:=none,code:=.ref 311,frame:=some f,builtins:=0}
noncomputable abbrev QM(f b c d a:Nat):Code:=.compLoop QJ 0 (.ref d) (.ref a) (UW f b c)
theorem uR(w:Aa)(f c e a g i n m t o r:Nat)(s:Int)(x:Nat→Nat)(h:List Value)(b q:Bool):
  AD w 35 (QM f g c e a) ([(c,ce (some (AH x t))),(e,Bb i (n+1)),(a,li h m),(g,Gm w.2 o r s b)]) ([2,0,4,4,1,4,4,1]++cond q [4] []) (AB ([(0,[1]),(0,[]),(0,[])]++cond q [(1,[2])] []) ([λj d k=>Ft e i n,λj d k=>Ce x t i (tk d 0),λj d k=>Ce (λi=>65+i) (tk d 3) i (tk d 0)]++cond q [λj d k=>Ck a h m (.int i (tk d 0))] [])) (Bh [0] [λj d k=>(.bool ((c1 (x i)).cps.toList==(c1 (65+i)).cps.toList),.bool q)]) 0 520 3000 [0,1,2,3]
   (λu l v=>.again (QM f g c e a)) (λu l v=>[(c,ce (some (AH x t))),(e,Bb (i+1) n),(a,li (cond q (h++[.int i (l 0)]) h) (cond q (m+1) m)),(g,Gm w.2 (cond b o (l 1)) (l 0) i true)]) 5:=by
 revert b q;exact PY (by kernel_rfl)
theorem uS(w:Aa)(f c a b d i:Nat):
  AD w 20 (QM f d c a b) ([(a,Bb i 0)]) [1,1,1,1,1,3] [] [] 0 520 3000 [0]
   (λe g h=>.done .next) (λe g h=>[(a,Oz i)]) 0:=by
 kernel_rfl
noncomputable def QN(x:Nat→Nat)(i:Nat):Bool:=x i==65+i
noncomputable abbrev Ec(x:Nat→Nat):Nat→List Int:=Bz (QN x)
noncomputable abbrev UX(P:Aj)(f c d a b t:Nat)(x:Nat→Nat):Ak:=
 OK [(c,ce (some (AH x t)))] d a b (QN x) P 520 3000 QJ (UW f b c)
theorem uT(w:Aa)(t:Nat)(x:Nat→Nat):
  AD w 60 (.call (.ref 312) ⟨[.str (sf x) t],[]⟩) ([]) (dg 7 0x17e5a1c3109757a09) (AB [(4,[1,3,4,5])] ([λa e g=>UX w.2 (tk a 0) (tk a 1) (tk a 3) (tk a 4) (tk a 5) t x])) [] 1 470 2500 [4]
   (λb d c=>.done (.ret (.ref (b 4)))) (λb d c=>[(b 4,li (BD (Ec x 8) λi=>Ao (Mr c) (3+i)) (Ec x 8).length)]) 3:=by
 kernel_rfl
theorem uU{w:Aa}{f c b a d t:Nat}{x:Nat→Nat}:Av w (UX w.2 f c b a d t x):=
 QG (by kernel_rfl) λA j k l=>⟨Bc (uS w f c b a d 8) [] j k l AR Ar λo g r=>⟨rfl,rfl⟩,λB i n m s u v e y h z K=>
  Dz (uR w f c b a d i n m t s u v x y e (QN x i)) [] j k l (Az _ _ (IG (Ah (λ_ _ _=>JE h) (Ah (λ_ _ _=>HG (CQ (GF i n) h)) (Ah (λ_ _ _=>HG (CQ (GF i n) h)) Ay))) (QA (Ah (λ_ _ _=>EB (AC z (by decide))) Ay))))
   (Bi _ _ (AA (λ_ _ _=>Am Value.bool (Bool.and_true _)) Bp)) λo g r=>K (g 0) (g 1)⟩
noncomputable def UY(t:Nat)(x:Nat→Nat):Ak:=
 {d:=470,u:=2500,h:=none,c:=.call (.ref 312) ⟨[.str (sf x) t],[]⟩,idx:=[],pre:=[],na:=1,nt:=0,no:=11,r:=λy _=>.ok (.ret (.ref (y.getD 0 0))),
  outs:=λ_ _ _=>[],news:=λ_ _ o=>[li (BD (Ec x 8) λi=>Ao o (3+i)) (Ec x 8).length]}
theorem uV{w:Aa}{t:Nat}{x:Nat→Nat}:Av w (UY t x):=by
 refine Ba.ext λA a b c=> ?_;exact Bc (uT w t x) [] c a b (Az _ _ (Ah (λ_ _ _=>uU) Ay)) Ar λd g e=>⟨[d 4],Mr e,rfl,rfl,rfl,rfl,rfl⟩
theorem QO:Bo= .type "list_iterator":=by
 refine (?_:Value.type s3492446563574874994x13=_);rw[←e3492446563574874994x13]
noncomputable abbrev liO(l:Nat)(i:Nat):Obj:=fi Bo [.ref l,.int i 0]
noncomputable abbrev FP(a b c:Nat)(d:List Value)(e:Nat):=[(a,liO b c),(b,li d e)]
noncomputable def CW(a l i:Nat)(b:List Value)(n:Nat)(v:Value):Ak:=
 IF (.call (.builtin Oj) ⟨[.ref a],[]⟩) (FP a l i b n) [liO l (i+1),li b n] v
theorem G2{w:Aa}{b l i n:Nat}{c:List Value}{v:Value}(h:c[i]? =some v):Av w (CW b l i c n v):=by
 refine Ko λA s _ _ _ S R j=> ?_;have a:=S.mem (b,liO l i) (by (first|((repeat(first|exact .head _|apply List.mem_cons_of_mem));done)|simp));have g:=S.mem (l,li c n) (by (first|((repeat(first|exact .head _|apply List.mem_cons_of_mem));done)|simp));have d:=S.set (i:=0) rfl (f:=Obj.mapFields (·.setIfInBounds 1 (rawInt (i+1)))) (p:=(b,liO l i)) rfl;have e:Obj.mapFields (·.setIfInBounds 1 (rawInt (i+1))) (liO l i)=liO l (i+1):=by
  simp[Obj.mapFields,rawInt]
 dsimp only at a d;rw[e]at d;have k:(liO l i:Obj)={cls:=.type "list_iterator",data:=.fields #[.ref l,.int i 0]}:=by
  refine (?_:Obj.mk Bo none _ _=_);rw[QO]
 rw[k]at a;rw[BX]at g;rw[T8];refine DV slot_listiter_next.plain entry_listiter_next (slot_listiter_next.check _ _ _ _ _ _ _ _ ⟨_,a,rfl⟩ (args_listiter_next _) ?_);refine (?_:wpAny _ _ (field (.ref b) 0>>=_) _ _ s);refine Af (wpAny_field a rfl (x:=.ref l) rfl ?_);refine (?_:wpAny _ _ (if(Value.ref l==Value.none)=true then _ else _) _ _ s);rw[AI (show¬((Value.ref l==Value.none)=true)from FF)];refine (?_:wpAny _ _ (field (.ref b) 1>>=_) _ _ s);refine Af (wpAny_field a rfl (x:=.int i 0) rfl ?_);refine (?_:wpAny _ _ (seqItems? (.ref l)>>=_) _ _ s);refine Af (Dc g rfl ?_);have m:(⟨c⟩:Array Value)[i]? =some v:=by simpa using h
 simp only[J4,m];exact Af (wpAny_setField a rfl (by (first|((repeat(first|exact .head _|apply List.mem_cons_of_mem));done)|simp)) (Ap (j _ d)))
theorem uW:LT= .type "StopIteration":=by
 refine (?_:Value.type s5991306692159431302x13=_);rw[←e5991306692159431302x13]
noncomputable def Ms(b l i:Nat)(e:List Value)(n:Nat):Ak:=
 {d:=900,u:=9000,h:=none,c:=.call (.builtin Oj) ⟨[.ref b],[]⟩,idx:=[],pre:=(FP b l i e n),na:=2,nt:=0,r:=λa _=>.error (.ref (a.getD 1 0)),
  outs:=λ_ _ _=>[fi Bo [.none,.int i 0],li e n],news:=λa _ _=>[tu [] 0,fi LT [.ref (a.getD 0 0),.none,.none,.none,.bool false,.none]]}
theorem HK{w:Aa}{b l i n:Nat}{d:List Value}(t:d[i]? =none):Av w (Ms b l i d n):=by
 refine GT λA s E F u S R v=> ?_;have c:=S.mem (b,liO l i) (by simp[Ms]);have j:=S.mem (l,li d n) (by simp[Ms]);have g:=S.set (i:=0) rfl (f:=Obj.mapFields (·.setIfInBounds 0 .none)) (p:=(b,liO l i)) rfl;have e:Obj.mapFields (·.setIfInBounds 0 .none) (liO l i)=fi Bo [.none,.int i 0]:=by
  simp[Obj.mapFields]
 dsimp only at c g;rw[e]at g;have h:=g.sat.push (o:=tu [] 0) rfl;have k:=h.sat.push (o:=fi LT [.ref (s.heap.update b (Obj.mapFields (·.setIfInBounds 0 .none))).objs.size,.none,.none,.none,.bool false,.none]) rfl;have r:=(g.trans h).trans k;have y:(liO l i:Obj)={cls:=.type "list_iterator",data:=.fields #[.ref l,.int i 0]}:=by
  refine (?_:Obj.mk Bo none _ _=_);rw[QO]
 rw[y]at c;rw[BX]at j;refine (?_:codeAny _ _ (.call (.builtin Oj) ⟨[.ref b],[]⟩) _ s);rw[T8];refine DV slot_listiter_next.plain entry_listiter_next (slot_listiter_next.check _ _ _ _ _ _ _ _ ⟨_,c,rfl⟩ (args_listiter_next _) ?_);refine (?_:wpAny _ _ (field (.ref b) 0>>=_) _ _ s);refine Af (wpAny_field c rfl (x:=.ref l) rfl ?_);refine (?_:wpAny _ _ (if(Value.ref l==Value.none)=true then _ else _) _ _ s);rw[AI (show¬((Value.ref l==Value.none)=true)from FF)];refine (?_:wpAny _ _ (field (.ref b) 1>>=_) _ _ s);refine Af (wpAny_field c rfl (x:=.int i 0) rfl ?_);refine (?_:wpAny _ _ (seqItems? (.ref l)>>=_) _ _ s);refine Af (Dc j rfl ?_);have B:(⟨d⟩:Array Value)[i]? =none:=by simpa using t
 simp only[J4,B];refine Af (FI (Af (wpAny_setField c rfl (by (first|((repeat(first|exact .head _|apply List.mem_cons_of_mem));done)|simp)) ?_)));refine (?_:wpAny _ _ (newExc (.type "StopIteration") []>>=_) _ _ _);refine Af ?_;simp only[newExc,newTuple];refine Af (wpAny_newObj_type ?_ (by size_fits));refine Af (m:=firstArgMember _ _) (GI (a:=Value.none) (by first|rfl|(simp only[firstArgMember];rfl)) ?_);refine wpAny_newObj_type ?_ (by size_fits);simp only[raiseNew];refine Af (wpAny_handled ?_);rw[show A.in1.handled=none from u];refine Af (Ap (wpAny_throw ?_));have C:(tu [] 0:Obj)={cls:=.type "tuple",data:=.seq ([]:List Value).toArray}:=JF [] 0;have D: ∀a,(fi LT [.ref a,.none,.none,.none,.bool false,.none]:Obj)={cls:=.type "StopIteration",data:=.fields #[.ref a,.none,.none,.none,.bool false,.none]}:=λa=>by
  refine (?_:Obj.mk LT none _ _=_);rw[uW]
 have z:=v _ [(s.heap.update b (Obj.mapFields (·.setIfInBounds 0 .none))).objs.size,((s.heap.update b (Obj.mapFields (·.setIfInBounds 0 .none))).push (tu [] 0)).objs.size] [] [] rfl rfl rfl r (A8 _);dsimp only at z⊢;rw[D,C]at z;exact z

section
noncomputable def KasT.good{b:Type}(n:Nat)(r:Nat→Nat):PySem.W.KasT b→(b→Prop)→Prop
 | .ret a,Q=>Q a
 | .ask i j k,Q=>i<n∧j<n∧i≠j∧KasT.good n r (k (decide (r i<r j))) Q
theorem KasT.good_bind{b c:Type}{n:Nat}{r:Nat→Nat}{f:b→PySem.W.KasT c}{Q:c→Prop}: ∀t:PySem.W.KasT b,KasT.good n r t (λa=>KasT.good n r (f a) Q)→KasT.good n r (t.bind f) Q
 | .ret _,h=>h
 | .ask i j k,h=>⟨h.1,h.2.1,h.2.2.1,KasT.good_bind _ h.2.2.2⟩
theorem KasT.wp_of_good{d:Type}{c:Nat→Nat→(Bool→Ab→Prop)→Ab→Prop}{n:Nat}{r:Nat→Nat}(I:Ab→Prop)(g: ∀i j (C:Bool→Ab→Prop) s,i<n→j<n→i≠j→I s→(∀b,I b→C (decide (r i<r j)) b)→c i j C s){G:d→Prop}{Q:d→Ab→Prop}(l: ∀a b,G a→I b→Q a b):
  ∀(t:PySem.W.KasT d) (s:Ab),KasT.good n r t G→I s→t.kasWp c Q s
 | .ret a,s,h,e=>l a s h e
 | .ask i j k,s,h,e=>g i j _ s h.1 h.2.1 h.2.2.1 e λb m=>KasT.wp_of_good I g l (k (decide (r i<r j))) b h.2.2.2 m
noncomputable def PA(n:Nat)(p:Array Nat):Prop:=p.toList.Perm (List.range n)
theorem PA.size{n:Nat}{p:Array Nat}(h:PA n p):p.size=n:=by
 have:=h.length_eq;simpa using this
theorem gD{p:Array Nat}{i:Nat}(h:i<p.size):p.getD i 0=p[i]:=by simp[Array.getD,h]
theorem PA.lt{n:Nat}{p:Array Nat}(h:PA n p){i:Nat}(a:i<n):p.getD i 0<n:=by
 have b:i<p.size:=by rw[h.size];exact a
 rw[gD b];have:p[i]∈p.toList:=by (first|((repeat(first|exact .head _|apply List.mem_cons_of_mem));done)|simp)
 simpa using h.mem_iff.mp this
theorem PA.inj{n:Nat}{p:Array Nat}(h:PA n p){i j:Nat}(c:i<n)(d:j<n)(e:p.getD i 0=p.getD j 0):i=j:=by
 have g:p.toList.Nodup:=h.nodup_iff.mpr J5;have a:i<p.size:=by rw[h.size];exact c
 have b:j<p.size:=by rw[h.size];exact d
 rw[gD a,gD b]at e;exact(Lp (h₀:=by simpa using a) (h₁:=by simpa using b) g).mp (by simpa using e)
section
variable {n:Nat}{r:Nat→Nat}(hr: ∀i j,i<n→j<n→r i=r j→i=j)
noncomputable abbrev rk(r:Nat→Nat)(p:Array Nat)(i:Nat):Nat:=r (p.getD i 0)
noncomputable def Up(r:Nat→Nat)(p:Array Nat)(m:Nat):Prop:= ∀i j,i<j→j<m→rk r p i<rk r p j
noncomputable def Dn(r:Nat→Nat)(p:Array Nat)(m:Nat):Prop:= ∀i j,i<j→j<m→rk r p j<rk r p i
theorem Mt{p q:Array Nat}{i j:Nat}(h:p[i]? =q[j]?):p.getD i 0=q.getD j 0:=by
 rw[Array.getD_eq_getD_getElem?,Array.getD_eq_getD_getElem?,h]
theorem UZ{p:Array Nat}{a d:Nat}(g:a<p.size)(h:d≤a)(k:Nat):
  rk r (bubble p a d) k=if k=a-d then rk r p a else if a-d<k∧k≤a then rk r p (k-1)else rk r p k:=by
 have e:=getElem?_bubble g d h k;unfold rk
 by_cases b:k=a-d
 ·rw[AS b]at e⊢;rw[Mt e]
 ·rw[AI b]at e⊢
  by_cases c:a-d<k∧k≤a
  ·rw[AS c]at e⊢;rw[Mt e]
  ·rw[AI c]at e⊢;rw[Mt e]
theorem U0{p:Array Nat}{j:Nat}(b:j≤p.size)(k:Nat):rk r (kas_rev p 0 j) k=if k<j then rk r p (j-1-k)else rk r p k:=by
 have e:=getElem?_mirror_all (xs:=p) (i:=0) b k;unfold rk kas_rev
 by_cases a:k<j
 ·rw[AS ⟨B8 _,a⟩,Hq]at e
  rw[AS a,Mt e]
 ·rw[AI (λh=>a h.2)]at e
  rw[AI a,Mt e]
include hr
theorem QP{p:Array Nat}(h:PA n p){i j:Nat}(a:i<n)(b:j<n)(e:i≠j):rk r p i≠rk r p j:=λq=>
 e (h.inj a b (hr _ _ (h.lt a) (h.lt b) q))
theorem QQ{p:Array Nat}(h:PA n p): ∀(f m:Nat) (Q:Nat→Prop),1≤m→m+f=n→Up r p m→(∀d,m≤d→d≤n→Up r p d→(d=n∨rk r p d<rk r p (d-1))→Q d)→KasT.good n r (kas_asc p f m) Q
 |0,m,Q,v,g,k,t=>t m (A8 _) (Kb g) k (.inl g)
 |f+1,m,Q,v,g,k,t=>by
  obtain⟨q,rfl⟩:=Le v;have o:q+1<n:=g▸Nz (GH f);have u:=Nat.lt_of_succ_lt o;refine⟨h.lt o,h.lt u,λe=>absurd (h.inj o u e) (NH q),?_⟩
  by_cases c:rk r p (q+1)<rk r p q
  ·rw[show decide (r (p.getD (q+1) 0)<r (p.getD (q+1-1) 0))=true from CD c]
   exact t (q+1) (A8 _) (Bw o) k (.inr c)
  ·rw[show decide (r (p.getD (q+1) 0)<r (p.getD (q+1-1) 0))=false from BH c]
   have l:rk r p q<rk r p (q+1):=Im (FG c) (QP hr h u o (CS (Hn q)));refine QQ h f (q+1+1) Q (Nat.le_add_left 1 _) ((Lk _ 1 f).trans g) (λi j s w=> ?_) λd a b=>t d (Nat.le_of_succ_le a) b;rcases Je (Ei w)with e|e
   ·exact k i j s e
   ·rw[e]at s⊢
    rcases Je (Ei s)with e|e
    ·exact DC (k i q e (Hn q)) l
    ·rw[e];exact l
theorem U1{p:Array Nat}(h:PA n p): ∀(f m:Nat) (Q:Array Nat×Nat×Nat→Prop),1≤m→m+f=n→Dn r p m→(∀g,m≤g→g≤n→Dn r p g→Q (p,g,0))→KasT.good n r (kas_desc f p m 0) Q
 |0,m,Q,v,t,k,u=>u m (A8 _) (Kb t) k
 |f+1,m,Q,v,t,k,u=>by
  obtain⟨q,rfl⟩:=Le v;have d:q+1<n:=t▸Nz (GH f);have o:=Nat.lt_of_succ_lt d;refine⟨h.lt d,h.lt o,λe=>absurd (h.inj d o e) (NH q),?_⟩
  by_cases c:rk r p (q+1)<rk r p q
  ·rw[show decide (r (p.getD (q+1) 0)<r (p.getD (q+1-1) 0))=true from CD c]
   refine U1 h f (q+1+1) Q (Nat.le_add_left 1 _) ((Lk _ 1 f).trans t) (λi j s y=> ?_) λg a b=>u g (Nat.le_of_succ_le a) b;rcases Je (Ei y)with e|e
   ·exact k i j s e
   ·rw[e]at s⊢
    rcases Je (Ei s)with e|e
    ·exact DC c (k i q e (Hn q))
    ·rw[e];exact c
  ·rw[show decide (r (p.getD (q+1) 0)<r (p.getD (q+1-1) 0))=false from BH c]
   have w:=CS (Hn q);have l:rk r p q<rk r p (q+1):=Im (FG c) (QP hr h o d w);refine⟨h.lt o,h.lt d,λe=>absurd (h.inj o d e) w,?_⟩;rw[show decide (r (p.getD (q+1-1) 0)<r (p.getD (q+1) 0))=true from CD l];exact u (q+1) (A8 _) (Bw d) k
theorem PA.rev{p:Array Nat}(h:PA n p)(j:Nat):PA n (kas_rev p 0 j):=
 (Array.perm_iff_toList_perm.mp (mirror_perm p 0 j _)).trans h
theorem PA.bub{p:Array Nat}(h:PA n p)(k d:Nat):PA n (bubble p k d):=
 (Array.perm_iff_toList_perm.mp (bubble_perm p k d)).trans h
theorem uX(d:1≤n){Q:Nat×Array Nat→Prop}{p:Array Nat}(h:PA n p)(k: ∀m l,PA n l→1≤m→m≤n→Up r l m→Q (m,l)):KasT.good n r (kas_count n p) Q:=by
 refine KasT.good_bind _ (QQ hr h (n-1) 1 _ (A8 _) (ND d) (λi j a b=>absurd (Eh a (Ei b)) (J7 i)) λm a b o A=> ?_)
 by_cases e:m=n
 ·rw[AS (by simpa using e)]
  exact k m p h a b o
 ·rw[AI (by simpa using e)]
  have B:=A.resolve_left e
  by_cases g:m> 1
  ·rw[AS g]
   obtain⟨q,rfl⟩:=Le a;have s:=Lg g;refine⟨h.lt d,h.lt b,λe=>absurd (h.inj d b e) (CS s),?_⟩;rw[show decide (r (p.getD 0 0)<r (p.getD (q+1-1) 0))=true from CD (o 0 q s (Hn q))];exact k _ p h a b o
  ·obtain rfl:m=1:=Jl (FG g) a
   rw[AI g];refine KasT.good_bind _ (U1 hr h (n-(1+1)) (1+1) _ (by decide) (ND (Im d e)) (λi j x y=> ?_) λc x y C=> ?_)
   ·obtain rfl:j=1:=Jl (Ei y) (CQ (B8 i) x)
    obtain rfl:i=0:=Jl (Ei x) (B8 i);exact B
   ·rw[AI (by (first|((repeat(first|exact .head _|apply List.mem_cons_of_mem));done)|simp))]
    have x:=Nat.le_of_succ_le x;refine KasT.good_bind _ (QQ hr (PA.rev hr h c) (n-c) c _ x (ND y) (λi j u v=> ?_) λt u v w _=>k t _ (PA.rev hr h c) (AC x u) v w);have z:c≤p.size:=by rw[h.size];exact y
    rw[U0 z,U0 z,AS (DC u v),AS v];exact C _ _ (Jd (Eh u (Nat.le_pred_of_lt v)) u) (CQ (Nat.sub_le _ _) (Nat.sub_lt x Nat.one_pos))
theorem QR{p:Array Nat}(h:PA n p){k:Nat}(d:k<n)(s:Up r p k): ∀(f l u:Nat) (Q:Nat→Prop),l≤u→u≤k→u≤l+f→(∀i,i<l→rk r p i<rk r p k)→(∀i,u≤i→i<k→rk r p k<rk r p i)→
  (∀l,l≤k→(∀i,i<l→rk r p i<rk r p k)→(∀i,l≤i→i<k→rk r p k<rk r p i)→Q l)→KasT.good n r (kas_place p k f l u) Q
 |0,l,u,Q,w,g,y,t,v,o=>by
  obtain rfl:l=u:=Jl w y;exact o l g t v
 |f+1,l,u,Q,w,g,y,t,v,o=>by
  unfold kas_place
  by_cases e:l≥u
  ·rw[AS e]
   obtain rfl:l=u:=Jl w e;exact o l g t v
  ·rw[AI e]
   obtain⟨m,C,D,z⟩: ∃m,(l+u)/2=m∧l≤m∧m<u:=⟨_,rfl,by (first|lia|omega),by (first|lia|omega)⟩
   simp only[C];have mk:=Eh z g;have A:=DC mk d;refine⟨h.lt d,h.lt A,λe=>absurd (h.inj d A e) (EZ mk),?_⟩
   by_cases c:rk r p k<rk r p m
   ·rw[show decide (r (p.getD k 0)<r (p.getD m 0))=true from CD c]
    refine QR h d s f l m Q D (Bw mk) (Ei (Eh z y)) t (λi a b=> ?_) o;rcases Nat.eq_or_lt_of_le a with e|e
    ·rw[←e];exact c
    ·exact DC c (s _ _ e b)
   ·rw[show decide (r (p.getD k 0)<r (p.getD m 0))=false from BH c]
    have B:rk r p m<rk r p k:=Im (FG c) (QP hr h (i:=m) (j:=k) A d (CS mk));refine QR h d s f (m+1) u Q z g (by (first|lia|omega)) (λi a=> ?_) v o;rcases Je (Ei a)with e|e
    ·exact DC (s i _ e mk) B
    ·rw[e];exact B
theorem U2{Q:Array Nat→Prop}(v: ∀p,PA n p→Up r p n→Q p): ∀(f:Nat) (p:Array Nat) (k:Nat),PA n p→k+f=n→Up r p k→KasT.good n r (kas_bin f p k) Q
 |0,p,k,h,o,d=>v p h (show Up r p n from(show k=n from o)▸d)
 |f+1,p,k,h,o,d=>by
  have w:k<n:=o▸Nz (GH f);refine KasT.good_bind _ (QR hr h w d k 0 k _ (B8 k) (A8 k) (Kb (Hq k).symm) (λi a=>absurd a (J7 i)) (λi a b=>absurd b (Jj a)) λl y B C=> ?_);refine U2 v f _ (k+1) (PA.bub hr h _ _) ((Lk k 1 f).trans o) λi j a b=> ?_;have z:k<p.size:=by rw[h.size];exact w
  have A:=Nat.sub_le k l;rw[UZ z A,UZ z A,Nat.sub_sub_self y];obtain⟨q,rfl⟩:=Le (CQ (B8 i) a);have c:=Ei b
  by_cases g:i=l
  ·rw[AS g,AI (λe=>EZ a (e.trans g.symm)),AS ⟨g▸a,c⟩]
   exact C q (g▸Ei a) c
  ·rw[AI g]
   by_cases m:l<i∧i≤k
   ·rw[AS m,AI (EZ (DC m.1 a)),AS ⟨DC m.1 a,c⟩]
    exact d _ q (Eh (Nat.sub_lt (CQ (B8 l) m.1) Nat.one_pos) (Ei a)) c
   ·rw[AI m]
    have t:i<l:=Im (FG λx=>m ⟨x,AC (Bw a) c⟩) g
    by_cases u:q+1=l
    ·rw[AS u]
     exact B i t
    ·rw[AI u]
     by_cases s:l<q+1∧q+1≤k
     ·rw[AS s]
      exact d i q (Eh t (Ei s.1)) c
     ·rw[AI s]
      exact d i _ a (Eh (Im (FG λx=>s ⟨x,c⟩) u) y)
theorem uY(k:1≤n){Q:Array Nat→Prop}(d: ∀p,PA n p→Up r p n→Q p):KasT.good n r (kas_sort n) Q:=by
 refine KasT.good_bind _ (uX hr k (by simp[PA]) λm c g a b h=> ?_);refine (?_:KasT.good n r (if m<n then kas_bin (n-max m 1) c (max m 1)else .ret c) Q)
 by_cases e:m<n
 ·rw[AS e]
  rw[show max m 1=m by (first|lia|omega)];exact U2 hr d (n-m) c m g (by (first|lia|omega)) h
 ·rw[AI e]
  obtain rfl:m=n:=by (first|lia|omega)
  exact d c g h
end
end
noncomputable abbrev ET(a:Addr)(b:Bool):Sem AE:=Builtin.«list.sort» ⟨[.ref a],[(Str.ofString "reverse",.bool b)]⟩
theorem uZ(a:Addr):Builtin.«list.sort» ⟨[.ref a],[]⟩=ET a false:=by
 rw[list_sort_plain,ET,list_sort_rev];rfl
theorem U3(a:Addr)(b:Bool):Builtin.«list.sort» ⟨[.ref a],[(Str.ofString "key",.none),(Str.ofString "reverse",.bool b)]⟩=ET a b:=by
 rw[ET,list_sort_rev];rfl
theorem OL{w:Aa}{A:Al}{E:Value→Ab→Prop}{a n:Nat}{c:List Value}{b:Bool}{F:Ae}{κ:SortKind}{r:Nat→Nat}(h2:2≤c.length)(ae:c.length<64)
  (hr: ∀i j,i<c.length→j<c.length→r i=r j→i=j)
  (hk: ∀(s:Ab) (Q:SortKind→Ab→Prop),An (kt w) s ((a,li [] (n+1))::F)→Q κ s→wpAny (model pw w) A (keyKind' c.toArray) Q E s)
  (hc: ∀(i j:Nat) (s:Ab) (C:Bool→Ab→Prop),i<c.length→j<c.length→i≠j→An (kt w) s ((a,li [] (n+1))::F)→(∀d,Ag (kt w) s d ((a,li [] (n+1))::F) ((a,li [] (n+1))::F)→C (decide (r i<r j)) d)→
   wpAny (model pw w) A (keyLt' κ ((katRev b c).getD i .none) ((katRev b c).getD j .none)) C (λ_ _=>False) s)
  {s:Ab} (S:An (kt w) s ((a,li c n)::F)) {P:AE→Ab→Prop}
  (h: ∀(d:Ab) (p:Array Nat),PA c.length p→Up r p c.length→Ag (kt w) s d ((a,li c n)::F) ((a,li (katRev b (p.toList.map λi=>(katRev b c).getD i .none)) (n+2))::F)→P (.done (.ret .none)) d):
  wpAny (model pw w) A (ET a b) P E s:=by
 have O:=S.mem (a,li c n) (by (first|((repeat(first|exact .head _|apply List.mem_cons_of_mem));done)|simp));have z:=S.set (i:=0) rfl (f:=Obj.mapSeq λ_=>(#[]:Array Value)) (p:=(a,li c n)) rfl;have e1:Obj.mapSeq (λ_=>(#[]:Array Value)) (li c n)=li [] (n+1):=by
  unfold Obj.mapSeq;dsimp only;have:((#[]:Array Value).size==(⟨c⟩:Array Value).size)=false:=by
   show((0:Nat)==c.length)=false;exact beq_eq_false_iff_ne.mpr (by (first|lia|omega))
  rw[this];rfl
 dsimp only at O z;rw[e1]at z;have U:=z.sat.mem (a,li [] (n+1)) (by simp[Ey]);rw[BX]at O U;rw[ET,list_sort_rev];refine Af (listItems_at O rfl ?_);refine Af (listUpdate_at O rfl ?_ (by refine (?_:c.length≤_);rw[sizeLine_eq];(first|lia|omega)) (B8 _));refine Af (seqEpoch_at U rfl ?_);refine Af (wpAny_newTuple ?_ (by refine (?_:c.length≤_);rw[sizeLine_eq];(first|lia|omega)));refine Af (wpAny_newList ?_ (B8 _));refine Dl ?_;have V: ∀{s1:Ab} {B:Ae} {o:Obj},o.isFreed=false→An (kt w) s1 B→Ag (kt w) s1 {s1 with heap:=s1.heap.push o} B B:=λ {s1 B o} hf S1=>by
  have x:=S1.push (o:=o) hf;have x':=x.pick (is:=List.range B.length) (L'':=B) ?_ ?_
  ·exact x'
  ·have key: ∀(L:Ae) (M:Ae) (k:Nat),(∀i,DM M (k+i)=DM (L++[(s1.heap.objs.size,o)]) i)→pick M (List.range' k L.length)=some L:=by
    intro L
    induction L with
    |nil=>intro M k _;rfl
    |cons p l ih=>
     intro M k hM;rw[GG,NI];unfold pick;have h0:=hM 0;rw[Lx]at h0;rw[h0,ih M (k+1) (λi=>by have:=hM (i+1);rw[show k+(i+1)=k+1+i by (first|lia|omega)]at this;exact this)];rfl
   rw[Hl];exact key B _ 0 λi=>by rw[Hq]
  ·have key: ∀(m k:Nat),BS (List.range' k m)=true:=by
    intro m
    induction m with
    |zero=>intro k;rfl
    |succ m ih=>
     intro k;rw[NI];unfold BS;have:(List.range' (k+1) m).all (λj=> !Nat.beq k j)=true:=by
      rw[List.all_eq_true];intro j hj;have:=(List.mem_range'_1.mp hj).1;have:Nat.beq k j=false:=by
       rw[←Bool.not_eq_true,Nat.beq_eq];(first|lia|omega)
      rw[this];rfl
     rw[this];exact ih (k+1)
   rw[Hl];exact key _ _
 have W:=z.trans (V (o:={cls:=.type "tuple",data:=.seq (⟨c⟩:Array Value).toList.toArray}) rfl z.sat);have X:=W.trans (V (o:={cls:=.type "list",data:=.seq ([]:List Value).toArray}) rfl W.sat);generalize am:({heap:=((s.heap.update a (Obj.mapSeq λ_=>(#[]:Array Value))).push {cls:=.type "tuple",data:=.seq (⟨c⟩:Array Value).toList.toArray}).push {cls:=.type "list",data:=.seq ([]:List Value).toArray},gens:=s.gens,drawn:=s.drawn,toks:=s.toks,os:=s.os}:Ab)=R at X;have D:Ag (kt w) s R ((a,li c n)::F) ((a,li [] (n+1))::F):=X;refine(?_ :wpAny (model pw w) A _ P E R);have Y: ¬(⟨c⟩:Array Value).size<2:=by show¬c.length<2;(first|lia|omega)
 rw[AI Y,AI Y];have Z:=hk R;have kl:=kat_len b c;have fin: ∀(g:SortSt) (d:Ab) (p:Array Nat),PA c.length p→Up r p c.length→arrOf g=p.map (kas_item ((katRev b c).toArray.zip (katRev b c).toArray))→Ag (kt w) s d ((a,li c n)::F) ((a,li [] (n+1))::F)→failedOf g=none→
   wpAny (model pw w) A (do
    let K:=(←seqEpoch a) != (n+1)
    Builtin.List.listUpdate (.ref a) λ_=>if b then((arrOf g).map (·.2)).reverse else(arrOf g).map (·.2)
    if let some e:=failedOf g then rule "list.sort.comparison-raised";throw e
    if K then rule "list.sort.modified";raiseError "ValueError" "list modified during sort"
    ret .none) P E d:=by
  intro g d p hp hu ai st hf;have I:=st.sat.mem (a,li [] (n+1)) (by (first|((repeat(first|exact .head _|apply List.mem_cons_of_mem));done)|simp));have ac:(p.toList.map λi=>(katRev b c).getD i .none).length=c.length:=by rw[BZ,Lj,hp.size]
  rw[kat_snds rfl ai,kat_outs];have hz:(katRev b (p.toList.map λi=>(katRev b c).getD i Value.none)).length=c.length:=by rw[kat_len,ac]
  generalize ad:katRev b (p.toList.map λi=>(katRev b c).getD i Value.none)=J at hz;have N:=st.sat.set (i:=0) rfl (f:=Obj.mapSeq λ_=>List.toArray J) (p:=(a,li [] (n+1))) rfl;have eU:Obj.mapSeq (λ_=>List.toArray J) (li [] (n+1))=li J (n+2):=by
   unfold Obj.mapSeq;dsimp only;have:((List.toArray J).size==(⟨[]⟩:Array Value).size)=false:=by
    rw[List.size_toArray,hz];exact beq_eq_false_iff_ne.mpr (by refine (?_:c.length≠0);(first|lia|omega))
   rw[this];rfl
  dsimp only at N I;rw[eU]at N;rw[BX]at I;refine Af (seqEpoch_at I rfl ?_);refine Af (listUpdate_at I rfl ?_ (B8 _) (by rw[List.size_toArray,hz,sizeLine_eq];(first|lia|omega)));rw[hf];simp only[bne_self_eq_false,CR,if_false];exact Ap (h _ p hp hu (by rw[ad];exact st.trans N))
 have aa: ∀(Q:SortSt→Ab→Prop),(∀g d p,PA c.length p→Up r p c.length→arrOf g=p.map (kas_item ((katRev b c).toArray.zip (katRev b c).toArray))→Ag (kt w) s d ((a,li c n)::F) ((a,li [] (n+1))::F)→failedOf g=none→Q g d)→
   wpAny (model pw w) A ((sortRuns').run (SortSt.mk' κ ((katRev b c).toArray.zip (katRev b c).toArray) #[] 7 none)) (λr d=>Q r.2 d) E R:=by
  intro Q hQ;refine kat_run (G:=λp d=>(PA c.length p∧Up r p c.length)∧Ag (kt w) s d ((a,li c n)::F) ((a,li [] (n+1))::F)) rfl (by rw[kl];exact h2) (by rw[kl];exact ae) (λp g d v t y u=>hQ g d p u.1.1 u.1.2 t u.2 y) ?_;rw[kl];refine KasT.wp_of_good (n:=c.length) (r:=r) (λd=>Ag (kt w) s d ((a,li c n)::F) ((a,li [] (n+1))::F)) (λi j C d hi hj aj T hC=> ?_) (λp d hg T=>⟨hg,T⟩) _ _ (uY hr (by (first|lia|omega)) λp v t=>⟨v,t⟩) D;exact hc i j d C hi hj aj T.sat λak al=>hC ak (T.trans al)
 cases b with
 |true=>
  simp only[if_true];refine Af (FI ?_);refine Af (Z _ D.sat ?_);have ez:((⟨c⟩:Array Value).zip ⟨c⟩).reverse=(katRev true c).toArray.zip (katRev true c).toArray:=kat_pairs (ks:=c) (vs:=c) true rfl;rw[ez];exact Af (CE (aa (λg d=> ∃p,PA c.length p∧Up r p c.length∧arrOf g=p.map (kas_item ((katRev true c).toArray.zip (katRev true c).toArray))∧Ag (kt w) s d ((a,li c n)::F) ((a,li [] (n+1))::F)∧failedOf g=none) λg d p v t y u H=>⟨p,v,t,y,u,H⟩) (by rintro q d ⟨p,v,t,y,u,H⟩;exact fin q.2 d p v t y u H) λ_ _ e=>e)
 |false=>
  simp only[CR,if_false];refine Af (Z _ D.sat ?_);exact Af (CE (aa (λg d=> ∃p,PA c.length p∧Up r p c.length∧arrOf g=p.map (kas_item ((katRev false c).toArray.zip (katRev false c).toArray))∧Ag (kt w) s d ((a,li c n)::F) ((a,li [] (n+1))::F)∧failedOf g=none) λg d p v t y u H=>⟨p,v,t,y,u,H⟩) (by rintro q d ⟨p,v,t,y,u,H⟩;exact fin q.2 d p v t y u H) λ_ _ e=>e)
noncomputable def CI(c:CmpOp)(A:Al)(s:Ab)(y x:Value)(b:Bool):Prop:=
 ∀(a:Program) (w:Aa) (E:Value→Ab→Prop) (Q:Value→Ab→Prop),Q (.bool b) s→wpAny (model a w) A (richCompare c y x) Q E s
theorem CI.int_lt(A:Al)(s:Ab)(a b:Int)(t u:Nat):CI .Lt A s (.int a t) (.int b u) (decide (a<b)):=λ_ _ _ _ h=>P.lt_int h
theorem CI.str_lt(A:Al)(s:Ab)(a b:Str)(t u:Nat):CI .Lt A s (.str a t) (.str b u) (decide (a.cps.toList<b.cps.toList)):=λ_ _ _ _ h=>P.lt_str h
theorem CI.str_gt(A:Al)(s:Ab)(a b:Str)(t u:Nat):CI .Gt A s (.str a t) (.str b u) (decide (b.cps.toList<a.cps.toList)):=λ_ _ _ _ h=>P.gt_str h
theorem CI.float_lt(A:Al)(s:Ab)(a b:UInt64)(t u:Nat):CI .Lt A s (.float a t) (.float b u) (Float64.cmp a b==some Ordering.lt):=λ_ _ _ _ h=>AutoFloatOps.lt_0 h
theorem CI.float_gt(A:Al)(s:Ab)(a b:UInt64)(t u:Nat):CI .Gt A s (.float a t) (.float b u) (Float64.cmp a b==some Ordering.gt):=λ_ _ _ _ h=>AutoFloatOps.gt_0 h
inductive G3 (op:CmpOp) (A:Al) (s:Ab):List Value→List Value→Bool→Prop
 |diff {x y:Value} {xs ys:List Value} {b:Bool}:EqAt A s x y false→CI op A s x y b→G3 op A s (x::xs) (y::ys) b
 |same {x y:Value} {xs ys:List Value} {b:Bool}:EqAt A s x y true→G3 op A s xs ys b→G3 op A s (x::xs) (y::ys) b
noncomputable abbrev DG:Value:=(.bool false)
noncomputable def OM(c:CmpOp)(d:String)(x y:Value):Sem AE:=do
 let(a,[b]) ←slotArgs d 1 ⟨[x,y],[]⟩|unsupported "internal:tuple.compare"
 if !(←isInstance b (.type "tuple"))then return←ret .notImplemented
 let e←Builtin.Tuple.tupleItemsOf a;let g←Builtin.Tuple.tupleItemsOf b
 for (x,y)in e.toList.zip g.toList do
  if !(←eqBool x y)then
   match c with
   | .Eq=>return←ret DG
   | .NotEq=>return←ret IJ
   |_=>rule "tuple.compare.by-the-first-pair-that-differs";return←ret (←richCompare c x y)
 ret (Builtin.Tuple.tupleCompareSizes c e.size g.size)
theorem U4(x y:Value):Builtin.«tuple.__lt__» ⟨[x,y],[]⟩=OM .Lt "__lt__" x y:=rfl
theorem aA(x y:Value):Builtin.«tuple.__gt__» ⟨[x,y],[]⟩=OM .Gt "__gt__" x y:=rfl
theorem U5{M:Model}{A:Al}{E:Value→Ab→Prop}{s:Ab}{x:Addr}{o:Obj}{a:List Value}{n:Nat}{Q:Array Value→Ab→Prop}(b:s.heap.get? x=some o)(c:o.data= .seq ⟨a⟩ n)(h:Q ⟨a⟩ s):wpAny M A (Builtin.Tuple.tupleItemsOf (.ref x)) Q E s:=by
 unfold Builtin.Tuple.tupleItemsOf;exact Af (Dc b c (Ap h))
theorem QT{a:Program}{w:Aa}{A:Al}{E:Value→Ab→Prop}{s:Ab}{c:CmpOp}{d:String}(j:c= .Lt∨c= .Gt){x y:Addr}{l o:Obj}{e g:List Value}{n k:Nat}{b:Bool}{P:AE→Ab→Prop}
  (t:s.heap.get? x=some l) (z:l.data= .seq ⟨e⟩ n) (B:s.heap.get? y=some o) (C:o.data= .seq ⟨g⟩ k)
  (D: ∀Q:Bool→Ab→Prop,Q true s→wpAny (model a w) A (isInstance (.ref y) (.type "tuple")) Q E s)
  (F:G3 c A s e g b) (h:P (.done (.ret (.bool b))) s):wpAny (model a w) A (OM c d (.ref x) (.ref y)) P E s:=by
 unfold OM;refine Af (m:=slotArgs d 1 ⟨[.ref x,.ref y],[]⟩) (Ap ?_);dsimp only;refine Af (D _ ?_);simp only[Lv,CR,if_false];refine Af (U5 t z (Af (U5 B C ?_)));dsimp only;have key: ∀(f:Value×Value→Option AE×PUnit→Sem (ForInStep (Option AE×PUnit))) (K:Option AE×PUnit→Sem AE),(∀v u,P v s→wpAny (model a w) A (K (some v,u)) P E s)→
   (∀p q r,f (p,q) r=(do
    if !(←eqBool p q)then
     rule "tuple.compare.by-the-first-pair-that-differs"
     let v←ret (←richCompare c p q)
     pure (ForInStep.done (some v,()))
    else pure (ForInStep.yield (none,()))))→wpAny (model a w) A (forIn (e.zip g) ((none,⟨⟩):Option AE×PUnit) f>>=K) P E s:=by
  intro f K J G;refine Af ?_;clear t z B C D
  induction F with
  | @diff L M H I N i O=>
   rw[List.zip_cons_cons,List.forIn_cons,G];refine Af (Af (i a w _ _ ?_));simp only[Bool.not_false,if_true];refine Af (FI (Af (O a w _ _ (Af (Ap (Ap ?_))))));exact Ap (J _ _ h)
  | @same L M H I N i F R=>
   rw[List.zip_cons_cons,List.forIn_cons,G];refine Af (Af (i a w _ _ ?_));simp only[Lv,CR,if_false];exact Ap (R h)
 rcases j with rfl|rfl
 ·exact key _ _ (λv u h=>Ap h) (λp q r=>rfl)
 ·exact key _ _ (λv u h=>Ap h) (λp q r=>rfl)
theorem aB{j:Type}(f:j→Nat): ∀{l m:List j},l.Perm m→l.Pairwise (λa b=>f a<f b)→m.Pairwise (λa b=>f a<f b)→l=m:=by
 intro l
 induction l with
 |nil=>intro m h _ _;exact(List.nil_perm.mp h).symm
 |cons x l k=>
  intro m h c d;cases m with
  |nil=>exact absurd h.length_eq (by (first|((repeat(first|exact .head _|apply List.mem_cons_of_mem));done)|simp))
  |cons y m=>
   rw[List.pairwise_cons]at c d;have e:x=y:=by
    have g:x∈y::m:=h.mem_iff.mp Bj;have i:y∈x::l:=h.mem_iff.mpr Bj;rcases List.mem_cons.mp g with e|g
    ·exact e
    ·rcases List.mem_cons.mp i with e|i
     ·exact e.symm
     ·have a:=c.1 y i
      have b:=d.1 x g;(first|lia|omega)
   subst e;rw[k (List.Perm.cons_inv h) c.2 d.2]
theorem aC{a:Type}{d:a}{n:Nat}{B:List a}(c:B.length=n){p:Array Nat}(h:PA n p):(p.toList.map λi=>B.getD i d).Perm B:=by
 have e:(List.range n).map (λi=>B.getD i d)=B:=by
  subst c;apply Ho
  ·(first|((repeat(first|exact .head _|apply List.mem_cons_of_mem));done)|simp)
  ·intro i b g
   simp at b;simp[b]
 have:=h.map λi=>B.getD i d;rwa[e]at this
theorem aD{c:Type}{d:c}{n:Nat}{B:List c}{f:c→Nat}{p:Array Nat}(h:PA n p)(l:Up (λi=>f (B.getD i d)) p n):(p.toList.map λi=>B.getD i d).Pairwise λa b=>f a<f b:=by
 rw[GE,F9];intro i j m o e;have r:=h.size;have g:i<p.size:=by simpa using m
 have k:j<p.size:=by simpa using o
 have:=l i j e (by (first|lia|omega));unfold rk at this;rw[gD g,gD k]at this;simpa using this
theorem ON{c:Type}{d:c}{n:Nat}{B B':List c}{f:c→Nat}{p:Array Nat}(e:B.length=n)(h:PA n p)(g:Up (λi=>f (B.getD i d)) p n)(j:B'.Perm B)(k:B'.Pairwise λa b=>f a<f b):(p.toList.map λi=>B.getD i d)=B':=
 aB f ((aC e h).trans j.symm) (aD h g) k
theorem aE(w:Aa):(kt w).get 163=some (NM w.2):=by kernel_rfl
theorem aF(w:Aa):(kt w).get 162=some (NL w.2):=by kernel_rfl
noncomputable def QU(P:Aj):Frag:=[(163,NM P),(162,NL P)]
theorem U6{w:Aa}{s:Ab}{L:Ae}(S:An (kt w) s L):(QU w.2).In s.heap:=by
 refine Frag.in_of (as:=[163,162]) rfl ?_;show[s.heap.get? 163,s.heap.get? 162]=[some (NM w.2),some (NL w.2)];rw[S.old _ _ (aE w),S.old _ _ (aF w)]
theorem aG(w:Aa):peek (QU w.2) ⟨pw,w.2⟩ (isSubtype (.ref 163) (.type "tuple"))=some true:=by kernel_rfl
theorem aH(w:Aa):findIn (QU w.2) (.ref 163) (Str.ofString "__lt__")=some (some (.builtin "tuple.__lt__")):=by kernel_rfl
theorem U7{M:Model}{A:Al}{E:Value→Ab→Prop}{s:Ab}{x d p z tp a tz:Nat}{Q:Value→Ab→Prop}(b:s.heap.get? x=some (ES d p z tp a tz))(h:Q (.ref 163) s):wpAny M A (typeOf (.ref x)) Q E s:=
 Looks.here (show Looks M s.heap (typeOf (.ref x)) (ES d p z tp a tz).cls from(Looks.ld b).andThen .now) h
theorem U8{w:Aa}{A:Al}{E:Value→Ab→Prop}{s:Ab}{L:Ae}(S:An (kt w) s L){x d p z tp a tz:Nat}{Q:Bool→Ab→Prop}(b:s.heap.get? x=some (ES d p z tp a tz))(h:Q true s):wpAny (model pw w) A (isInstance (.ref x) (.type "tuple")) Q E s:=by
 unfold isInstance;exact Af (U7 b (Looks.here (Looks.of_peek (U6 S) (aG w)) h))
theorem aI{w:Aa}{A:Al}{E:Value→Ab→Prop}{s:Ab}{L:Ae}(S:An (kt w) s L)(D:A.units<cLine){x d p z tp G tz y H c I k o t:Nat}{Q:Bool→Ab→Prop}
  (m:s.heap.get? x=some (ES d p z tp G tz)) (u:s.heap.get? y=some (ES H c I k o t)) (N:p≠c) (h:Q (decide (p<c)) s):wpAny (model pw w) A (keyLt' oneType' (.ref x) (.ref y)) Q E s:=by
 rw[keyLt'_oneType,oneLt'_eq];simp only[if_true];refine Af (wpAny_cRoomFor D ?_);have e:decide ((p:Int)<c)=decide (p<c):=by (first|((repeat(first|exact .head _|apply List.mem_cons_of_mem));done)|simp)
 have i:wpAny (model pw w) A (call (.builtin "tuple.__lt__") ([.ref x]++[.ref y])) (λv a=>v= .bool (decide (p<c))∧a=s) E s:=by
  refine wpAny_call (codeAny_call_builtin_at (plainId_quiet F.slot_tuple_lt.plain _) F.entry_tuple_lt ?_);have J:builtinKind "tuple.__lt__"=some .slot:=by decide+kernel
  have K:splitId "tuple.__lt__"=some ("tuple","__lt__"):=by decide+kernel
  simp only[checkBuiltinCall,J,K];refine Af (U8 S m ?_);simp only[Lv,CR,if_false];have B:=F.args_tuple_lt_2 (.ref x) (.ref y);have fin:wpAny (model pw w) (A.under (.builtin "tuple.__lt__" ⟨[.ref x,.ref y],[]⟩)) (Builtin.«tuple.__lt__» ⟨[.ref x,.ref y],[]⟩)
    (λfin a=>match fin with| .done f=>(match(Except.ok f:Result)with| .ok (.ret v)=>v= .bool (decide (p<c))∧a=s| .ok _=>False| .error e=>E e a)| .again C=>C.quiet=true∧codeAny (model pw w) A C (λr a=>match r with| .ok (.ret v)=>v= .bool (decide (p<c))∧a=s| .ok _=>False| .error e=>E e a) a) (λe a=>E e a) s:=by
   rw[U4];refine QT (.inl rfl) m rfl u rfl (λQ h=>U8 S u h) (.diff (b:=decide ((p:Int)<c)) ?_ (CI.int_lt _ _ _ _ _ _)) ?_
   ·have:=EqAt.int_int (A:=A.under (.builtin "tuple.__lt__" ⟨[.ref x,.ref y],[]⟩)) (s:=s) p tp c k
    rwa[show(((p:Int))==c)=false from beq_eq_false_iff_ne.mpr (by (first|lia|omega))]at this
   ·rw[e];exact⟨rfl,rfl⟩
  cases n:Manifest.signature? "tuple.__lt__" with
  |none=>exact Ap fin
  |some l=>
   simp only[argsOk,n]at B;have M:Bind.checkArgs "tuple.__lt__" l ⟨[.ref x,.ref y],[]⟩=pure ():=B;refine (?_:wpAny _ _ (Bind.checkArgs "tuple.__lt__" l ⟨[.ref x,.ref y],[]⟩) _ _ s);rw[M];exact Ap fin
 have j:wpAny (model pw w) A (callSpecialIfBound? (.ref x) (Str.ofString "__lt__") [.ref y]) (λv a=>v=some (.bool (decide (p<c)))∧a=s) E s:=by
  simp only[callSpecialIfBound?,bindSpecialIfBound?];refine Dl (Af (Af (Af (U7 m ((looks_findIn (U6 S) (aH w)).here ?_)))));simp only[F.slot_tuple_lt.bind];refine Af (wpAny_askSetting (wpAny_ite ?_));have fin:wpAny (model pw w) A (call (.builtin "tuple.__lt__") ([.ref x]++[.ref y])>>=λv=>pure (some v)) (λv a=>v=some (.bool (decide (p<c)))∧a=s) E s:=Af (CE i (λv a g=>Ap ⟨Am some g.1,g.2⟩) λ_ _ g=>g)
  split
  ·exact Af (Ap (Ap fin))
  ·exact wpAny_tryCatch (Af (Ap (Ap fin)))
 refine Af (CE j (λv a g=> ?_) λ_ _ e=>e);obtain⟨rfl,rfl⟩:=g;exact wpAny_truthy_bool h
noncomputable def JK(e:BE):Obj:=ES e.d e.p e.z e.tp e.tq e.tz
noncomputable def BM(S:List BE):Ae:=S.map λe=>(e.x,JK e)
noncomputable def IP(a:List Nat)(b:List Nat):List Value:=a.map λi=>.ref (b.getD i 0)
noncomputable def U9(a n:Nat)(S:List BE)(b:List Nat):Ak:=
 {d:=900,u:=9000,h:=none,c:=.call (.builtin Km) ⟨[.ref a],[]⟩,idx:=[],pre:=(a,li (IP b (S.map BE.x)) n)::BM S,na:=0,nt:=0,
  r:=λ_ _=>.ok (.ret .none),outs:=λ_ _ _=>li (S.map λe=>.ref e.x) (n+2)::S.map JK,news:=λ_ _ _=>[]}
theorem aJ{A:Al}{u:Nat}(h:A.units≤u)(a:u+3<cLine):A.in1.units<cLine:=by
 have e:A.in1.units=A.units+1:=rfl;(first|lia|omega)
theorem Va(a:List Nat)(S:List BE)(b:BE)(h:a.Perm (List.range S.length)):IP a (S.map BE.x)=(a.map λi=>S.getD i b).map λe=>Value.ref e.x:=by
 unfold IP;rw[B0];apply DW;intro i c;have:i<S.length:=List.mem_range.mp (h.mem_iff.mp c);simp[this]
theorem aK{b:Type}(c:List Nat)(S:List b)(a:b)(h:c.Perm (List.range S.length)):(c.map λi=>S.getD i a).Perm S:=by
 have e:(List.range S.length).map (λi=>S.getD i a)=S:=by
  apply Ho
  ·(first|((repeat(first|exact .head _|apply List.mem_cons_of_mem));done)|simp)
  ·intro i d g
   simp at d;simp[d]
 have:=h.map λi=>S.getD i a;rwa[e]at this
theorem QV(B:List BE)(a:BE){i:Nat}(b:i<B.length):(B.map λe=>Value.ref e.x).getD i .none= .ref (B.getD i a).x:=by
 simp[b]
theorem aL{w:Aa}{l n:Nat}{S:List BE}{o:List Nat}(H:o.Perm (List.range S.length))(M:S.Pairwise λa b=>a.p<b.p)(W:2≤S.length)(X:S.length<64):Av w (U9 l n S o):=by
 let c:BE:=⟨0,0,0,0,0,0,0⟩
 have N:=Va o S c H;have t:=aK o S c H;generalize ac:(o.map λi=>S.getD i c)=B at N t;have E:B.length=S.length:=t.length_eq;have G: ∀{i:Nat},i<B.length→B.getD i c∈S:=λ {i} g=>by
  have:B.getD i c=B[i]:=by simp[g]
  rw[this];exact t.mem_iff.mp (Db g)
 refine GT λA s hd hu hh St R hR=> ?_;refine (?_:codeAny _ _ (.call (.builtin Km) ⟨[.ref l],[]⟩) _ s);rw[P6];have I:An (kt w) s ((l,li (B.map λe=>Value.ref e.x) n)::BM S):=by rw[←N];exact St
 have ho:=I.mem (l,li (B.map λe=>Value.ref e.x) n) (by (first|((repeat(first|exact .head _|apply List.mem_cons_of_mem));done)|simp));have J:=ho;rw[BX]at J;have O: ∀{s:Ab} {n:Nat} {Y:List Value},An (kt w) s ((l,li Y n)::BM S)→ ∀e∈S,s.heap.get? e.x=some (ES e.d e.p e.z e.tp e.tq e.tz):=λ {s n Y} m e P=>by
  exact m.mem (e.x,JK e) (BB _ (List.mem_map.mpr ⟨e,P,rfl⟩))
 refine DV slot_list_sort.plain entry_list_sort (slot_list_sort.check _ _ _ _ _ _ _ _ ⟨_,J,rfl⟩ (args_list_sort _) ?_);rw[uZ];have z:(B.map λe=>Value.ref e.x).length=S.length:=by rw[BZ,E]
 refine OL (κ:=oneType') (F:=BM S) (r:=λi=>(B.getD i c).p) (by rw[z];exact W) (by rw[z];exact X) (λi j g k e=> ?_) (λD Q m hQ=> ?_) (λi j D C g k Z m hC=> ?_) I λD p U K L=> ?_
 ·rw[z,←E]at g k
  have y:B.Pairwise (λa b=>a.p≠b.p):=by
   have:S.Pairwise (λa b=>a.p≠b.p):=M.imp λh=>CS h;exact(t.pairwise_iff λ {a b} h=>Ne.symm h).mpr this
  rw[F9]at y;have V:(B.getD i c).p=(B.getD j c).p:=e;rw[show B.getD i c=B[i] by simp[g],show B.getD j c=B[j] by simp[k]]at V;rcases Jf i j with h|h|h
  ·exact absurd V (y i j g k h)
  ·exact h
  ·exact absurd V.symm (y j i k g h)
 ·refine kas_kind (T:=.ref 163) (by rw[z];exact W) (λv hv=> ?_) (by rfl) (by rfl) hQ
  obtain⟨e,P,rfl⟩:=List.mem_map.mp hv;exact(show Looks (model pw w) D.heap (typeOf (.ref e.x)) (ES e.d e.p e.z e.tp e.tq e.tz).cls from(Looks.ld (O m e (t.mem_iff.mp P))).andThen .now)
 ·rw[z,←E]at g k
  refine (?_:wpAny _ _ (keyLt' oneType' ((B.map λe=>Value.ref e.x).getD i .none) ((B.map λe=>Value.ref e.x).getD j .none)) _ _ _);rw[QV B c g,QV B c k];refine aI m (show A.in1.units<cLine from aJ (u:=9000) hu (by decide)) (O m _ (G g)) (O m _ (G k)) (λe=> ?_) (hC D (.refl m));have y:B.Pairwise (λa b=>a.p≠b.p):=by
   have:S.Pairwise (λa b=>a.p≠b.p):=M.imp λh=>CS h;exact(t.pairwise_iff λ {a b} h=>Ne.symm h).mpr this
  rw[F9]at y;rw[show B.getD i c=B[i] by simp[g],show B.getD j c=B[j] by simp[k]]at e;rcases Jf i j with h|h|h
  ·exact y i j g k h e
  ·exact Z h
  ·exact y j i k g h e.symm
 ·rw[z]at U K
  have key:=ON (d:=c) (f:=BE.p) E U K t.symm M;have em:(p.toList.map λi=>(katRev false (B.map λe=>Value.ref e.x)).getD i .none)=S.map λe=>.ref e.x:=by
   have:(S.map λe=>Value.ref e.x)=(p.toList.map λi=>B.getD i c).map λe=>Value.ref e.x:=by rw[key]
   rw[this,B0];apply DW;intro i g;have aa:i<B.length:=by rw[E];exact List.mem_range.mp (U.mem_iff.mp g)
   exact QV B c aa
  refine hR D [] [] [] rfl rfl rfl ?_ L.toks;refine (?_:Ag (kt w) s D ((l,li (IP o (S.map BE.x)) n)::BM S) (Bk ((l,li (IP o (S.map BE.x)) n)::BM S) (li (S.map λe=>.ref e.x) (n+2)::S.map JK)++BI [] []));rw[N];have e2:Bk ((l,li (B.map λe=>Value.ref e.x) n)::BM S) (li (S.map λe=>.ref e.x) (n+2)::S.map JK)++BI [] []=(l,li (S.map λe=>Value.ref e.x) (n+2))::BM S:=by
   show(l,_)::Bk (BM S) (S.map JK)++[]=_;rw[BR];congr 1;have:=Kx (BM S) (BM S) rfl;rwa[show(BM S).map (·.2)=S.map JK by unfold BM;rw[B0];rfl]at this
  rw[e2,←em];exact L
theorem aM(w:Aa): ∃o,(kt w).get 2=some o∧(match o.data with| .dict a _=>a.all (λe=>match e.key with| .str _ _=>true|_=>false)&&(nsFind a sharingNotToldKey).isNone|_=>false)=true:=
 ⟨tw8851035615930858782 w.2,by kernel_rfl,by kernel_rfl⟩
theorem Mu{w:Aa}{s:Ab}{L:Ae}(S:An (kt w) s L):NoneBooked s.heap:=by
 obtain⟨o,e,a⟩:=aM w;have b:=S.old 2 o e;have c:s.heap.isNs 2=true:=by
  unfold Heap.isNs;rw[b];dsimp only;revert a;cases o.data <;> intro a <;> first|cases a|exact(Bool.and_eq_true_iff.mp a).1
 refine⟨_,.of_isNs c,?_⟩;unfold Heap.nsMap;have d:s.heap.get? cStatics=some o:=b;rw[d];dsimp only;revert a;cases o.data <;> intro a <;> first|cases a|exact Option.isNone_iff_eq_none.mp (Bool.and_eq_true_iff.mp a).2
theorem EqAt.float{A:Al}{s:Ab}(i:NoneBooked s.heap){a b:UInt64}{t u:Tok}(k:t≠0)(l:u≠0)(d:t≠u)(m:a=b→(Float64.cmp a b==some Ordering.eq)=true):
  EqAt A s (.float a t) (.float b u) (Float64.cmp a b==some Ordering.eq):=λg w E Q h=>by
 have c:wpAny (model g w) A (richCompare .Eq (.float a t) (.float b u)>>=λv=>truthOfDropped v) Q E s:=Af (AutoFloatOps.eq_0 (wpAny_truthy_bool h));unfold eqBool;refine Dl ?_;refine wpAny_ite_split (λj=> ?_) (λ_=> ?_)
 ·have:=eq_of_beq j
  injection this with _ h2
  exact absurd h2 d
 ·dsimp only
  refine Af ?_;refine (?_:wpAny _ A (isSame.created (a==b&& !Float64.isNaN a) t u) _ E s);unfold isSame.created;have n:(t==0||u==0)=false:=by simp[k,l]
  have o:(t==u)=false:=by simpa using d
  rw[n,o];simp only[CR,if_false];cases r:(a==b&& !Float64.isNaN a)with
  |false=>
   simp only[Bool.not_false,if_true];refine Ap ?_;simp only[CR,if_false];exact c
  |true=>
   simp only[Lv,CR,if_false];refine Af (wpAny_sharingNotTold_none i ?_);simp only[CR,if_false];refine Af (wpAny_sharingNotTold_none i ?_);simp only[CR,if_false];refine Af (FI (Af (wpAny_askSetting (Ap ?_))));dsimp only
   split
   ·refine Ap ?_
    have e:a=b:=eq_of_beq (Bool.and_eq_true_iff.mp r).1;rw[m e]at h;exact h
   ·exact c
theorem aN(x y:Addr)(a c:List Value)(n k:Nat)(b:Bool):Meets (Builtin.«tuple.__lt__» ⟨[.ref x,.ref y],[]⟩)
  (λA R s=>s.heap.get? x=some (tu a n)∧s.heap.get? y=some (tu c k)∧G3 .Lt A.in1 s a c b∧R (.ok (.ret (.bool b))) s):=λd w A R s ⟨e,hy,hl,h⟩=>by
 rw[U4];refine QT (.inl rfl) e rfl hy rfl (λQ h=>wpAny_isInstance (T:="tuple") ⟨_,hy,rfl⟩ AutoSeq1.sub_tuple_tuple h) hl h
theorem aO(x y:Addr)(a c:List Value)(n k:Nat)(b:Bool):Meets (Builtin.«tuple.__gt__» ⟨[.ref x,.ref y],[]⟩)
  (λA R s=>s.heap.get? x=some (tu a n)∧s.heap.get? y=some (tu c k)∧G3 .Gt A.in1 s a c b∧R (.ok (.ret (.bool b))) s):=λd w A R s ⟨e,hy,hl,h⟩=>by
 rw[aA];refine QT (.inr rfl) e rfl hy rfl (λQ h=>wpAny_isInstance (T:="tuple") ⟨_,hy,rfl⟩ AutoSeq1.sub_tuple_tuple h) hl h
theorem CI.tuple_lt{A:Al}{s:Ab}(g:A.units<cLine){x y:Addr}{a c:List Value}{n k:Nat}{b:Bool}(d:s.heap.get? x=some (tu a n))(e:s.heap.get? y=some (tu c k))(i:G3 .Lt A.in1 s a c b):CI .Lt A s (.ref x) (.ref y) b:=λj w E Q h=>
 richCompare_meets_room (op:=.Lt) ⟨_,d,rfl⟩ ⟨_,e,rfl⟩ F.slot_tuple_lt F.entry_tuple_lt (F.args_tuple_lt_2 _ _) (aN x y a c n k b) ⟨d,e,i,show Value.bool b≠Value.notImplemented∧Q (.bool b) s from⟨(λx=>nomatch x),h⟩⟩ g
theorem CI.tuple_gt{A:Al}{s:Ab}(g:A.units<cLine){x y:Addr}{a c:List Value}{n k:Nat}{b:Bool}(d:s.heap.get? x=some (tu a n))(e:s.heap.get? y=some (tu c k))(i:G3 .Gt A.in1 s a c b):CI .Gt A s (.ref x) (.ref y) b:=λj w E Q h=>
 richCompare_meets_room (op:=.Gt) ⟨_,d,rfl⟩ ⟨_,e,rfl⟩ F.slot_tuple_gt F.entry_tuple_gt (F.args_tuple_gt_2 _ _) (aO x y a c n k b) ⟨d,e,i,show Value.bool b≠Value.notImplemented∧Q (.bool b) s from⟨(λx=>nomatch x),h⟩⟩ g
set_option maxHeartbeats 1000000
theorem aP{a:List Nat}{n:Nat}(h:a.Perm (List.range n)):(0::a.map (· +1)).Perm (List.range (n+1)):=by
 rw[Px];exact(h.map _).cons _
theorem Vb{b:Type}(c:List Nat)(S:List b)(a:b)(h:c.Perm (List.range S.length)):(c.map λi=>S.getD i a).Perm S:=by
 have e:(List.range S.length).map (λi=>S.getD i a)=S:=by
  apply Ho
  ·(first|((repeat(first|exact .head _|apply List.mem_cons_of_mem));done)|simp)
  ·intro i d g
   simp at d;simp[d]
 have:=h.map λi=>S.getD i a;rwa[e]at this
theorem Vc{j:Type}(d:j){l m:List j}(h:l.Perm m): ∃c:List Nat,c.Perm (List.range l.length)∧m=c.map λi=>l.getD i d:=by
 induction h with
 |nil=>exact⟨[],AX _,rfl⟩
 | @cons x l m h u=>
  obtain⟨c,b,g⟩:=u;refine⟨0::c.map (· +1),aP b,?_⟩;rw[Ej,B0,g];rfl
 |swap x y l=>
  refine⟨1::0::(List.range l.length).map (· +2),?_,?_⟩
  ·have:(List.range (l.length+2))=0::1::(List.range l.length).map (· +2):=by
    rw[Px,Px,Ej,B0];rfl
   show(1::0::_).Perm (List.range (l.length+2));rw[this];exact List.Perm.swap _ _ _
  ·rw[Ej,Ej,B0]
   congr 2;apply Ho
   ·(first|((repeat(first|exact .head _|apply List.mem_cons_of_mem));done)|simp)
   ·intro i b g
    simp[b]
 | @trans l m k b g n o=>
  obtain⟨a,r,v⟩:=n;obtain⟨e,s,w⟩:=o;have z:a.length=l.length:=by rw[r.length_eq,Gc]
  have A:m.length=l.length:=b.length_eq.symm;refine⟨e.map λi=>a.getD i 0,?_,?_⟩
  ·refine(Vb e a 0 (by rw[z,←A];exact s)).trans r
  ·rw[B0,w]
   apply DW;intro i B;have C:i<m.length:=List.mem_range.mp (s.mem_iff.mp B);have t:i<a.length:=by (first|lia|omega)
   subst v;simp[t]
theorem aQ{a b c d:Nat→Nat}: ∀(n i:Nat) (s:Nat×Nat×Nat),(∀k,i≤k→k<i+n→(a k=b k↔c k=d k))→B9 a b n i s=B9 c d n i s:=by
 intro n
 induction n with
 |zero=>intro i s _;rfl
 |succ n j=>
  intro i s h;refine (?_:B9 a b n (i+1) (Ea a b i s)=B9 c d n (i+1) (Ea c d i s));have e:Ea a b i s=Ea c d i s:=by
   have g:=h i (A8 _) (by (first|lia|omega));unfold Ea
   by_cases q:a i=b i
   ·rw[AS q,AS (g.mp q)]
   ·rw[AI q,AI λx=>q (g.mpr x)]
  rw[e];exact j (i+1) _ λk l m=>h k (by (first|lia|omega)) (by (first|lia|omega))
theorem aR{a b m o:Nat→Nat}(h: ∀k,k<8→(a k=b k↔m k=o k)): ∀(n:Nat) (Q l:List (Nat×Nat)),(∀c∈Q,c.1≤c.2∧c.2≤8)→Eb a b n Q l=Eb m o n Q l:=by
 intro n
 induction n with
 |zero=>intro Q l _;rfl
 |succ n u=>
  intro Q l v;cases Q with
  |nil=>rfl
  |cons c Q=>
   obtain⟨g,i⟩:=c;have j:=v (g,i) Bj;have s: ∀c∈Q,c.1≤c.2∧c.2≤8:=λc j=>v c (BB _ j);have e:B9 a b (i-g) g (0,g,0)=B9 m o (i-g) g (0,g,0):=aQ _ _ _ λk B C=>h k (by have:=j.1;have:=j.2;dsimp only at*;(first|lia|omega));have z:Em a b g i=Em m o g i:=by unfold Em;rw[e]
   have A:En a b g i=En m o g i:=by unfold En;rw[e]
   obtain⟨r,t⟩:=Qu a b j.1;have w:=t.p1;have y:=t.p2;dsimp only at w y j;show(if En a b g i=0 then _ else _)=(if En m o g i=0 then _ else _);rw[←A,←z]
   split
   ·exact u _ _ s
   ·refine u _ _ λc d=> ?_
    simp only[List.mem_append]at d;rcases d with(d|d)|d
    ·split at d
     ·rw[Io]at d;subst d;exact⟨y,j.2⟩
     ·cases d
    ·split at d
     ·rw[Io]at d;subst d;exact⟨w,by refine (?_:Em a b g i≤8);(first|lia|omega)⟩
     ·cases d
    ·exact s c d
theorem aS{a b c d:Nat→Nat}: ∀n,(∀k,k<n→(a k=b k↔c k=d k))→cnt a b n=cnt c d n:=by
 intro n
 induction n with
 |zero=>intro _;rfl
 |succ n e=>
  intro h;unfold cnt;rw[e λk g=>h k (by (first|lia|omega))];have:=h n (by (first|lia|omega))
  by_cases q:a n=b n
  ·rw[AS q,AS (this.mp q)]
  ·rw[AI q,AI λx=>q (this.mpr x)]
noncomputable def OO(x:Nat×Nat):List (Nat×Nat)→List (Nat×Nat)
 |[]=>[x]
 |y::l=>if x.1<y.1 then x::y::l else y::OO x l
noncomputable def OP:List (Nat×Nat)→List (Nat×Nat)
 |[]=>[]
 |x::l=>OO x (OP l)
theorem Vd(x:Nat×Nat): ∀l,(OO x l).Perm (x::l)
 |[]=>AX _
 |y::l=>by
  unfold OO
  split
  ·exact AX _
  ·exact((Vd x l).cons y).trans (List.Perm.swap _ _ _)
theorem Ve: ∀l,(OP l).Perm l
 |[]=>AX _
 |x::l=>(Vd x _).trans ((Ve l).cons x)
noncomputable def HM:Nat→List (Nat×Nat)→Bool
 |_,[]=>true
 |m,(p,z)::l=>Nat.ble m p&&Nat.blt 0 z&&Nat.ble (p+z) 8&&HM (p+z+1) l
noncomputable def G4:List (Nat×Nat)→Nat
 |[]=>0
 |(_,z)::l=>z+G4 l
noncomputable def B4(a b:Nat→Nat):List (Nat×Nat):=OP (Eb a b 9 [(0,8)] [])
noncomputable def IQ(N:Nat)(i:Nat):Nat:=N/2^i%2
noncomputable def Vf(N:Nat):Bool:=
 let l:=OP (Eb (IQ N) (λ_=>1) 9 [(0,8)] [])
 HM 0 l&&Nat.ble l.length 4&&Nat.beq (G4 l) (cnt (IQ N) (λ_=>1) 8)
theorem aT: ∀N,N<256→Vf N=true:=by decide+kernel
noncomputable def Gn(a b:Nat→Nat):Nat→Nat
 |0=>0
 |n+1=>Gn a b n+if a n=b n then 2^n else 0
theorem Vg(a b:Nat→Nat): ∀n,Gn a b n<2^n:=by
 intro n
 induction n with
 |zero=>simp[Gn]
 |succ n c=>unfold Gn;rw[Nat.pow_succ];split <;> (first|lia|omega)
theorem aU(a b:Nat→Nat): ∀n i,i<n→(a i=b i↔IQ (Gn a b n) i=1):=by
 intro n
 induction n with
 |zero=>intro i h;(first|lia|omega)
 |succ n g=>
  intro i h;have c:=Vg a b n;unfold Gn
  by_cases e:i=n
  ·subst e
   unfold IQ
   by_cases q:a i=b i
   ·rw[AS q]
    have:(Gn a b i+2^i)/2^i=1:=by
     rw[Nat.add_div_right _ (Nat.two_pow_pos i),Nat.div_eq_of_lt c]
    rw[this];simp[q]
   ·rw[AI q]
    rw[Lx,Nat.div_eq_of_lt c];simp[q]
  ·have d:i<n:=Im (Ei h) e
   have:=g i d;have key:IQ (Gn a b n+if a n=b n then 2^n else 0) i=IQ (Gn a b n) i:=by
    unfold IQ
    split
    ·obtain⟨k,rfl⟩:=Nat.exists_eq_add_of_lt d
     have:2^(i+k+1)=2^i*(2*2^k):=by rw[Ls,Nat.pow_add,Nat.pow_succ,Nat.mul_comm (2^k)]
     rw[this,Nat.add_mul_div_left _ _ (Nat.two_pow_pos i),Nat.add_mul_mod_self_left]
    ·rfl
   rw[key];exact this
theorem OQ(a b:Nat→Nat):HM 0 (B4 a b)=true∧(B4 a b).length≤4∧G4 (B4 a b)=cnt a b 8:=by
 have c: ∀k,k<8→(a k=b k↔IQ (Gn a b 8) k=(λ_=>1) k):=aU a b 8;have d:=aR c 9 [(0,8)] [] (by (first|((repeat(first|exact .head _|apply List.mem_cons_of_mem));done)|simp));have e:=aS 8 c;have h:=aT (Gn a b 8) (Vg a b 8);unfold Vf at h;simp only[Fn]at h;obtain⟨⟨g,i⟩,j⟩:=h;unfold B4;rw[d,e];exact⟨g,Eg i,Jc j⟩
theorem aV: ∀{l:List (Nat×Nat)} {m:Nat},HM m l=true→(∀c∈l,m≤c.1)∧l.Pairwise (λa b=>a.1<b.1):=by
 intro l
 induction l with
 |nil=>intro m _;exact⟨λ_ h=>(nomatch h),.nil⟩
 |cons c l i=>
  intro m h;obtain⟨p,z⟩:=c;unfold HM at h;simp only[Fn]at h;obtain⟨⟨⟨e,n⟩,o⟩,j⟩:=h;have e:=Eg e;obtain⟨g,k⟩:=i j;refine⟨λc d=> ?_,?_⟩
  ·rcases List.mem_cons.mp d with rfl|d
   ·exact e
   ·have:=g c d;(first|lia|omega)
  ·rw[List.pairwise_cons]
   exact⟨λc d=>by have:=g c d;refine (?_:p<c.1);(first|lia|omega),k⟩
theorem aW(a b:Nat→Nat):B6 λ (c h:List Nat)=>c.Perm (List.range (B4 a b).length)∧h.Perm (List.range (B4 a b).length)∧
  ∀{k:Type} (d:k) (f:k→Nat×Nat) (B:List k),B.map f=Eb a b 9 [(0,8)] []→(c.map λi=>B.getD i d).map f=B4 a b∧(c.map λi=>B.getD i d).Perm B∧B=h.map λj=>(c.map λi=>B.getD i d).getD j d:=by
 have n:(Eb a b 9 [(0,8)] []).Perm (B4 a b):=(Ve _).symm;obtain⟨c,g,o⟩:=Vc (0,0) n;have r:(Eb a b 9 [(0,8)] []).length=(B4 a b).length:=n.length_eq;rw[r]at g;obtain⟨h,s,u⟩:=Vc 0 g;have rl:c.length=(B4 a b).length:=by rw[g.length_eq,Gc]
 refine⟨c,h,g,by rw[←rl];exact s,λ {k} d f B t=> ?_⟩;have l:B.length=(B4 a b).length:=by rw[←r,←t,BZ]
 refine⟨?_,Vb c B d (by rw[l];exact g),?_⟩
 ·rw[o,B0]
  apply DW;intro i m;have:i<B.length:=by rw[l];exact List.mem_range.mp (g.mem_iff.mp m)
  simp[←t,this]
 ·have e:B=(List.range (B4 a b).length).map λi=>B.getD i d:=by
   apply Ho
   ·simp[l]
   ·intro i g o
    simp[g]
  rw[u,B0]at e;refine e.trans (DW λi m=> ?_);have:i<c.length:=List.mem_range.mp (s.mem_iff.mp m);simp[this]
set_option maxHeartbeats 400000
theorem Ag.subs{kt:KT}{s b:Ab}{L c L'':Ae}(x:Ag kt s b L c)(h:L''.Sublist c):Ag kt s b L L'':=
 ⟨⟨λp a=>x.sat.mem p (h.subset a),(h.map _).nodup x.sat.nd,x.sat.old,λp a=>x.sat.apart p (h.subset a)⟩,x.keep,λp a=>x.new p (h.subset a),x.size,x.gens,x.os,x.drawn,x.toks⟩
theorem aX{w:Aa}{A:Al}{c:Code}{L:Ae}{k j:Result→Ae→List Nat→Prop}(h:RunsW w A c L k)
  (m: ∀r g e,k r g e→B6 λi X=>g.Perm (i++X)∧j r i e):RunsW w A c L j:=λs S=>by
 refine B5 (h s S) λr l hz=> ?_;obtain⟨g,e,a,b,d⟩:=hz;obtain⟨i,X,q,z⟩:=m r g e a;exact⟨i,e,z,(b.permR q).subs (EY _ _),d⟩
noncomputable def HN:Nat→List (Nat×Nat)→List Nat→List Obj→List BE
 |_,[],_,_=>[]
 |i,c::l,a,o=>⟨a.getD (2*i) 0,a.getD (2*i+1) 0,c.1,c.2,Ao o (22+3*i),Ao o (23+3*i),Ao o (24+3*i)⟩::HN (i+1) l a o
noncomputable def EC:List BE→List Nat
 |[]=>[]
 |e::S=>e.x::e.d::EC S
noncomputable def Dp:List BE→List Obj
 |[]=>[]
 |e::S=>Ac e.tp::Ac e.tq::Ac e.tz::Dp S
theorem QW{l:List Obj}{n:Nat}{r:List Obj}{k i:Nat}(h:l.length=i):Ao (l++Ac n::r) i=n:=by
 subst h;simp[Ao,BQ,Ac]
theorem aY: ∀(S:List BE) (i:Nat) (b:List Nat) (a:List Obj),b.length=2*i→a.length=22+3*i→HN i (S.map λc=>(c.p,c.z)) (b++EC S) (a++Dp S)=S:=by
 intro S
 induction S with
 |nil=>intro i b a _ _;rfl
 |cons e S g=>
  intro i b a d h;rw[Ej];unfold HN;have j:=g (i+1) (b++[e.x,e.d]) (a++[Ac e.tp,Ac e.tq,Ac e.tz]) (by (first|((repeat(first|exact .head _|apply List.mem_cons_of_mem));done)|simp);(first|lia|omega)) (by (first|((repeat(first|exact .head _|apply List.mem_cons_of_mem));done)|simp);(first|lia|omega));have l:b++EC (e::S)=(b++[e.x,e.d])++EC S:=by simp[EC]
  have m:a++Dp (e::S)=(a++[Ac e.tp,Ac e.tq,Ac e.tz])++Dp S:=by simp[Dp]
  rw[l,m,j];have n:((b++[e.x,e.d])++EC S).getD (2*i) 0=e.x:=by rw[←d];(first|((repeat(first|exact .head _|apply List.mem_cons_of_mem));done)|simp)
  have o:((b++[e.x,e.d])++EC S).getD (2*i+1) 0=e.d:=by rw[←d];(first|((repeat(first|exact .head _|apply List.mem_cons_of_mem));done)|simp)
  have r:Ao ((a++[Ac e.tp,Ac e.tq,Ac e.tz])++Dp S) (22+3*i)=e.tp:=by
   rw[Dt];exact QW (k:=0) h
  have s:Ao ((a++[Ac e.tp,Ac e.tq,Ac e.tz])++Dp S) (23+3*i)=e.tq:=by
   rw[show(a++[Ac e.tp,Ac e.tq,Ac e.tz])++Dp S=(a++[Ac e.tp])++Ac e.tq::(Ac e.tz::Dp S) by (first|((repeat(first|exact .head _|apply List.mem_cons_of_mem));done)|simp)];exact QW (k:=0) (by (first|((repeat(first|exact .head _|apply List.mem_cons_of_mem));done)|simp);(first|lia|omega))
  have t:Ao ((a++[Ac e.tp,Ac e.tq,Ac e.tz])++Dp S) (24+3*i)=e.tz:=by
   rw[show(a++[Ac e.tp,Ac e.tq,Ac e.tz])++Dp S=(a++[Ac e.tp,Ac e.tq])++Ac e.tz::Dp S by (first|((repeat(first|exact .head _|apply List.mem_cons_of_mem));done)|simp)];exact QW (k:=0) (by (first|((repeat(first|exact .head _|apply List.mem_cons_of_mem));done)|simp);(first|lia|omega))
  rw[n,o,r,s,t]
theorem aZ: ∀S:List BE,BI (EC S) ((BL S).map (·.2))=BL S:=by
 intro S
 induction S with
 |nil=>rfl
 |cons e S a=>show _::_::BI (EC S) ((BL S).map (·.2))=_;rw[a];rfl
theorem bA{S B:List BE}(h:S.Perm B):(BL S).Perm (BL B):=by
 induction h with
 |nil=>exact AX _
 |cons e h a=>exact(a.cons _).cons _
 |swap e f S=>
  show([_,_]++([_,_]++BL S)).Perm ([_,_]++([_,_]++BL S));rw[←Dt,←Dt];exact List.perm_append_comm.append_right _
 |trans _ _ b c=>exact b.trans c
noncomputable def QX(o:List Obj):TT:=⟨λi=>Ao o i,Ao o 8,Ao o 9,Ao o 10,Ao o 11,λi=>Ao o (12+i),Ao o 16,Ao o 17,Ao o 18,Ao o 19⟩
noncomputable def Vh:TT:=QX []
noncomputable def Mv(P:Aj)(K:QK)(b n e:Nat)(s:Nat→Nat)(a:List (Nat×Nat))(g:List Nat):Ak:=
 {d:=570,u:=3400,h:=none,c:=Mm Mo (Mn K.f),idx:=[],
  pre:=HJ P K false Vh [.ref b] n++(IN P K [] e++[(b,IM 0 8 s)]),
  na:=2*a.length,nt:=0,no:=22+3*a.length,r:=λ_ _=>.ok .next,
  outs:=λx _ o=>(HJ P K true (QX o) [] (Ao o 20)++(IN P K (IP g ((HN 0 a x o).map BE.x)) (Ao o 21)++[(b,IM 0 8 s)])).map (·.2),
  news:=λx _ o=>(BL (HN 0 a x o)).map (·.2)}
theorem bB(S:List BE):(EC S).length=2*S.length:=by
 induction S with
 |nil=>rfl
 |cons e S a=>show(EC S).length+1+1=_;rw[a,GG];(first|lia|omega)
theorem bC(S:List BE):(Dp S).length=3*S.length:=by
 induction S with
 |nil=>rfl
 |cons e S a=>show(Dp S).length+1+1+1=_;rw[a,GG];(first|lia|omega)
theorem bD{H R B S D:Ae}{X:Addr×Obj}(h:S.Perm B):((H++(R++([]++B)))++((D++[X])++[])).Perm (((H++(R++[X]))++S)++D):=by
 classical
 refine List.perm_iff_count.mpr λy=> ?_;have h:=List.perm_iff_count.mp h y;simp only[NG,List.count_nil];(first|lia|omega)
theorem bE{w:Aa}{K:QK}{b n d:Nat}{s:Nat→Nat}{g a:List Nat}(y:Lt K.a)(z:Lt K.b)(h1:g.Perm (List.range (B4 K.a K.b).length))(U:a.Perm (List.range (B4 K.a K.b).length))
  (C: ∀(B:List BE),B.map (λc=>(c.p,c.z))=Eb K.a K.b 9 [(0,8)] []→(g.map λi=>B.getD i ⟨0,0,0,0,0,0,0⟩).map (λc=>(c.p,c.z))=B4 K.a K.b∧(g.map λi=>B.getD i ⟨0,0,0,0,0,0,0⟩).Perm B∧B=a.map λj=>(g.map λi=>B.getD i ⟨0,0,0,0,0,0,0⟩).getD j ⟨0,0,0,0,0,0,0⟩):
  Av w (Mv w.2 K b n d s (B4 K.a K.b) a):=by
 refine Ba.ext λA D E F=> ?_;have G:=Mf (UR (w:=w) F D E y z 9 [⟨b,0,8,s⟩] [] false Vh n d [] (A8 9) (A8 8) λc V=>List.mem_singleton.mp V▸⟨Ji 7,A8 8⟩);clear y z F D E;refine aX (FN [] (.of_eq ((BR _).trans (BR _))) G λr H m h=>⟨H,.of_eq (BR _),h⟩) λr H m hz=> ?_;obtain⟨I,_,W,v,T,o,k,l,D',X,J,Y,L⟩:=hz;obtain⟨Z,e⟩:=J _ _ rfl;obtain⟨t,M,N⟩:=C l L;clear J L C;generalize hS:(g.map λi=>l.getD i (⟨0,0,0,0,0,0,0⟩:BE))=S at t M N;have u:S.length=(B4 K.a K.b).length:=by rw[←t,BZ]
 obtain⟨o0,O⟩: ∃o0:List Obj,o0=[Ac (T.y 0),Ac (T.y 1),Ac (T.y 2),Ac (T.y 3),Ac (T.y 4),Ac (T.y 5),Ac (T.y 6),Ac (T.y 7),Ac T.lo,Ac T.hi,Ac T.p,Ac T.z,Ac (T.s 0),Ac (T.s 1),Ac (T.s 2),Ac (T.s 3),Ac T.tp,Ac T.tq,Ac T.tz,Ac T.x,Ac o,Ac k]:=⟨_,rfl⟩
 have P:o0.length=22:=O▸rfl;have Q:HN 0 (B4 K.a K.b) (EC S) (o0++Dp S)=S:=by
  have:=aY S 0 [] o0 rfl P;rwa[t]at this
 have R:IP a (S.map BE.x)=G0 l:=by
  rw[Va a S ⟨0,0,0,0,0,0,0⟩ (by rw[u];exact U),←N]
 refine⟨_,QL Z,?_,EC S,o0++Dp S,(bB S).trans (Am (2* ·) u),Am Ir I,by rw[EH,bC,u,P];rfl,W,rfl⟩;have e1:(Mv w.2 K b n d s (B4 K.a K.b) a).outs (EC S) m (o0++Dp S)=(HJ w.2 K true T [] o++(IN w.2 K (G0 l) k++[(b,IM 0 8 s)])).map (·.2):=by
  show(HJ w.2 K true (QX (o0++Dp S)) [] (Ao (o0++Dp S) 20)++(IN w.2 K (IP a ((HN 0 (B4 K.a K.b) (EC S) (o0++Dp S)).map BE.x)) (Ao (o0++Dp S) 21)++[(b,IM 0 8 s)])).map (·.2)=_;rw[Q,R,O];rfl
 have e2:(Mv w.2 K b n d s (B4 K.a K.b) a).news (EC S) m (o0++Dp S)=(BL S).map (·.2):=Am (λS=>(BL S).map λp:Addr×Obj=>p.2) Q;rw[e1,e2,aZ,Kx (Mv w.2 K b n d s (B4 K.a K.b) a).pre (HJ w.2 K true T [] o++(IN w.2 K (G0 l) k++[(b,IM 0 8 s)])) rfl,Y,e,X (.inl (List.cons_ne_nil _ _)),QL,BC];exact bD (bA M)
noncomputable def QY(a:Value):Ak:=
 {d:=900,u:=9000,h:=none,c:=.call (.builtin Qb) ⟨[LR,a],[]⟩,idx:=[],pre:=[],na:=1,nt:=0,r:=λx _=>.ok (.ret (.ref (x.getD 0 0))),outs:=λ_ _ _=>[],news:=λ_ _ _=>[li [] 0]}
theorem Vi{w:Aa}{a:Value}:Av w (QY a):=by
 refine GT λA s g i j S R c=> ?_;refine (?_:codeAny _ _ (.call (.builtin Qb) ⟨[LR,a],[]⟩) _ s);rw[qO,Qd];have d:=S.push (o:=li [] 0) rfl;have e:li [] 0={cls:=.type "list",data:=.seq #[]}:=BX [] 0;refine B5 (code_list_new (E:=λ_ _=>False) (Q₁:=λv b=>v= .ref s.heap.objs.size∧b={s with heap:=s.heap.push {cls:=.type "list",data:=.seq #[]}}) a ⟨rfl,rfl⟩) λr b h=> ?_
 match r,h with
 | .ok (.ret v),h=>
  obtain⟨rfl,rfl⟩:=h;rw[←e];exact c _ [s.heap.objs.size] [] [] rfl rfl rfl d (A8 _)
theorem Ag.pushOut{kt:KT}{s:Ab}{L:Ae}(S:An kt s L){o:Obj}(a:o.isFreed=false):Ag kt s {s with heap:=s.heap.push o} L L:=(S.push a).subs (EY _ _)
noncomputable def QZ(a n:Nat)(b:List Value):Ak:=IF (.call (.builtin Km) ⟨[.ref a],[]⟩) [(a,li b n)] [li b (n+2*b.length)] .none
theorem bF{a:List Value}{n:Nat}(h:a.length<2):(if a.length=([]:List Value).length then if([]:List Value).length=a.length then n else n+1 else(if([]:List Value).length=a.length then n else n+1)+1)=n+2*a.length:=by
 rcases a with _|⟨v,_|⟨_,_⟩⟩
 ·rfl
 ·rfl
 ·simp at h;(first|lia|omega)
theorem Vj{w:Aa}{a n:Nat}{b:List Value}(z:b.length<2):Av w (QZ a n b):=by
 refine Ko λA s _ _ _ S R E=> ?_;have r:=S.mem (a,li b n) (by (first|((repeat(first|exact .head _|apply List.mem_cons_of_mem));done)|simp));have C: ∀(c e:List Value) (n:Nat),Obj.mapSeq (λ_=>(⟨e⟩:Array Value)) (li c n)=li e (if e.length=c.length then n else n+1):=λc e n=>by
  unfold Obj.mapSeq;dsimp only
  by_cases h:e.length=c.length
  ·have:((⟨e⟩:Array Value).size==(⟨c⟩:Array Value).size)=true:=by
    show(e.length==c.length)=true;simp[h]
   rw[this,AS h];rfl
  ·have:((⟨e⟩:Array Value).size==(⟨c⟩:Array Value).size)=false:=by
    show(e.length==c.length)=false;simp[h]
   rw[this,AI h];rfl
 have d:=S.set (i:=0) rfl (f:=Obj.mapSeq λ_=>(⟨[]⟩:Array Value)) (p:=(a,li b n)) rfl;dsimp only at r d;rw[C]at d;generalize D:(if([]:List Value).length=b.length then n else n+1)=l at d;have t:=d.sat.mem (a,li [] l) (by simp[Ey]);rw[BX]at r t;rw[P6];refine DV slot_list_sort.plain entry_list_sort (slot_list_sort.check _ _ _ _ _ _ _ _ ⟨_,r,rfl⟩ (args_list_sort _) ?_);rw[list_sort_plain];refine Af (listItems_at r rfl ?_);refine Af (listUpdate_at r rfl ?_ (by refine (?_:b.length≤_);rw[sizeLine_eq];(first|lia|omega)) (B8 _));refine Af (seqEpoch_at t rfl ?_);refine Af (wpAny_newTuple ?_ (by refine (?_:b.length≤_);rw[sizeLine_eq];(first|lia|omega)));refine Af (wpAny_newList ?_ (B8 _));refine Dl ?_;have u:=d.trans (Ag.pushOut (o:={cls:=.type "tuple",data:=.seq (⟨b⟩:Array Value).toList.toArray}) d.sat rfl);have v:=u.trans (Ag.pushOut (o:={cls:=.type "list",data:=.seq ([]:List Value).toArray}) u.sat rfl);generalize F:({heap:=((s.heap.update a (Obj.mapSeq λ_=>(⟨[]⟩:Array Value))).push {cls:=.type "tuple",data:=.seq (⟨b⟩:Array Value).toList.toArray}).push {cls:=.type "list",data:=.seq ([]:List Value).toArray},gens:=s.gens,drawn:=s.drawn,toks:=s.toks,os:=s.os}:Ab)=B at v;have g:Ag (kt w) s B [(a,li b n)] [(a,li [] l)]:=v;refine(?_ :wpAny (model pw w) A.in1 _ _ _ B);have y:(⟨b⟩:Array Value).size<2:=z;rw[AS y,AS y];refine Af (Ap ?_);refine Af (m:=StateT.run (pure ()) _) (Ap ?_);have j:=g.sat.mem (a,li [] l) (by (first|((repeat(first|exact .head _|apply List.mem_cons_of_mem));done)|simp));have k:=g.sat.set (i:=0) rfl (f:=Obj.mapSeq λ_=>(⟨b⟩:Array Value)) (p:=(a,li [] l)) rfl;dsimp only at k j;rw[C]at k;rw[BX]at j;refine Af (seqEpoch_at j rfl ?_);have hz:(arrOf (SortSt.mk' general' ((⟨b⟩:Array Value).zip ⟨b⟩) #[] 7 none)).map (·.2)=(⟨b⟩:Array Value):=by
  show((⟨b⟩:Array Value).zip ⟨b⟩).map (·.2)=_;have: ∀c:List Value,((⟨c⟩:Array Value).zip ⟨c⟩).map (·.2)=⟨c⟩:=λc=>by
   apply Array.ext
   ·(first|((repeat(first|exact .head _|apply List.mem_cons_of_mem));done)|simp)
   ·intro i z G;(first|((repeat(first|exact .head _|apply List.mem_cons_of_mem));done)|simp)
  exact this b
 refine (?_:wpAny _ _ (Builtin.List.listUpdate (.ref a) (λ_=>(arrOf (SortSt.mk' general' ((⟨b⟩:Array Value).zip ⟨b⟩) #[] 7 none)).map (·.2))>>=_) _ _ B);rw[hz];refine Af (listUpdate_at j rfl ?_ (B8 _) (by refine (?_:b.length≤_);rw[sizeLine_eq];(first|lia|omega)));dsimp only;simp only[bne_self_eq_false,CR,if_false];refine Ap ?_;have en:(if b.length=([]:List Value).length then l else l+1)=n+2*b.length:=by
  subst D;exact bF z
 rw[en]at k;exact E _ (g.trans k)
section
open PySem.F
theorem Vk:Slot "map" "__iter__" "map.__iter__":=
 .of (owner:="map") (n:="__iter__") (by rw[typeLookup_type,builtinLookup_eq_fast];kernel_rfl) (by decide+kernel) (by decide+kernel) (by decide+kernel)
  (by first|exact .inl (by decide+kernel)|exact .inr (by decide+kernel)) (by rw[isSubtype_type];kernel_rfl)
theorem bG:Slot "map" "__next__" "map.__next__":=
 .of (owner:="map") (n:="__next__") (by rw[typeLookup_type,builtinLookup_eq_fast];kernel_rfl) (by decide+kernel) (by decide+kernel) (by decide+kernel)
  (by first|exact .inl (by decide+kernel)|exact .inr (by decide+kernel)) (by rw[isSubtype_type];kernel_rfl)
theorem bH:entryFor table "map.__iter__"=some Builtin.«dict_keyiterator.__iter__»:=
 entryFor_alias (id':="dict_keyiterator.__iter__") (by kernel_rfl) (by first|rfl|decide+kernel|(unfold String.splitOn;simp+decide [String.splitOnAux])) (by decide+kernel) (by kernel_rfl)
theorem bI:Manifest.owners.lookup (String.ofList ['p','a','m'].reverse)=some Manifest.sig_map:=by kernel_rfl
theorem bJ(a:Value):argsOk "map.__iter__" ⟨[a],[]⟩:=by
 unfold argsOk;rw[signature?_of (id:="map.__iter__") (n:=['_','_','r','e','t','i','_','_']) (o:=['p','a','m']) (by kernel_rfl) bI];kernel_rfl
theorem bK:typeLookup (.type "map") "__len__"=pure none:=by rw[typeLookup_type,builtinLookup_eq_fast];kernel_rfl
theorem bL:typeLookup (.type "map") "__length_hint__"=pure none:=by rw[typeLookup_type,builtinLookup_eq_fast];kernel_rfl
theorem bM:P2= .type "map":=by
 refine (?_:Value.type s462964344163437139x3=_);rw[←e462964344163437139x3]
noncomputable abbrev mpO(a m:Nat):Obj:=fi P2 [.ref a,.ref m]
theorem bN{a:Program}{w:Aa}{A:Al}{E:Value→Ab→Prop}{s:Ab}{z:Addr}{Q:Value→Ab→Prop}(b:s.TypeIs (.ref z) "map")(h:Q (.ref z) s):wpAny (model a w) A (pyIter (.ref z)) Q E s:=by
 refine wpAny_pyIter_slot b Vk (wpAny_call_entry Vk b bH ?_ (bJ _));refine (?_:wpAny _ _ (ret (.ref z)) _ _ s);exact Ap ⟨_,rfl,"map",_,b,bG.lookup,h⟩
theorem bO{w:Aa}{A:Al}{a c k m:Nat}{F:Ae}{z:Result→Ae→List Nat→Prop}
  (h:RunsW w A (.builtin "list.extend.loop" ⟨[.ref a,.ref c,.none],[]⟩) ((a,li [] 2)::(c,mpO k m)::F) z):
  RunsW w A (.call (.builtin Ok) ⟨[.ref a,.ref c],[]⟩) ((a,li [] 0)::(c,mpO k m)::F) z:=by
 refine Qo λs S R E=> ?_;rw[qP];have n:=S.mem (a,li [] 0) (by (first|((repeat(first|exact .head _|apply List.mem_cons_of_mem));done)|simp));have G:=S.mem (c,mpO k m) (by (first|((repeat(first|exact .head _|apply List.mem_cons_of_mem));done)|simp));have B:a≠c:=λe=>by
  have:=S.nd;simp[e]at this
 rw[BX]at n;have C:(mpO k m:Obj)={cls:=.type "map",data:=.fields #[.ref k,.ref m]}:=by
  refine (?_:Obj.mk P2 none _ _=_);rw[bM]
 rw[C]at G;have g:=S.set (i:=0) rfl (f:=Obj.mapSeq λ_=>(#[]:Array Value)) (p:=(a,li [] 0)) rfl;have H:Obj.mapSeq (λ_=>(#[]:Array Value)) (li [] 0)=li [] 0:=rfl;dsimp only at g;rw[H]at g;have j:=g.sat.set (i:=0) rfl (f:=Obj.mapSeq (·.push Value.none)) (p:=(a,li [] 0)) rfl;have I:Obj.mapSeq (·.push Value.none) (li [] 0)=li [.none] 1:=rfl;dsimp only at j;rw[I]at j;have l:=j.sat.set (i:=0) rfl (f:=Obj.mapSeq (·.pop)) (p:=(a,li [.none] 1)) rfl;have J:Obj.mapSeq (·.pop) (li [.none] 1)=li [] 2:=rfl;dsimp only at l;rw[J]at l;have t:=g.sat.mem (a,li [] 0) (by simp[Ey]);have u:=j.sat.mem (a,li [.none] 1) (by simp[Ey]);have v:=g.sat.mem (c,mpO k m) (by simp[Ey]);rw[BX]at t u;rw[C]at v;have o:Shared.TypeIs _ (.ref c) "map":=⟨_,v,rfl⟩
 have y:=(g.trans j).trans l;refine DV slot_list_init.plain entry_list_init (slot_list_init.check _ _ _ _ _ _ _ _ ⟨_,n,rfl⟩ (args_list_init_2 _ _) ?_);refine (?_:wpAny _ A.in1 (do let D←Builtin.List.listItems (.ref a);Builtin.List.listUpdate (.ref a) (λ_=> #[]);letGo D.toList.reverse;Builtin.List.listExtendWith (.ref a) (.ref c) .none) _ _ s);refine Af (listItems_at n rfl ?_);refine Af (listUpdate_at n rfl ?_ (B8 _) (B8 _));refine Af (wpAny_letGo ?_);unfold Builtin.List.listExtendWith;refine Af (wpAny_typeOf o ?_);have K:Builtin.List.listSameRef (.ref a) (.ref c)=false:=by simp[Builtin.List.listSameRef,B]
 have L:(Value.type "map"==Value.type "list")=false:=by decide
 have M:(Value.type "map"==Value.type "tuple")=false:=by decide
 simp only[K,L,M,Lu,CR,if_false];refine Af (bN o ?_);refine Af (Dl ?_);unfold Builtin.List.listLengthHint;refine Af (wpAny_specialOf o bK ?_);refine (?_:wpAny _ A.in1 (specialOf (Value.ref c) (Str.ofString "__length_hint__")>>=_) _ _ _);refine Af (wpAny_specialOf o bL ?_);refine Ap ?_;refine (?_:wpAny _ A.in1 (rule "list.extend.makes-room">>=λ_=>Builtin.List.listTouch (.ref a)>>=λ_=>
  again (.builtin "list.extend.loop" ⟨[.ref a,.ref c,.none],[]⟩)) _ _ _)
 refine Af (FI ?_);refine Af ?_;refine (?_:wpAny _ A.in1 (updateSeq a (·.push .none)>>=λ_=>updateSeq a (·.pop)) _ _ _);refine Af (wpAny_updateSeq t rfl ?_ (B8 _) (by refine (?_:1≤_);rw[sizeLine_eq];(first|lia|omega)));refine wpAny_updateSeq u rfl ?_ (by refine (?_:1≤_);rw[sizeLine_eq];(first|lia|omega)) (B8 _);refine Ap ⟨plainId_quiet PySem.F.plain_extend_loop _,?_⟩;refine B5 (h _ y.sat) λr N hz=> ?_;obtain⟨O,P,a,b,d⟩:=hz;exact E r N O P a (y.trans b) d
end
section
noncomputable abbrev Mw(d:Nat)(v:Nat→Value):Obj:=⟨.ref 163,some d,.seq ⟨[v 0,v 1,v 2]⟩ 0,⟨[]⟩⟩
noncomputable abbrev Vl(v:Nat→Value):Obj:=tu [v 0,v 1,v 2] 0
noncomputable def Q1:List (Nat×(Nat→Value))→List Obj→List Obj
 |[],_=>[]
 |x::l,o=>Mw (Ao o 0) x.2::Q1 l (o.drop 1)
section
variable (S mp tt mm it l n:Nat)(xv:List (Nat×(Nat→Value)))
noncomputable abbrev Q3:Ae:=[(tt,tu [.ref it] 0),(mm,fi TC [.ref 117,.ref 163]),(it,liO l 0),(l,li (xv.map λx=>.ref x.1) n)]++xv.map λx=>(x.1,Vl x.2)
noncomputable def Mx:Ak:=
 {d:=580,u:=3600,h:=none,c:=.call (.builtin Ok) ⟨[.ref S,.ref mp],[]⟩,idx:=[],
  pre:=[(S,li [] 0),(mp,mpO tt mm)]++Q3 tt mm it l n xv,
  na:=xv.length,nt:=0,no:=xv.length,r:=λ_ _=>.ok (.ret .none),
  outs:=λa _ _=>[li (a.map .ref) (xv.length+2),mpO tt mm,tu [.ref it] 0,fi TC [.ref 117,.ref 163],fi Bo [.none,.int xv.length 0],li (xv.map λx=>.ref x.1) n]++xv.map λx=>Vl x.2,
  news:=λ_ _ o=>Q1 xv o}
noncomputable def Vm:List Nat:=[2,2,2,3,5,5,5,5,6,5,5]
noncomputable def Vn:Nat→Nat→List Nat
 |0,_=>Vm
 |k+1,a=>Vm++([2,4,0,0,0,a,a,0,a,a,0,1,0,0,a,a]++Cd 15 0++[a+1,0,0,a,a,0,0,a,a+3,0,0,0,a+3,0,a+3,1,a,1,1,1])++Vn k (a+4)
noncomputable def Vo(n:Nat):List Nat:=List.range (6+n)++(List.range n).map λj=>9+n+4*j
noncomputable def bP:List (List Nat→List Nat→List Obj→Ak):=xv.map λx _ _ _=>IL JG x.1 (x.2 0) [x.2 1,x.2 2] 0
noncomputable def My(a:Nat→Nat)(i:Nat):List Nat:=(List.range xv.length).map λj=>a (i+4*j)
noncomputable abbrev bQ(w:Aa):Prop:=AD w (28+121*xv.length) (.builtin Ua ⟨[.ref S,.ref mp,.none],[]⟩) ((S,li [] 2)::(mp,mpO tt mm)::Q3 tt mm it l n xv) (Vn xv.length (7+xv.length)++[8+5*xv.length]) (AB ((5,[6])::(List.range (xv.length-1)).map λj=>(8,[7+j])) (bP xv)) [] 99 580 3600 (Vo xv.length)
   (λa b c=>.done (.ret .none)) (λa b c=>Bk (Mx S mp tt mm it l n xv).pre ((Mx S mp tt mm it l n xv).outs (My xv a 3) [] [])++BI (My xv a 3) (Q1 xv ((My xv a 2).map Ac))) (8*xv.length)
end
theorem bR{w:Aa}{S mp tt mm it l n:Nat}: ∀{xv:List (Nat×(Nat→Value))},0<xv.length→xv.length≤5→bQ S mp tt mm it l n xv w
 |[_],_,_=>by kernel_rfl
 |[_,_],_,_=>by kernel_rfl
 |[_,_,_],_,_=>by kernel_rfl
 |[_,_,_,_],_,_=>by kernel_rfl
 |[_,_,_,_,_],_,_=>by kernel_rfl
 |[],h,_=>absurd h (by (first|((repeat(first|exact .head _|apply List.mem_cons_of_mem));done)|simp))
 |_::_::_::_::_::_::_,_,h=>absurd h (by (first|((repeat(first|exact .head _|apply List.mem_cons_of_mem));done)|simp))
end
theorem Vp{w:Aa}{a:Type}{f:a→List Nat→List Nat→List Obj→Ak}(h: ∀x b c d,Av w (f x b c d))(l:List a):DF w (l.map f):=λe g=>by
 obtain⟨x,_,rfl⟩:=List.mem_map.mp g;exact h x
theorem Vq{w:Aa}{S b c mm d l n:Nat}{a:List (Nat×(Nat→Value))}(h:0<a.length)(e:a.length≤5):Av w (Mx S b c mm d l n a):=by
 refine Ba.ext λA i j k=> ?_;refine (?_:RunsW w A (.call (.builtin Ok) ⟨[.ref S,.ref b],[]⟩) ((S,li [] 0)::(b,mpO c mm)::Q3 c mm d l n a) _);refine bO ?_;rw[←qR];exact Bc (bR h e) [] k i j (Az _ _ (Vp (λ_ _ _ _=>UF UG (by (first|((repeat(first|exact .head _|apply List.mem_cons_of_mem));done)|simp))) a)) Ar (λg m o=>⟨My a g 3,(My a g 2).map Ac,(BZ _).trans Gc,rfl,(BZ _).trans ((BZ _).trans Gc),rfl,rfl⟩) ((by decide: ∀n,n<6→BS (Vo n)=true) _ (Gb e))
section
noncomputable abbrev mS(bs:List (Nat×Nat))(c:List Nat)(e:List Obj):List BE:=HN 0 bs (c.drop 8) e
noncomputable def v3(a b c:Value):Nat→Value:=λi=>[a,b,c].getD i .none
noncomputable def KD:List (Nat×Nat)→List Obj→List Obj
 |[],_=>[]
 |c::l,o=>Mw (Ao o 0) (v3 (.int c.1 (Ao o 1)) (.int c.1 (Ao o 2)) (.int c.2 (Ao o 3)))::KD l (o.drop 4)
section
variable (w:Aa)(m d j2 bj bp t u:Nat)(kq a b g l g':Nat→Nat)(fb:Value)
noncomputable abbrev KF(P:Aj):Ae:=[(m,mO d),(d,AT P kq (AH a t) (AH b u) .none fb j2 bj bp),(bj,CH P),(j2,B3 P b g l)]++AZ l g'
noncomputable def Mz(P:Aj)(m d j2 bj bp:Nat)(kq a b g l g':Nat→Nat)(fb:Value)(t u:Nat)(bs:List (Nat×Nat)):Ak:=
 {d:=550,u:=3200,h:=none,c:=.call (.ref 231) ⟨[.ref m],[]⟩,idx:=[],pre:=KF m d j2 bj bp t u kq a b g l g' fb P,
  na:=bs.length+2,nt:=0,no:=4*(bs.length+1),r:=λx _=>.ok (.ret (.ref (x.getD 0 0))),
  outs:=λx _ _=>[mO d,AT P kq (AH a t) (AH b u) (.ref (x.getD 0 0)) fb j2 bj bp,CH P,B3 P b g l]++(AZ l g').map (·.2),
  news:=λx _ o=>li (x.tail.map .ref) (bs.length+3)::KD (bs++[(8,0)]) o}
noncomputable def Q4(bs:List (Nat×Nat))(π:List Nat)(e c:List Nat):Ak:=Mv w.2 ⟨tk e 0,tk e 6,tk e 7,m,d,j2,bj,bp,tk c 8,tk c 5,t,u,λi=>[tk c 0,tk c 9,tk c 10,tk c 13,tk c 14].getD i 0,kq,a,b,g,l,g',fb⟩ (tk e 5) 0 0 (λi=>[tk c 11,tk c 5,tk c 12,tk c 8].getD i 0) bs π
noncomputable def gT(x t:Nat):List Nat:=Cd 5 t++x::Cd 6 t++x::Cd 6 t++x::Cd 6 t++[x,t,t]
noncomputable def Vr:List Nat:=[0,13,13,0,13,13,0,13,13]
noncomputable def Vs(x t:Nat):List Nat:=[x,0,0,0,x,0,0,0,x,0,0,0,1,x,0]++gT x t++(t+2)::Vr++[13,13,13,1,13,13]
noncomputable def Vt(s:Nat):List Nat:=[s,s,s,1,s]++gT s (s+1)++(s+3)::Vr
noncomputable def Vu:List Nat:=[0,0,0,13,13,0,1,13,1,0,0,0,1,0,0,0,1,1,0,2,0,0,13,1,0,0,0,1,0,0,0,1,1,0,2,0,0,13,1,0,0,0,1,0,0,0,1,1,0,2,14,14,14,1,14,15,15,15,15,15,14,15,15,15,15,15,15,14,15,15,15,15,15,15,14,15,15,17,0,13,13,0,13,13,13,13,0,13,13,0,13,13,13,20,20,20,20,0,13,13,0,13,13,0,13,13,0,13,13,13,20,20,1,20]
noncomputable def Vv(z a:Nat)(y:List Nat):List Nat:=let q:=Cd 4 a;z::13::13::q++y++q++Cd 16 0++[13,a,a,1,a]
noncomputable def Vw(z:Nat):List Nat:=[z,z+2,z+2,z+2,z+2,z+3,z+3,13,1,0,0,0,1,0,1,0,1,0,0,0,1,0,0,2,2,2,13,1,0,0,0,1,0,0,0,1,1,0,2]
noncomputable def Vx(b:Nat):Nat→Nat→Nat→List Nat
 |0,_,_=>[]
 |k+1,x,t=>b::Vs x t++(let q:=Cd 4 (b-1);q++[13,13,13]++q++[13,13,13])++Vt (t+4)++[b,b,b,b,20,b,b]++Vx b k (x+2) (t+8)
noncomputable abbrev bS:Prop:=AD w 418 (.call (.ref 231) ⟨[.ref m],[]⟩) (KF m d j2 bj bp t u kq a b g l g' fb w.2) (Vu++[22,22,22,22,22,20,22,22]++Vv 24 21 [13,13]++Vw 27) (AB [(11,[12,18,19,0,1,2,3,4,5,6,7,8,9,10,11,17]),(0,[19]),(12,[]),(0,[29,28,27,25,26,20,24])] [λc i j=>Q4 w m d j2 bj bp t u kq a b g l g' fb [] [] c i,λc i j=>QZ (tk c 7) (Ao j 21) [],λc i j=>QY (.ref (tk c 16)),λc i j=>Mx (tk c 17) (tk c 16) (tk c 15) (tk c 13) (tk c 14) (tk c 8) 1 [(tk c 12,v3 (.int 8 (tk i 5)) (.int 8 (tk i 8)) (Bu (tk i 20)))]]) [] 1 550 3200 [0,1,2,3,4,5,6,7,8,9,10,11,29,30]
   (λh k n=>.done (.ret (.ref (h 17)))) (λh k n=>let e:=Mz w.2 m d j2 bj bp kq a b g l g' fb t u [];Bk e.pre (e.outs [h 17,h 18] [] [])++BI [h 17,h 18] (e.news [h 17,h 18] [] [n 22,Ac (k 5),Ac (k 8),Ac (k 20)])) 25
theorem bT:bS w m d j2 bj bp t u kq a b g l g' fb:=by
 kernel_rfl
noncomputable abbrev l1{c:Type}(l:List (Nat×Nat))(x y:c):c:=match l with
 |[]=>x
 |_=>y
noncomputable def gX(T G A:Nat→Nat)(fin:Nat→Value):Nat→Nat→(Nat→Value)→List (Nat×Nat)→List (Nat×(Nat→Value))
 |i,_,v,[]=>[(A (i-1),v),(A i,fin)]
 |i,k,v,c::l=>(A i,v)::gX T G A fin (i+8) (k+3) (v3 (.int c.1 (G k)) (.int c.1 (G (k+1))) (.int c.2 (G (k+2)))) l
noncomputable def gI:Nat→Nat→List Nat
 |i,0=>[i-1,i]
 |i,k+1=>i::gI (i+8) k
noncomputable def Q5:Nat→Nat→List (Nat×Nat)→List (List Nat→List Nat→List Obj→Value×Value)
 |_,z,[]=>[λ_ _ _=>(.bool ((z:Int) != 0),.bool true)]
 |p,z,c::l=>(λ_ _ _=>(.bool (decide ((p:Int)+z=c.1)),.bool false))::(λ_ _ _=>(.bool ((z:Int) != 0),.bool true))::Q5 c.1 c.2 l
variable (f:Bool)(p z:Nat)(bs:List (Nat×Nat))(π:List Nat)
noncomputable def bU(n:Nat):List (List Nat→List Nat→List Obj→Ak):=[λc e h=>Q4 w m d j2 bj bp t u kq a b g l g' fb ((cond f 0 p,z)::bs) π c e,λc e h=>l1 bs (QZ (tk c 7) (Ao h 21) [.ref (tk c 8)]) (U9 (tk c 7) (Ao h 21) (mS ((cond f 0 p,z)::bs) c h) π),λc e h=>QY (.ref (tk c (n-1))),λc e h=>Mx (tk c n) (tk c (n-1)) (tk c (n-2)) (tk c (n-4)) (tk c (n-3)) (tk c (10+2*bs.length)) (bs.length+2) (gX (tk e) (Ao h) (tk c) (v3 (.int 8 (tk e 5)) (.int 8 (tk e 8)) (.int 0 (tk e (27+7*bs.length)))) (22+2*bs.length-cond f 4 0) 25 (cond f (v3 (Bu (tk e 15)) (Bu (tk e 15)) (.int z (tk e 25))) (v3 (.int p (Ao h 22)) (.int p (Ao h 23)) (.int z (Ao h 24)))) bs)]
noncomputable def bV:List (List Nat→List Nat→List Obj→Value×Value):=(λ_ c _=>cond f (.int ((0:Int)+z) (tk c 25),.int (z:Nat) (tk c 25)) (.bool (decide ((0:Int)+0=p)),.bool false))::Q5 (cond f 0 p) z bs
noncomputable def OR(c:Nat→Nat):List Nat:=(List.range' (27+10*bs.length-cond f 4 0) (bs.length+3)).map c
noncomputable def Q6(e:Nat→Nat)(c:Nat→Obj):List Obj:=c (25+3*bs.length)::cond f [Ac (e 15),Ac (e 15),Ac (e 25)] [c 22,c 23,c 24]++((List.range bs.length).flatMap λj=>[c (26+3*bs.length+j),c (25+3*j),c (26+3*j),c (27+3*j)])++[c (26+4*bs.length),Ac (e 5),Ac (e 8),Ac (e (27+7*bs.length))]
noncomputable def bW(n:Nat):List Nat:=let b:=24+2*n;let z:=33+10*n-cond f 4 0;Vu++Cd 5 b++20::Cd 3 b++Vs 21 (b+1)++cond f [13,1,13,13,0,13,13] (13::13::Vt (b+4))++[b,b,b,b,20,b,b]++Vx b n 23 (b+8-cond f 4 0)++Vv z (b-1) ([13,13,13]++Cd 4 (b-1)++13::Cd 4 (b-1)++[13,13])++Vw (z+4)
noncomputable abbrev bX:Prop:=AD w (cond f 593 651+233*bs.length) (.call (.ref 231) ⟨[.ref m],[]⟩) (KF m d j2 bj bp t u kq a b g l g' fb w.2) (bW f bs.length) (AB [(11,[12,18,19,0,1,2,3,4,5,6,7,8,9,10,11,17]),(0,19::l1 bs [] (List.range' 20 (bs.length+1) 2)),(27+15*bs.length-cond f 3 0,[]),(0,let r:=39+10*bs.length-cond f 4 0;[r,r-1,r-2,r-4,r-3,22+2*bs.length]++gI (34+2*bs.length-cond f 4 0) bs.length)] (bU w m d j2 bj bp t u kq a b g l g' fb f p z bs π (27+10*bs.length-cond f 4 0))) (Bh (cond f (20::l1 bs [0] (6::0::(Cd (bs.length-1) [11,0]).flatten++[5])) (17::(Cd bs.length [11,0]).flatten++[5])) (bV f p z bs)) 1 550 3200 (List.range 12++List.range' (39+10*bs.length-cond f 4 0) (bs.length+3))
   (λc h i=>.done (.ret (.ref (c (27+10*bs.length-cond f 4 0))))) (λc h i=>let e:=Mz w.2 m d j2 bj bp kq a b g l g' fb t u ((cond f 0 p,z)::bs);Bk e.pre (e.outs (OR f bs c) [] [])++BI (OR f bs c) (e.news (OR f bs c) [] (Q6 f bs h i))) (32+7*bs.length)
theorem bY: ∀bs:List (Nat×Nat),bs.length≤3→bX w m d j2 bj bp t u kq a b g l g' fb f p z bs (l1 bs [0] π)
 |[],_=>by cases f <;> kernel_rfl
 |[_],_=>by cases f <;> kernel_rfl
 |[_,_],_=>by cases f <;> kernel_rfl
 |[_,_,_],_=>by cases f <;> kernel_rfl
 |_::_::_::_::_,h=>absurd h (by (first|((repeat(first|exact .head _|apply List.mem_cons_of_mem));done)|simp))
end
end
theorem Vy: ∀(a:List (Nat×Nat)) (i:Nat) (x:List Nat) (o:List Obj),(HN i a x o).map (·.p)=a.map (·.1)
 |[],_,_,_=>rfl
 |c::l,i,x,o=>Am (c.1:: ·) (Vy l (i+1) x o)
theorem Q7{T G A:Nat→Nat}{fin:Nat→Value}: ∀{a:List (Nat×Nat)} {i k:Nat} {v:Nat→Value},(gX T G A fin i k v a).length=a.length+2
 |[],_,_,_=>rfl
 |_::_,_,_,_=>Am (· +1) Q7
theorem Vz{m p z:Nat}{l:List (Nat×Nat)}(h:HM m ((p,z)::l)=true):m≤p∧0<z∧HM (p+z+1) l=true:=by
 unfold HM at h;simp only[Fn,Nat.ble_eq,Nat.blt_eq]at h;exact⟨h.1.1.1,h.1.1.2,h.2⟩
theorem VA{z:Nat}(h:0<z):Value.bool ((z:Int) != 0)= .bool true:=Am Value.bool (bne_iff_ne.mpr (Int.ofNat_ne_zero.mpr (EZ h)))
theorem VB: ∀(l:List (Nat×Nat)) (p z:Nat),0<z→HM (p+z+1) l=true→E8 (Q5 p z l)
 |[],_,_,h,_=>AA (λ_ _ _=>VA h) Bp
 |(q,y)::l,p,z,h,k=>by
  obtain⟨a,b,c⟩:=Vz k;exact AA (λ_ _ _=>Am Value.bool (BH λe:(p:Int)+z=q=>absurd (Int.ofNat.inj e) (CS a))) (AA (λ_ _ _=>VA h) (VB l q y b c))
theorem bZ{w:Aa}{m d y C D:Nat}{E a b g l F:Nat→Nat}{G:Value}{t u:Nat}(L:Lt a)(M:Lt b):Av w (Mz w.2 m d y C D E a b g l F G t u (B4 a b)):=by
 obtain⟨ρ,s,N,H,O⟩:=aW a b;have P: ∀J T,Av w (Q4 w m d y C D t u E a b g l F G (B4 a b) s J T):=λ_ _=>bE L M N H λB U=>O _ _ B U;obtain⟨o,j,V⟩:=OQ a b;clear N O V L M;generalize B4 a b=W at*;refine Ba.ext λA Q R S=> ?_;cases W with
 |nil=>
  have e:s=[]:=List.perm_nil.mp H;subst e;exact Bc (bT w m d y C D t u E a b g l F G) [] S Q R (Az _ _ (Ah (λ_ _ _=>P _ _) (Ah (λ_ _ _=>Vj (by decide)) (Ah (λ_ _ _=>Vi) (Ah (λ_ _ _=>Vq (Ji _) (Eg rfl)) Ay))))) Ar λI v K=>⟨[I 17,I 18],[K 22,Ac (v 5),Ac (v 8),Ac (v 20)],rfl,rfl,rfl,rfl,rfl⟩
 |cons c i=>
  obtain⟨p,z⟩:=c;have X:=(aV o).2;replace o:=(Vz o).2;obtain⟨Y,o⟩:=o;replace j:i.length≤3:=Nat.le_of_succ_le_succ j;obtain⟨f,r,e,Z⟩:B6 λf r=>p=cond f 0 r∧(f=false→r≠0):=by
   by_cases h:p=0
   ·exact⟨true,0,h,λe=>nomatch e⟩
   ·exact⟨false,p,rfl,λ_=>h⟩
  subst e;have e:l1 i [0] s=s:=by
   cases i with
   |nil=>exact(List.perm_singleton.mp H).symm
   |cons=>rfl
  have k:=bY w m d y C D t u E a b g l F G f r z s i j;rw[e]at k;refine Bc k [] S Q R (Az _ _ (Ah (λ_ _ _=>P _ _) (Ah (λJ _ gh=> ?_) (Ah (λ_ _ _=>Vi) (Ah (λ_ _ _=>Vq (by rw[Q7];exact Ji _) (by rw[Q7];exact CC j 2)) Ay))))) (Bi _ _ (AA (λ_ _ _=> ?_) (VB i _ z Y o))) (λI v K=>⟨OR f i I,Q6 f i v K,(BZ _).trans List.length_range',rfl,?_,rfl,rfl⟩) ((by decide: ∀n,n<4→ ∀f,BS (List.range 12++List.range' (39+10*n-cond f 4 0) (n+3))=true) _ (Gb j) f)
  ·cases i with
   |nil=>exact Vj (Hn 1)
   |cons c i=>
    have q:=Vy ((cond f 0 r,z)::c::i) 0 (J.drop 8) gh;have n:=Am Ir q;rw[BZ,BZ]at n;exact aL (by rw[n];exact H) (List.pairwise_map.mp (q▸List.pairwise_map.mpr X)) (by rw[n];exact Nat.le_add_left 2 _) (by rw[n];exact CQ (CC j 1) (by decide))
  ·cases f with
   |true=>exact Am (λx=>Value.int x _) (Int.zero_add _)
   |false=>exact Am Value.bool (BH λe:(0:Int)+0=r=>Z rfl (Int.ofNat.inj e).symm)
  ·have q:((List.range i.length).map λ_=>4).sum=4*i.length:=(by decide: ∀n,n<4→((List.range n).map λ_=>4).sum=4*n) _ (Gb j)
   unfold Q6;rw[EH,EH,List.length_flatMap];refine(Am (λn=>_+n+_) q).trans ?_;cases f <;> exact Am (· +4) (Nat.add_comm 4 _)
set_option maxHeartbeats 4000000
noncomputable abbrev FQ:List Stmt:=AO (EO 6 10)
noncomputable abbrev BV(f:Nat):Env:={scope:=EM (EO 6 10),locals:=f,globals:=3,cells:=[],qual:=⟨⟨[83,101,113,117,101,110,99,101,77,97,116,99,104,101,114,46,114,97,116,105,111,46,60,108,111,99,97,108,115,62,46]⟩⟩,func:=some 253,code:=.ref 252,frame:=some f,builtins:=0}
noncomputable abbrev OS:Stmt:=AF FQ 0
noncomputable abbrev HO:Stmt:=AF FQ 1
noncomputable abbrev VC:Stmt:=AF FQ 2
noncomputable abbrev HP:Expr:=A9 (Ke HO) 0
noncomputable abbrev IR:Expr:=A9 (Ke HO) 1
noncomputable abbrev IS:Expr:=A9 (Br HP) 0
noncomputable abbrev Fv:Expr:=A9 (Br HP) 1
noncomputable abbrev Fw:Expr:=A9 (Br Fv) 0
noncomputable abbrev JL:Expr:=A9 (Br Fv) 1
noncomputable abbrev G5:Expr:=A9 (Br Fv) 2
noncomputable abbrev Ed:Scope:=Fp Fv
theorem cA:FQ=[OS,.Assign [.Name HB (gP IR)] (.Call (.Name HD (gP IS)) [.GeneratorExp Fw [⟨.Name Gi (gP JL),G5,[],0⟩] Ed (gP Fv)] [] (gP HP)) (sP HO),VC]:=by kernel_rfl
noncomputable def trIter(f:Nat):Sem AE:=eval G5 (BV f)>>=λv=>pure (.done (.ret v))
noncomputable def trPyIter(v:Value):Sem AE:=pyIter v>>=λv=>pure (.done (.ret v))
noncomputable def trCode(f:Nat):Sem AE:=genexprCode (BV f) (gP Fv) ((BV f).qual++"<genexpr>") Ed>>=λv=>pure (.done (.ret v))
noncomputable def trBi(f:Nat):Sem AE:=builtinsFor (BV f).globals (BV f).builtins>>=λv=>pure (.done (.ret (.ref v)))
noncomputable def trSum(f:Nat):Sem AE:=eval (.Name HD (gP IS)) (BV f)>>=λv=>pure (.done (.ret v))
noncomputable def trDoc(f:Nat):Sem AE:=exec OS (BV f)>>=λv=>pure (.done v)
noncomputable def MA(f:Nat)(v:Value):Sem Flow:=do
 let a←(do standAt (gP IR);bindName (BV f) HB v;pure Flow.next)
 match a with
 | .next=>execs [VC] (BV f)
 |g=>pure g
noncomputable def trTail(f:Nat)(v:Value):Sem AE:=MA f v>>=λv=>pure (.done v)
noncomputable abbrev VD:Expr:=A9 (Br Fw) 0
noncomputable abbrev Q8:Expr:=A9 (Br Fw) 1
theorem cB:Fw= .Subscript (.Name Gi (gP VD)) Q8 (gP Fw):=by kernel_rfl
noncomputable def cC(a:Env)(o:Value):Sem Value:=do
 let i←holding [o] (eval Q8 a)
 standAt (gP Fw)
 let r←subscripted Q8 (←getitemInPython o) o i
 letTemporaryGo (.Name Gi (gP VD)) o r
 pure r
noncomputable def trSub(C:Nat)(code:Value)(a:Addr)(f x:Nat):Sem AE:=cC (genEnv Ed [] C code a (BV f)) (.ref x)>>=λv=>pure (.done (.ret v))
lay_quick trIter trPyIter trCode trBi trSum trDoc trTail trSub
set_option maxHeartbeats 400000
section
noncomputable abbrev AP(c:List Value):Obj:=⟨.none,none,.fields ⟨c⟩,⟨[]⟩⟩
noncomputable abbrev DH(P:Aj)(e m:Nat):Obj:=fr [Aq P HC e (.ref m)] 1
noncomputable def VE(P:Aj)(m d l:Nat)(q:Nat→Nat)(a b:Nat→Nat)(t u:Nat)(fb:Value)(j2 bj bp:Nat):Ak:=IE (.call (.ref 231) ⟨[.ref m],[]⟩) [(m,mO d),(d,AT P q (AH a t) (AH b u) (.ref l) fb j2 bj bp)] (.ref l)|>λe=>{e with d:=550,u:=3200}
theorem cD(w:Aa)(m d l:Nat)(q:Nat→Nat)(a b:Nat→Nat)(t u:Nat)(fb:Value)(j2 bj bp:Nat):
  AD w 59 (.call (.ref 231) ⟨[.ref m],[]⟩) ([(m,mO d),(d,AT w.2 q (AH a t) (AH b u) (.ref l) fb j2 bj bp)]) (dg 4 0x40f1d01014b404052) [] [] 1 550 3200 [0,1]
   (λc h i=>.done (.ret (.ref l))) (λc h i=>[(m,mO d),(d,AT w.2 q (AH a t) (AH b u) (.ref l) fb j2 bj bp)]) 4:=by
 kernel_rfl
theorem VF(w:Aa)(m:Nat):
  AD w 14 (.call (.ref 253) ⟨[.ref m],[]⟩) ([]) [0,0,0,1,1,0,1] [] [] 0 520 3000 [0]
   (λc h i=>.again (.func FQ (BV (c 0)))) (λc h i=>[(c 0,DH w.2 (h 0) m)]) 1:=by
 kernel_rfl
theorem cE(w:Aa)(f:Nat):
  AG w 8 (tw4522679141434849561 f) ([]) [] [] [] 540 3100 []
   (λc h i=>.done .next) (λc h i=>[]) 1:=by
 kernel_rfl
theorem cF(w:Aa)(f e m:Nat):
  AG w 9 (tw934501407238740123 f) ([(f,DH w.2 e m)]) [0,0] [] [] 540 3100 [0]
   (λc h i=>.done (.ret (.builtin LZ))) (λc h i=>[(f,fr [Ad w HC e (.ref m)] 1)]) 0:=by
 kernel_rfl
structure MI where
 x:Nat
 dx:Nat
 v0:Value
 v1:Value
 z:Nat
 tz:Nat
noncomputable def Go(i:MI):Obj:=Mw i.dx (v3 i.v0 i.v1 (.int i.z i.tz))
noncomputable def EU(c:List MI):Ae:=c.map λi=>(i.x,Go i)
noncomputable abbrev CM(c:List MI):List Value:=c.map λi=>Value.ref i.x
noncomputable def HQ:List MI→Nat
 |[]=>0
 |i::l=>i.z+HQ l
noncomputable def KG(A G:Nat→Nat):Nat→Nat→List (Nat×Nat)→List MI
 |_,_,[]=>[]
 |j,k,c::l=>⟨A j,G k,.int c.1 (G (k+1)),.int c.1 (G (k+2)),c.2,G (k+3)⟩::KG A G (j+1) (k+4) l
theorem Q9(A G:Nat→Nat): ∀(bs:List (Nat×Nat)) (j k:Nat),HQ (KG A G j k (bs++[(8,0)]))=G4 bs
 |[],_,_=>rfl
 |c::l,j,k=>Am (c.2+ ·) (Q9 A G l (j+1) (k+4))
theorem VG(A G:Nat→Nat): ∀(bs:List (Nat×Nat)) (j k:Nat),(KG A G j k bs).length=bs.length
 |[],_,_=>rfl
 |_::l,j,k=>Am (· +1) (VG A G l (j+1) (k+4))
theorem VH(A:Nat→Nat)(h:Nat→Obj): ∀(bs:List (Nat×Nat)) (j k:Nat),(KG A (λi=>BQ (h i)) j k bs).map Go=KD bs ((List.range' k (4*bs.length)).map h)
 |[],_,_=>rfl
 |c::l,j,k=>Am (Go _:: ·) (VH A h l (j+1) (k+4))
section
variable (w:Aa)(f e m d j2 bj bp t u:Nat)(kq a b g l g':Nat→Nat)(fb:Value)(bs:List (Nat×Nat))
noncomputable def VI(c:Nat→Nat)(h:Nat→Obj):List MI:=KG c (λi=>BQ (h i)) 1 0 (bs++[(8,0)])
noncomputable abbrev cG:Prop:=AG w 29 (tw10031696195161836380 f) ((f,DH w.2 e m)::KF m d j2 bj bp t u kq a b g l g' fb w.2) [1,2,0,0,0,2,0,0,0,2,0,0,0,0,2,3,0] (AB [(0,[1,2,3,4,5,6,7,8,9,10,11,12])] [λ_ _ _=>Mz w.2 m d j2 bj bp kq a b g l g' fb t u bs]) [] 540 3100 ([13,0,1,2]++List.range' 14 (bs.length+1)++[3,4,5,6,7,8,9,10,11,12])
   (λc i h=>.done (.ret (.ref (c 0)))) (λc i h=>(c 0,li (CM (VI bs c h)) (bs.length+3))::(f,DH w.2 e m)::([(m,mO d),(d,AT w.2 kq (AH a t) (AH b u) (.ref (c 0)) fb j2 bj bp)]++(EU (VI bs c h)++([(bj,CH w.2),(j2,B3 w.2 b g l)]++AZ l g')))) 0
theorem cH: ∀bs:List (Nat×Nat),bs.length≤4→cG w f e m d j2 bj bp t u kq a b g l g' fb bs
 |[],_=>by kernel_rfl
 |[_],_=>by kernel_rfl
 |[_,_],_=>by kernel_rfl
 |[_,_,_],_=>by kernel_rfl
 |[_,_,_,_],_=>by kernel_rfl
 |_::_::_::_::_::_,h=>absurd h (by (first|((repeat(first|exact .head _|apply List.mem_cons_of_mem));done)|simp))
end
theorem cI(w:Aa)(f e m d l:Nat)(q:Nat→Nat)(a b:Nat→Nat)(t u:Nat)(fb:Value)(j2 bj bp:Nat):
  AG w 29 (tw10031696195161836380 f) ([(f,DH w.2 e m),(m,mO d),(d,AT w.2 q (AH a t) (AH b u) (.ref l) fb j2 bj bp)]) (dg 4 23630741548) (AB [(0,[1,2])] ([λj k n=>VE w.2 m d l q a b t u fb j2 bj bp])) [] 540 3100 [0,1,2]
   (λc h i=>.done (.ret (.ref l))) (λc h i=>[(f,DH w.2 e m),(m,mO d),(d,AT w.2 q (AH a t) (AH b u) (.ref l) fb j2 bj bp)]) 0:=by
 kernel_rfl
theorem cJ(w:Aa)(l n:Nat)(h:List Value):
  AG w 15 (tw1895007636148923766 (.ref l)) ([(l,li h n)]) [1,1,1,1,2] [] [] 540 3100 [0,1]
   (λc i j=>.done (.ret (.ref (c 0)))) (λc i j=>[(l,li h n),(c 0,liO l 0)]) 0:=by
 kernel_rfl
noncomputable abbrev Ra(a:Nat):=[(248,AP [.int 411 0,.int 22 0,.ref a])]
theorem cK(w:Aa)(f:Nat):
  AG w 19 (tw11439811130977472393 f) ([(248,AP [])]) [0,1,1,1,1] [] [] 540 3100 [0]
   (λc h i=>.done (.ret (.ref (c 2)))) (λc h i=>(Ra (c 2))) 5:=by
 kernel_rfl
theorem cL(w:Aa)(f c:Nat):
  AG w 8 (tw11439811130977472393 f) (Ra c) [0,1] [] [] 540 3100 [0]
   (λh i j=>.done (.ret (.ref c))) (λh i j=>(Ra c)) 0:=by
 kernel_rfl
theorem cM(w:Aa)(f:Nat):
  AG w 8 (tw6614478055894812977 f) ([]) [0,0] [] [] 540 3100 []
   (λc h i=>.done (.ret (.ref 0))) (λc h i=>[]) 0:=by
 kernel_rfl
theorem cN(w:Aa)(f e m d k c:Nat)(q:Nat→Nat)(a b:Nat→Nat)(t u:Nat)(h fb:Value)(j2 bj bp:Nat):
  AG w 93 (tw14053590656718986233 f (.int k c)) ([(f,DH w.2 e m),(m,mO d),(d,AT w.2 q (AH a t) (AH b u) h fb j2 bj bp)]) (dg 4 0x114418080a30602028c) (AB [(7,[])] ([λr j s=>Ou k c (tk j 7)])) [] 540 3100 [1,2]
   (λn i o=>.done (.ret (.float (Bl k) (i 8)))) (λn i o=>[(m,mO d),(d,AT w.2 q (AH a t) (AH b u) h fb j2 bj bp)]) 9:=by
 kernel_rfl
theorem cO(w:Aa)(C:Nat)(code:Value)(h:Nat)(f x i j c:Nat)(v:Nat→Value):
  TB w 29 (tw11817400135307499448 C code h f x) ([(x,Mw c v)]) [1,0,0,0,1,0,1,0,0,0,1,0,1] [] [] i j [0]
   (λk n o=>.done (.ret (v 2))) (λk n o=>[(x,Mw c v)]) 2:=by
 kernel_rfl
end
theorem Ag.part{kt:KT}{s b:Ab}{L La a:Ae}(F:Ae)(S:An kt s L)(h:(La++F).Perm L)(x:Ag kt s b La a):Ag kt s b L (a++F):=(x.frame (S.permS h.symm)).permL h
theorem An.part{kt:KT}{s:Ab}{L La:Ae}(F:Ae)(S:An kt s L)(h:(La++F).Perm L):An kt s La:=(S.permS h.symm).left
theorem cP(val:Nat→Int): ∀(a:List MI) (k:Nat),(∀i (h:i<a.length),val (k+i)=a[i].z)→preSum val (k+a.length)=preSum val k+HQ a:=by
 intro a
 induction a with
 |nil=>intro k _;simp[HQ]
 |cons m a c=>
  intro k h;have b:=h 0 (by (first|((repeat(first|exact .head _|apply List.mem_cons_of_mem));done)|simp));have e:k+(m::a).length=(k+1)+a.length:=by (first|((repeat(first|exact .head _|apply List.mem_cons_of_mem));done)|simp);(first|lia|omega)
  rw[e,c (k+1) λi d=>by
   have:=h (i+1) (by (first|((repeat(first|exact .head _|apply List.mem_cons_of_mem));done)|simp);(first|lia|omega));rw[show k+(i+1)=k+1+i by (first|lia|omega)]at this;simpa using this]
  refine (?_:preSum val k+val k+_=_);rw[show k+0=k from rfl]at b;rw[b];simp[HQ];(first|lia|omega)
theorem cQ(n:Nat):passing (λ_=>true) n 0=List.range n:=by
 unfold passing;(first|((repeat(first|exact .head _|apply List.mem_cons_of_mem));done)|simp)
theorem cR{g:Nat}{a b:Array GenState}(h:GenOnlyQ g a b)(d: ∀x,a[g]? =some x→x.bare=true):PO g a b:=by
 rcases h with rfl|⟨c,e⟩
 ·exact⟨rfl,λ_ _=>rfl,d⟩
 ·exact⟨c.1,c.2,e⟩
theorem cS(f:Nat):swapsWith (.Call (.Name HD (gP IS)) [.GeneratorExp Fw [⟨.Name Gi (gP JL),G5,[],0⟩] Ed (gP Fv)] [] (gP HP)) (some (.Name HB (gP IR))) (sP HO).line (BV f)=pure false:=rfl
theorem cT(f:Nat):exec (.Assign [.Name HB (gP IR)] (.Call (.Name HD (gP IS)) [.GeneratorExp Fw [⟨.Name Gi (gP JL),G5,[],0⟩] Ed (gP Fv)] [] (gP HP)) (sP HO)) (BV f)=(do
   standAt (sP HO)
   if←swapsWith (.Call (.Name HD (gP IS)) [.GeneratorExp Fw [⟨.Name Gi (gP JL),G5,[],0⟩] Ed (gP Fv)] [] (gP HP)) (some (.Name HB (gP IR))) (sP HO).line (BV f)then
    evalThenUse (.Call (.Name HD (gP IS)) [.GeneratorExp Fw [⟨.Name Gi (gP JL),G5,[],0⟩] Ed (gP Fv)] [] (gP HP)) (BV f) (assign (.Name HB (gP IR)) (BV f))
    return .next
   let v←eval (.Call (.Name HD (gP IS)) [.GeneratorExp Fw [⟨.Name Gi (gP JL),G5,[],0⟩] Ed (gP Fv)] [] (gP HP)) (BV f)
   standAt (gP IR)
   bindName (BV f) HB v
   pure .next):=rfl
theorem cU(f:Nat):execs FQ (BV f)=(do
   let a←exec OS (BV f)
   match a with
   | .next=>do
    standAt (sP HO)
    let v←eval (.Call (.Name HD (gP IS)) [.GeneratorExp Fw [⟨.Name Gi (gP JL),G5,[],0⟩] Ed (gP Fv)] [] (gP HP)) (BV f)
    MA f v
   |g=>pure g):=by
 rw[cA];show(exec OS (BV f)>>=λa=>_)=_;congr 1;funext a;cases a with
 |next=>
  show(exec (.Assign [.Name HB (gP IR)] _ (sP HO)) (BV f)>>=λa=>_)=_;rw[cT,cS];simp only[bind_assoc,pure_bind,CR,if_false,MA]
 |_=>rfl
theorem cV:Ed.isCoroutine=false:=by kernel_rfl
theorem cW(f:Nat):closureFor Ed (BV f)=pure []:=by kernel_rfl
theorem cX: ∀y∈Ed.names,y.2≠NameKind.cell:=by
 have h:(Ed.names.all λy=>decide (y.2≠NameKind.cell))=true:=by kernel_rfl
 intro y a;exact of_decide_eq_true (List.all_eq_true.mp h y a)
theorem cY:Ed.names.lookup (".0":Str)=some NameKind.local:=by kernel_rfl
theorem cZ:Ed.names.lookup Gi=some NameKind.local:=by kernel_rfl
theorem VJ:Ed.kind= .function:=by kernel_rfl
theorem dC(f:Nat)(x:Value):genFold G5 (BV f) x=pure x:=by kernel_rfl
theorem dD{a:List MI}{x:MI}(h:x∈a):(x.x,Go x)∈EU a:=B7 h
theorem An.ne_head{kt:KT}{s:Ab}{I:Nat}{o:Obj}{L:Ae}(S:An kt s ((I,o)::L)){p:Addr×Obj}(h:p∈L):p.1≠I:=λe=>(List.nodup_cons.mp S.nd).1 (e▸B7 (f:=(·.1)) h)
theorem dE{w:Aa}{f c I:Nat}{o:Obj}{L:Ae}{s:Ab}{l:List MI}(S:An (kt w) s ((I,o)::L))(K: ∀x∈l,(x.x,Go x)∈L){m:Heap}(M: ∀b o,s.heap.get? b=some o→m.get? b=some o):
  QuietGen pw w (genEnv Ed [] s.heap.objs.size (.ref c) 0 (BV f)) Gi [] Fw (List.range s.heap.objs.size) [I] (λi v=>(⟨CM l⟩:Array Value)[i]? =some v) (λ_=>true) (λi y=>B6 λ (x:MI) (t:Nat)=>l[i]? =some x∧y=Value.int x.z t) m:=by
 refine⟨λD Q i v d E B F G j n=>Ap ⟨rfl,d.heap,d.toks,rfl,λ_ _ e=>e⟩,λD Q i v d E B F _ G j n=> ?_⟩;have r: ∀a o,(∃p∈L,p=(a,o))∨(kt w).get a=some o→d.heap.get? a=some o:=λa o h=>by
  have k:s.heap.get? a=some o∧a≠I:=by
   rcases h with⟨p,g,rfl⟩|h
   ·exact⟨S.mem _ (.tail _ g),S.ne_head g⟩
   ·exact⟨S.old a o h,S.apart _ (.head _) a o h⟩
  exact n a (List.mem_range.mpr (Heap.lt_size k.1)) (λe=>k.2 (List.mem_singleton.mp e)) o (M a o k.1)
 have z: ∃x:MI,l[i]? =some x∧v= .ref x.x:=by
  have:(l.map λi=>Value.ref i.x)[i]? =some v:=by simpa using F
  rw[Jh,Option.map_eq_some_iff]at this;obtain⟨x,h,e⟩:=this;exact⟨x,h,e.symm⟩
 obtain⟨x,z,e⟩:=z;have u:=K x (List.mem_of_getElem? z);have N:An (kt w) d [(x.x,Go x)]:=⟨λp g=>r _ _ (.inl ⟨_,u,List.mem_singleton.mp g▸rfl⟩),(List.nodup_cons.mpr ⟨Jk,List.nodup_nil⟩),λa o h=>r a o (.inr h),λp g a o h=>List.mem_singleton.mp g▸S.apart _ (.tail _ u) a o h⟩
 clear r u K M n S F;rw[e]at j;rw[cB,arm_eval_Subscript];refine Af (wpAny_Name (wpAny_loadName_local VJ (by kernel_rfl) G j ?_));clear G j;refine xO (cO w s.heap.objs.size (.ref c) 0 f x.x D.depth D.units x.dx (v3 x.v0 x.v1 (.int x.z x.tz))) Flow.ret (Ai (Ai (Ai (Ai (Ai te11817400135307499448 s.heap.objs.size) (.ref c)) 0) f) x.x) [] B (A8 _) (A8 _) AR Ar N λT U V H y O A _ R=> ?_;refine⟨⟨x,x.tz,z,CZ R⟩,H.heap,H.toks,?_,λb o J=> ?_⟩
 ·have k:=A.os
  have P:=A.drawn;cases H;cases d;simp only at k P O;rw[k,P,O]
 ·by_cases C:x.x=b
  ·rw[←C]at J⊢
   exact(A.sat.mem _ (.head _)).trans ((N.mem _ (.head _)).symm.trans J)
  ·exact A.keep b o J λp g=>List.mem_singleton.mp g▸C
theorem dF{kt:KT}{s d u:Ab}{B L:Ae}{I v g:Nat}{o:Obj}{w:Heap}{y:GenState}{tk:Nat}(i:Ag kt s d B ((I,o)::L))(E:s.heap.objs.size≤I)(j:y.bare=true)(l:d.heap.objs.size<v)(r: ∀b o,d.heap.get? b=some o→w.get? b=some o)
  (F:w.IsGen v g) (C:s.toks≤tk) (c:Moved [d.heap.objs.size,I] (GenOnlyQ d.gens.size) {d with gens:=d.gens.push y,toks:=tk,heap:=w} u):Ag kt s u B L:=by
 have S:=i.sat;have z: ∀b o,d.heap.get? b=some o→b≠I→u.heap.get? b=some o:=λb o m D=>by
  refine c.heap b o (λn=> ?_) (r b o m);rcases List.mem_cons.mp n with h|h
  ·exact absurd (Heap.lt_size m) (h▸Iq _)
  ·exact D (List.mem_singleton.mp h)
 refine⟨⟨λp k=>z p.1 p.2 (S.mem p (.tail _ k)) (S.ne_head k),(List.nodup_cons.mp S.nd).2,λa o t=>z a o (S.old a o t) (S.apart _ (.head _) a o t),λp k=>S.apart p (.tail _ k)⟩,
  λb o m G=>z b o (i.keep b o m G) λe=>absurd (Heap.lt_size m) (e▸Nat.not_lt.mpr E),λp k=>i.new p (.tail _ k),?_,(i.gens.trans (Dx.push d.gens j)).off i.gens.size (cR c.gens λx H=> ?_),c.os.trans i.os,c.drawn.trans i.drawn,AC C c.toks⟩
 ·obtain⟨o,J,K,t,_⟩:=F
  have A:=Heap.lt_size (c.heap v o (λn=>by
   rcases List.mem_cons.mp n with h|h
   ·exact absurd l (h▸Iq _)
   ·exact absurd (Heap.lt_size (S.mem _ (.head _))) (List.mem_singleton.mp h▸Nat.not_lt.mpr (Bw l))) t)
  exact AC i.size (Bw (DC l A))
 ·have:y=x:=by simpa using H
  exact this▸j
theorem VK{w:Aa}{A:Al}{f e m K:Nat}{r:List Value}{N:Ae}{G:Nat→Ae}{Φ:Nat→Nat→List MI→Ae→Prop}(hh:A.handled=none)(hd:A.depth≤520)(hu:A.units≤3000)(ar:r=[]∨ ∃c:Nat,r=[.int 411 0,.int 22 0,.ref c])
  {s:Ab} (S:An (kt w) s ((248,AP r)::(f,DH w.2 e m)::N)) {R:Result→Ab→Prop}
  (HI: ∀(B:Al) (s1:Ab) (Q:Value→Ab→Prop) (E:Value→Ab→Prop),B.handled=none→B.depth≤540→B.units≤3100→An (kt w) s1 ((f,DH w.2 e m)::N)→
   (∀s2 l n d M,HQ d=K→Φ l n d M→Ag (kt w) s1 s2 ((f,DH w.2 e m)::N) ((l,li (CM d) n)::(f,DH w.2 e m)::(G l++(EU d++M)))→Q (.ref l) s2)→
   wpAny (model pw w) B (eval G5 (BV f)) Q E s1)
  (HT: ∀(B:Al) (s1:Ab) (l t:Nat) (Q:Flow→Ab→Prop) (E:Value→Ab→Prop),B.handled=none→B.depth≤540→B.units≤3100→An (kt w) s1 ((f,DH w.2 e m)::G l)→
   (∀s2 u,Ag (kt w) s1 s2 ((f,DH w.2 e m)::G l) (G l)→AY s1.toks s2.toks [u]→Q (.ret (.float (Bl K) u)) s2)→wpAny (model pw w) B (MA f (.int K t)) Q E s1)
  (HR: ∀s' l n d M (c u:Nat),(∀k:Nat,r=[.int 411 0,.int 22 0,.ref k]→c=k)→HQ d=K→Φ l n d M→Ag (kt w) s s' ((248,AP r)::(f,DH w.2 e m)::N) (G l++((248,AP [.int 411 0,.int 22 0,.ref c])::(l,li (CM d) n)::(EU d++M)))→
   AY s.toks s'.toks [u]→R (.ok (.ret (.float (Bl K) u))) s'):
  codeAny (model pw w) A (.func FQ (BV f)) R s:=by
 refine Hp ?_;have C:(A.under (.func FQ (BV f))).handled=none:=hh;have D:(A.under (.func FQ (BV f))).depth≤540:=AC (CC hd _) (Eg rfl);have uB:(A.under (.func FQ (BV f))).units≤3100:=AC (CC hu _) (Eg rfl);clear hh hd hu;generalize A.under (.func FQ (BV f))=B at C D uB;refine (?_:wpAny _ B (point>>=λ_=>((execs FQ (BV f)).onRaise (leaving (BV f))>>=λfl=>match fl with| .ret v=>ret v|_=>ret .none)) _ _ s);refine Af (wpAny_point (Af (Fo ?_)));rw[cU];refine Af (Bq (cE w f) id (Ai te4522679141434849561 f) [] C D uB AR Ar (S.part _ (La:=[]) (.refl _)) λz τ ω s1 fl g _ au=> ?_);replace g:=Ag.part _ S (La:=[]) (.refl _) g;obtain rfl:fl= .next:=au;refine Af (Du (Af (PySem.Call_name1 rfl ?_)));have pf: ∀{a b:Addr×Obj} {L:Ae},([b]++(a::L)).Perm (a::b::L):=.swap _ _ _;refine Bq (cF w f e m) Flow.ret (Ai te934501407238740123 f) [] C D uB AR Ar (g.sat.part _ pf) λz τ ω s2 fv ad _ aw=> ?_;replace g:Ag (kt w) s s2 ((248,AP r)::(f,DH w.2 e m)::N) ((248,AP r)::(f,DH w.2 e m)::N):=(g.trans (Ag.part _ g.sat pf ad)).permR pf;clear ad;obtain rfl:fv= .builtin LZ:=CZ aw;rw[qE];refine PySem.callWith_builtin1 (wpAny_with_toks (A8 s2.toks) (wpAny_GeneratorExp_walksQ C cV (cW f) cX cY cZ VJ (CQ D (by decide)) ?_ (dC f)));have pg: ∀{a:Addr×Obj} {L:Ae},(L++[a]).Perm (a::L):=EF;have ax:=g.toks;refine HI B s2 _ _ C D uB (g.sat.part _ pg) λs3 l n d M hz ay ae=> ?_;replace g:=g.trans (Ag.part _ g.sat pg ae);clear HI ae;refine Bq (cJ w l n (CM d)) Flow.ret (Ai te1895007636148923766 (.ref l)) [] C D uB AR Ar (g.sat.part _ (La:=[(l,li (CM d) n)]) (.refl _)) λz τ ω s4 az P _ ai=> ?_;have nI:s.heap.objs.size≤z 0:=AC g.size (by
  rcases P.new (z 0,liO l 0) (.tail _ (.head _))with⟨q,hq,e⟩|h
  ·refine absurd ?_ ((List.nodup_cons.mp P.sat.nd).1)
   rw[List.mem_singleton.mp hq]at e;exact(List.mem_singleton.mpr e:l∈[z 0])
  ·exact h)
 replace g:Ag (kt w) s s4 ((248,AP r)::(f,DH w.2 e m)::N) (((l,li (CM d) n)::(z 0,liO l 0)::(f,DH w.2 e m)::(G l++(EU d++M)))++[(248,AP r)]):=(g.trans (Ag.part _ g.sat (La:=[(l,li (CM d) n)]) (.refl _) P):)
 obtain rfl:az= .ref (z 0):=CZ ai;clear P ai;generalize z 0=I at g nI;refine⟨LO g.sat,?_⟩;have hc: ∀(Q:Value→Ab→Prop) (E:Value→Ab→Prop),(∀(c:Nat) (s5:Ab),(∀k:Nat,r=[.int 411 0,.int 22 0,.ref k]→c=k)→Ag (kt w) s4 s5 [(248,AP r)] [(248,AP [.int 411 0,.int 22 0,.ref c])]→Q (.ref c) s5)→
   wpAny (model pw w) B (genexprCode (BV f) (gP Fv) ((BV f).qual++"<genexpr>") Ed) Q E s4:=λQ E hq=>by
  have S4:=g.sat.part (La:=[(248,AP r)]) _ pg.symm;clear g nI HT HR;rcases ar with rfl|⟨c,rfl⟩
  ·refine Bq (cK w f) Flow.ret (Ai te11439811130977472393 f) [] C D uB AR Ar S4 λz τ ω s5 cv F _ aa=> ?_
   exact CZ aa▸hq _ _ (λk h=>nomatch h) F
  ·refine Bq (cL w f c) Flow.ret (Ai te11439811130977472393 f) [] C D uB AR Ar S4 λz τ ω s5 cv F _ aa=> ?_
   exact CZ aa▸hq _ _ (λk h=>by injection h with _ h;injection h with _ h;injection h with h;injection h) F
 refine hc _ _ λc s5 a9 F=> ?_;replace g:=g.trans (Ag.part _ g.sat pg.symm F);clear hc F;refine Bq (cM w f) (λb:Addr=>Flow.ret (.ref b)) (Ai te6614478055894812977 f) [] C D uB AR Ar (g.sat.part _ (La:=[]) (.refl _)) λz τ ω s6 bi aj _ ak=> ?_;replace g:=(g.trans (Ag.part _ g.sat (La:=[]) (.refl _) aj)).permR (EJ (l₁:=[(248,AP [.int 411 0,.int 22 0,.ref c]),(l,li (CM d) n)]));obtain rfl:bi=0:=Value.ref.inj (CZ ak);clear aj ak;have O:=g.sat;have hl:=O.mem (l,li (CM d) n) (.tail _ (.tail _ (.head _)));have hI:=O.mem (I,liO l 0) (.head _);have T:s6.heap.IsList l (⟨CM d⟩:Array Value):=⟨_,hl,Qd,n,rfl⟩
 refine⟨I,[I,l],[I],(⟨CM d⟩:Array Value).size,_,_,λ_=>true,λi y=>B6 λ (x:MI) (t:Nat)=>d[i]? =some x∧y=Value.int x.z t,rfl,λA' ba=>Walks.list ba I l (O.ne_head (.tail _ (.head _))) ⟨CM d⟩,⟨⟨_,hI,QO,rfl⟩,T⟩,λb J=> ?_,LO O,λbb=> ?_,
  λbk hk=>dE O (λx hx=>.tail _ (.tail _ (.tail _ (BG _ (Dk _ (dD hx)))))) hk,λga aq tk gs ac H al U W G'=> ?_⟩
 ·rcases List.mem_cons.mp J with rfl|J
  ·exact Heap.lt_size hI
  ·exact List.mem_singleton.mp J▸Heap.lt_size hl
 ·obtain⟨o,ho,_⟩:=Ts w
  exact O.apart (I,liO l 0) (.head _) 2 o ho (List.mem_singleton.mp bb)
 ·intro bc
  clear hI hl T;refine call_sum_walkAnyS (WalksS.self (WalksS.in4_1 W) 0 _ _ _ G' ?_);have z0:(passing (λ_=>true) (⟨CM d⟩:Array Value).size 0)=List.range d.length:=by
   rw[cQ];(first|((repeat(first|exact .head _|apply List.mem_cons_of_mem));done)|simp)
  refine⟨ga,_,_,_,_,_,_,λj=>((d[j]?.map MI.z).getD 0:Nat),rfl,WalksS.in4_1 W,G',λb J=> ?_,λi v hv=> ?_,λs' t' am=> ?_⟩
  ·refine (?_:b<aq.objs.size)
   rw[al];rcases List.mem_cons.mp J with h|J
   ·rw[h];exact Hn ga
   ·rcases List.mem_cons.mp J with h|J
    ·rw[h];exact NF H
    ·exact NF (DC (List.mem_range.mp J) H)
  ·obtain⟨i',V,x,an,hx,hv⟩:=hv
   rw[z0]at V;have e:i'=i:=by
    have H:i<(List.range d.length).length:=(List.getElem?_eq_some_iff.mp V).1;rw[Li (by simpa using H)]at V;exact(FH V).symm
   rw[e]at hx;refine⟨an,hv.trans ?_⟩;refine (?_:_=Value.int (((d[i]?.map MI.z).getD 0:Nat):Int) an);rw[hx];rfl
  ·have ao:preSum (λj=>(((d[j]?.map MI.z).getD 0:Nat):Int)) (passing (λ_=>true) (⟨CM d⟩:Array Value).size 0).length=(K:Int):=by
    rw[z0,Gc];have:=cP (λj=>(((d[j]?.map MI.z).getD 0:Nat):Int)) d 0 λi h=>by simp[h]
    rw[Hq]at this;rw[this,hz];exact Int.zero_add _
   rw[ao];have Y:=dF g nI ac H U G'.1 (AC ax bc) am;clear ao z0 W G' am U H al O nI;have pr: ∀{a b c:Addr×Obj} {X Z:Ae},((c::X)++(a::b::Z)).Perm (a::b::c::(X++Z)):=λ {a b c X Z}=>List.perm_append_comm_assoc (c::X) [a,b] Z;refine HT B s' l t' _ _ C D uB (Y.sat.part _ pr) λs8 u be ri=>Ap (HR s8 l n d M c u a9 hz ay (Y.trans (Ag.part _ Y.sat pr be)) (AY.app (xs:=[]) Y.toks ri))
theorem VL{w:Aa}{f e m d K:Nat}{q a b:Nat→Nat}{t u:Nat}{c g:Value}{i j k:Nat}(z:K<9){B:Al}{s:Ab}{n:Nat}{Q:Flow→Ab→Prop}{E:Value→Ab→Prop}(A:B.handled=none)(C:B.depth≤540)(uB:B.units≤3100)
  (S:An (kt w) s [(f,DH w.2 e m),(m,mO d),(d,AT w.2 q (AH a t) (AH b u) c g i j k)])
  (h: ∀s2 l,Ag (kt w) s s2 [(f,DH w.2 e m),(m,mO d),(d,AT w.2 q (AH a t) (AH b u) c g i j k)] [(m,mO d),(d,AT w.2 q (AH a t) (AH b u) c g i j k)]→AY s.toks s2.toks [l]→Q (.ret (.float (Bl K) l)) s2):wpAny (model pw w) B (MA f (.int K n)) Q E s:=
 Bq (cN w f e m d K n q a b t u c g i j k) id (Ai (Ai te14053590656718986233 f) (.int K n)) [8] A C uB (Az _ _ (Ah (λ_ _ _=>Qr z) Ay)) Ar S λG o H D F r v y=>(show F= .ret (.float (Bl K) (o 8))from y)▸h D (o 8) r v
noncomputable abbrev Fx(c:Nat):List Value:=[.int 411 0,.int 22 0,.ref c]
noncomputable def Rb(P:Aj)(m d i j k:Nat)(n a b g l s:Nat→Nat)(v:Value)(t u:Nat)(w:List Value)(e:List (Nat×Nat)):Ak:=
 {d:=520,u:=3000,h:=none,c:=.call (.ref 253) ⟨[.ref m],[]⟩,idx:=[],pre:=[(m,mO d),(d,AT P n (.str (sf a) t) (AH b u) .none v i j k),(j,CH P),(i,B3 P b g l)]++AZ l s++[(248,AP w)],
  na:=e.length+2,nt:=1,no:=4*(e.length+1)+1,r:=λ_ t=>.ok (.ret (.float (Bl (G4 e)) (t.getD 0 0))),
  outs:=λx _ o=>[mO d,AT P n (.str (sf a) t) (AH b u) (.ref (x.getD 0 0)) v i j k,CH P,B3 P b g l]++(AZ l s).map (·.2)++[AP (Fx (Ao o 0))],
  news:=λx _ o=>li (x.tail.map .ref) (e.length+3)::KD (e++[(8,0)]) o.tail}
noncomputable def VM(P:Aj)(m d g i j l n c:Nat)(q a b:Nat→Nat)(k:Value)(t u:Nat)(e:List MI):Ak:=
 {d:=520,u:=3000,h:=none,c:=.call (.ref 253) ⟨[.ref m],[]⟩,idx:=[],pre:=[(m,mO d),(d,AT P q (.str (sf a) t) (AH b u) (.ref l) k g i j),(l,li (CM e) n),(248,AP (Fx c))]++EU e,
  na:=0,nt:=1,no:=0,r:=λ_ t=>.ok (.ret (.float (Bl (HQ e)) (t.getD 0 0))),outs:=λ_ _ _=>[mO d,AT P q (.str (sf a) t) (AH b u) (.ref l) k g i j,li (CM e) n,AP (Fx c)]++e.map Go,news:=λ_ _ _=>[]}
theorem dG{w:Aa}{m d l:Nat}{q a b:Nat→Nat}{t u:Nat}{c:Value}{e g h:Nat}:Av w (VE w.2 m d l q a b t u c e g h):=by
 refine Ba.ext λA i j k=> ?_;exact Bc (cD w m d l q a b t u c e g h) [] k i j AR Ar λn o r=>⟨[],[],rfl,rfl,rfl,rfl,rfl⟩
theorem VN{a b:Nat→Nat}:G4 (B4 a b)<9:=by
 rw[(OQ a b).2.2];exact Gb (Mg a b 8)
theorem dH(a:List MI):(EU a).map (·.2)=a.map Go:=by unfold EU;rw[B0];rfl
theorem dI{w:Aa}{m d g h i l n c:Nat}{q a b:Nat→Nat}{j:Value}{t u:Nat}{e:List MI}(P:HQ e<9):Av w (VM w.2 m d g h i l n c q a b j t u e):=by
 refine Ba.ext λA z C D=> ?_;refine ER (VF w m) ([(m,mO d),(d,AT w.2 q (AH a t) (AH b u) (.ref l) j g h i),(l,li (CM e) n),(248,AP (Fx c))]++EU e) (.refl _) [] D z C AR Ar λF R ω=>⟨_,.refl _,λs S=> ?_⟩
 have H: ∀{x m d l k:Addr×Obj} {Z:Ae},(x::m::d::l::k::Z).Perm (k::x::m::d::l::Z):=λ {x m d l k Z}=>EJ (l₁:=[x,m,d,l]);refine VK (G:=λl=>[(m,mO d),(d,AT w.2 q (AH a t) (AH b u) (.ref l) j g h i)]) (Φ:=λI J o K=>l=I∧n=J∧e=o∧K=[]) D z C (.inr ⟨c,rfl⟩) (S.permS H) (λB s1 Q E r v uB L T=> ?_) (λB s1 l t' Q E r v uB=>VL P r v uB) λs' I J o K U M N hz O y V=> ?_
 ·refine Bq (cI w (F 0) (R 0) m d l q a b t u j g h i) Flow.ret (Ai te10031696195161836380 (F 0)) [] r v uB (Az _ _ (Ah (λ_ _ _=>dG) Ay)) Ar (L.part ((l,li (CM e) n)::EU e) (.refl _)) λX Y aa s2 x y _ W=> ?_
  obtain rfl:x= .ref l:=CZ W;refine T s2 l n e [] rfl ⟨rfl,rfl,rfl,rfl⟩ ((Ag.part _ L (.refl _) y).permR ?_);rw[BR];exact EJ (l₁:=[_,_,_])
 ·obtain⟨rfl,rfl,rfl,rfl⟩:=O
  obtain rfl:c=U:=(N c rfl).symm;refine⟨_,[M],⟨[],[],rfl,rfl,rfl,rfl,rfl⟩,?_,V⟩;have rl:=Kx ([(m,mO d),(d,AT w.2 q (AH a t) (AH b u) (.ref l) j g h i),(l,li (CM e) n),(248,AP (Fx c))]++EU e) ([(m,mO d),(d,AT w.2 q (AH a t) (AH b u) (.ref l) j g h i),(l,li (CM e) n),(248,AP (Fx c))]++EU e) rfl;rw[BC,dH]at rl;have rl:=(BR _).trans rl;refine((y.permL H.symm).permR ?_).permR (.of_eq rl.symm);rw[BR];exact(List.Perm.swap _ _ _).append_left [_,_]
noncomputable def dJ(P:Aj)(e h:Nat)(b g c:Nat→Nat)(i:Nat→Nat)(a:List (Nat×Nat))(l n:Nat)(d:List MI)(j:Ae):Prop:=
 n=a.length+3∧d.length=a.length+1∧(∃o:List Obj,o.length=4*(a.length+1)∧d.map Go=KD (a++[(8,0)]) o)∧j=[(e,CH P),(h,B3 P b g c)]++AZ c i
theorem dK(l n:Nat)(a:List MI):BI (l::a.map MI.x) (li (CM a) n::a.map Go)=(l,li (CM a) n)::EU a:=by
 show(l,li (CM a) n)::BI (a.map MI.x) (a.map Go)=_;congr 1
 induction a with
 |nil=>rfl
 |cons i a b=>exact Am (_:: ·) b
theorem dL{w:Aa}{m d e h j:Nat}{r a b g l v:Nat→Nat}{y:Value}{t u:Nat}{F:List Value}(N:Lt a)(O:Lt b)(P:F=[]∨ ∃c:Nat,F=Fx c):Av w (Rb w.2 m d e h j r a b g l v y t u F (B4 a b)):=by
 have R:Av w (Mz w.2 m d e h j r a b g l v y t u (B4 a b)):=bZ N O;have T:G4 (B4 a b)<9:=VN;have I:=(OQ a b).2.1;clear N O;generalize B4 a b=z at R T I;refine Ba.ext λA U V W=> ?_;refine ER (VF w m) (KF m d e h j t u r a b g l v y w.2++[(248,AP F)]) (.refl _) [] W U V AR Ar λX τ ω=>⟨_,.refl _,λs S=> ?_⟩
 have Y: ∀{x k:Addr×Obj} {Z:Ae},(x::(Z++[k])).Perm (k::x::Z):=λ {x k Z}=>EF (l₁:=x::Z) (l₂:=[k]);refine VK (G:=λl=>[(m,mO d),(d,AT w.2 r (AH a t) (AH b u) (.ref l) y e h j)]) (Φ:=dJ w.2 h e b g l v z) W U V P (S.permS Y) (λB s1 Q E J K uB S1 hq=> ?_) (λB s1 l t' Q E J K uB=>VL T J K uB) λs' D L i Lr H aa ae hz ac M ri=> ?_
 ·refine Bq (cH w (X 0) (τ 0) m d e h j t u r a b g l v y z I) Flow.ret (Ai te10031696195161836380 (X 0)) [] J K uB (Az _ _ (Ah (λ_ _ _=>R) Ay)) Ar S1 (λC ai ad s2 x M _ hx=> ?_) ((by decide: ∀n,n<5→BS ([13,0,1,2]++List.range' 14 (n+1)++[3,4,5,6,7,8,9,10,11,12])=true) _ (Gb I))
  obtain rfl:x= .ref (C 0):=CZ hx;have ln:(z++[(8,0)]).length=z.length+1:=EH;exact hq s2 (C 0) _ _ _ (Q9 C _ z 1 0) ⟨rfl,(VG C _ _ 1 0).trans ln,⟨_,by rw[BZ,List.length_range',ln],VH C ad _ 1 0⟩,rfl⟩ M
 ·obtain⟨e1,hl,⟨o,ho,hm⟩,e2⟩:=ac
  refine⟨_,[aa],⟨D::i.map MI.x,Ac H::o,Am (· +1) ((BZ _).trans hl),rfl,Am (· +1) ho,rfl,rfl⟩,?_,ri⟩;have rl:=Kx (KF m d e h j t u r a b g l v y w.2++[(248,AP F)]) ([(m,mO d),(d,AT w.2 r (AH a t) (AH b u) (.ref D) y e h j),(h,CH w.2),(e,B3 w.2 b g l)]++AZ l v++[(248,AP (Fx H))]) (by (first|((repeat(first|exact .head _|apply List.mem_cons_of_mem));done)|simp));rw[BC,BC]at rl;have e3: ∀ts,BI (D::i.map MI.x) ((Rb w.2 m d e h j r a b g l v y t u F z).news (D::i.map MI.x) ts (Ac H::o))=(D,li (CM i) L)::EU i:=λts=>by
   refine (?_:BI _ (li ((i.map MI.x).map .ref) (z.length+3)::KD (z++[(8,0)]) o)=_);rw[←hm,←e1,B0];exact dK D L i
  rw[e3];refine Ag.permR ?_ (FD _ (.of_eq rl.symm));refine(M.permL Y.symm).permR ?_;rw[e2];exact((EF (l₁:=(248,AP (Fx H))::(D,li (CM i) L)::EU i)).trans (.of_eq (Dt _ [_] _).symm)).append_left [_,_]
set_option maxHeartbeats 4000000
theorem dM(x y:Str)(t u:Nat)(c:t≠0)(d:u≠0)(a:t≠u)(b:x≠y):operate [.str x t,.str y u] (compareOp .Is (.str x t) (.str y u))=pure DG:=by
 have h:=isSame_str_other x y t u (by simp[c,d]) (by simp[a]) (by simpa using b);show(holding [.str x t,.str y u] (do return .bool (←isSame (.str x t) (.str y u)))>>=λr=>release [.str x t,.str y u] [r]>>=λ_=>pure r)=_;rw[h];rfl
noncomputable abbrev Eo:List Stmt:=AO (EO 6 3)
noncomputable abbrev Df:List Stmt:=AO (EO 6 4)
noncomputable abbrev MB(f:Nat):Env:={scope:=EM (EO 6 3),locals:=f,globals:=3,cells:=[],qual:=⟨⟨[83,101,113,117,101,110,99,101,77,97,116,99,104,101,114,46,115,101,116,95,115,101,113,49,46,60,108,111,99,97,108,115,62,46]⟩⟩,func:=some 202,code:=.ref 201,frame:=some f,builtins:=0}
noncomputable abbrev MC(f:Nat):Env:={scope:=EM (EO 6 4),locals:=f,globals:=3,cells:=[],qual:=⟨⟨[83,101,113,117,101,110,99,101,77,97,116,99,104,101,114,46,115,101,116,95,115,101,113,50,46,60,108,111,99,97,108,115,62,46]⟩⟩,func:=some 209,code:=.ref 208,frame:=some f,builtins:=0}
noncomputable abbrev KH(b:List Stmt):Expr:=A9 (Br (sT (AF b 1))) 0
noncomputable abbrev Gp(b:List Stmt):Expr:=A9 (Br (sT (AF b 1))) 1
theorem dN:Eo=[AF Eo 0,.If (.Compare (KH Eo) [.Is] [Gp Eo] (gP (sT (AF Eo 1)))) (AO (AF Eo 1)) [] (sP (AF Eo 1)),AF Eo 2,AF Eo 3]:=by kernel_rfl
theorem dO:Df=[AF Df 0,.If (.Compare (KH Df) [.Is] [Gp Df] (gP (sT (AF Df 1)))) (AO (AF Df 1)) [] (sP (AF Df 1)),AF Df 2,AF Df 3,AF Df 4,AF Df 5]:=by kernel_rfl
noncomputable def tr1A(f:Nat):Sem AE:=eval (KH Eo) (MB f)>>=λv=>pure (.done (.ret v))
noncomputable def tr1B(f:Nat):Sem AE:=eval (Gp Eo) (MB f)>>=λv=>pure (.done (.ret v))
noncomputable def tr1D(f:Nat):Sem AE:=exec (AF Eo 0) (MB f)>>=λv=>pure (.done v)
noncomputable def tr1T(f:Nat):Sem AE:=execs [AF Eo 2,AF Eo 3] (MB f)>>=λv=>pure (.done v)
noncomputable def tr2A(f:Nat):Sem AE:=eval (KH Df) (MC f)>>=λv=>pure (.done (.ret v))
noncomputable def tr2B(f:Nat):Sem AE:=eval (Gp Df) (MC f)>>=λv=>pure (.done (.ret v))
noncomputable def tr2D(f:Nat):Sem AE:=exec (AF Df 0) (MC f)>>=λv=>pure (.done v)
noncomputable def tr2T(f:Nat):Sem AE:=execs [AF Df 2,AF Df 3,AF Df 4,AF Df 5] (MC f)>>=λv=>pure (.done v)
lay_quick tr1A tr1B tr1D tr1T tr2A tr2B tr2D tr2T
theorem VO{w:Aa}{B:Al}{s:Ab}{b:List Stmt}{a:Env}{rest:List Stmt}{x y:Str}{t u:Nat}(g:t≠0)(h:u≠0)(d:t≠u)(e:x≠y)
  (i:b=[AF b 0,.If (.Compare (KH b) [.Is] [Gp b] (gP (sT (AF b 1)))) (AO (AF b 1)) [] (sP (AF b 1))]++rest) (j:markedBehindIn .Is (Gp b) (eval (Gp b) a)=eval (Gp b) a)
  {I:Ab→Prop} (k: ∀s Q E,I s→(∀c,I c→Q .next c)→wpAny (model pw w) B (exec (AF b 0) a) Q E s)
  (l: ∀s Q E,I s→(∀c,I c→Q (.str x t) c)→wpAny (model pw w) B (eval (KH b) a) Q E s)
  (m: ∀s Q E,I s→(∀c,I c→Q (.str y u) c)→wpAny (model pw w) B (eval (Gp b) a) Q E s)
  {Q:Flow→Ab→Prop} {E:Value→Ab→Prop} (n: ∀s,I s→wpAny (model pw w) B (execs rest a) Q E s) (o:I s):wpAny (model pw w) B (execs b a) Q E s:=by
 rw[i];refine (?_:wpAny _ _ (exec (AF b 0) a>>=_) Q E s);refine Af (k s _ _ o λs1 r=> ?_);refine (?_:wpAny _ _ (exec (.If _ _ _ _) a>>=_) Q E s1);refine Af ?_;rw[exec_If];refine Af (Du ?_);rw[isTrue_Compare1];refine Af (Af (l s1 _ _ r λs2 v=> ?_));refine Af ?_;refine (?_:wpAny _ _ (markedBehindIn .Is (Gp b) (eval (Gp b) a)) _ _ _);rw[j];refine m s2 _ _ v λs3 z=> ?_;refine Af (Du ?_);rw[dM x y t u g h d e];refine Af (Ap ?_);refine (?_:wpAny _ _ (truthy DG) _ _ _);refine wpAny_truthy_bool ?_;simp only[CR,if_false];refine (?_:wpAny _ _ (pure Flow.next) _ _ _);exact Ap (n s3 z)
noncomputable abbrev KI:Stmt:=AF (AO (EO 6 5)) 2
noncomputable abbrev KJ(f:Nat):Env:={scope:=EM (EO 6 5),locals:=f,globals:=3,cells:=[],qual:=⟨⟨[83,101,113,117,101,110,99,101,77,97,116,99,104,101,114,46,95,95,99,104,97,105,110,95,98,46,60,108,111,99,97,108,115,62,46]⟩⟩,func:=some 216,code:=.ref 215,frame:=some f,builtins:=0}
noncomputable abbrev IT:Expr:=A9 (Ke KI) 0
noncomputable def Rc:Option Value→Flow
 |some v=>.ret v
 |none=>.next
noncomputable def trN(a:Nat):Sem AE:=pyNext (.ref a)>>=λv=>pure (.done (Rc v))
noncomputable def trAs(f x:Nat):Sem AE:=assign IT (KJ f) (.ref x)>>=λ_=>pure (.done .next)
noncomputable def trCb(f:Nat):Sem AE:=execs (AO KI) (KJ f)>>=λv=>pure (.done v)
lay_quick trN trAs trCb
set_option maxHeartbeats 400000
noncomputable abbrev Fy(a i:Nat)(v:Value):Obj:=fi Gg [.none,.bool false,.ref a,.int i 0,.none,v]
noncomputable abbrev en1O(x a i:Nat)(v:Value):Obj:=fi Gg [.int x 0,.bool false,.ref a,.int i 0,.none,v]
noncomputable abbrev FR(P:Aj)(e:Nat→Nat)(m a:Nat)(b:Nat→Nat)(t:Nat)(x:List DictEntry)(n:Nat):Obj:=fr ([Aq P HC (e 0) (.ref m),Aq P LU (e 1) (AH b t),Aq P NZ (e 2) (.ref a)]++x) n
noncomputable abbrev HS(P:Aj)(a b i:Nat)(x:Str)(c d:Nat):List DictEntry:=[Aq P By a (.int i c),Aq P Oa b (.str x d)]
noncomputable abbrev IU(a b:Nat)(c:Nat→Nat)(d:Nat):=tu [.int a b,.str (c1 (c a)) d] 0
theorem dP(w:Aa)(e a i t:Nat)(b:Nat→Nat)(v:Value):
  AG w 32 (tw11904769587893773449 e) ([(e,Fy a i v),(a,DA b t i)]) (rl 48 155982) (AB [(1,[1])] ([λh j k=>Os a b t i])) [] 570 3400 [0,1,2]
   (λc d g=>.done (.ret (.ref (c 0)))) (λc d g=>[(e,en1O (c 0) a (i+1) (Fs b i (d 0))),(a,DA b t (i+1:Nat)),(c 0,IU i (d 1) b (d 0))]) 2:=by
 kernel_rfl
theorem dQ(w:Aa)(c a t:Nat)(b:Nat→Nat)(v:Value):
  AG w 27 (tw11904769587893773449 c) ([(c,Fy a 8 v),(a,DA b t 8)]) [1,1,1,2,2,2,2,2,2,4] [] [] 570 3400 [0,1]
   (λd e g=>.done .next) (λd e g=>[(c,fi Gg [.none,DG,.ref a,.int 8 0,.none,v]),(a,fi EA [.none,.int 8 0])]) 0:=by
 kernel_rfl
theorem dR(w:Aa)(f x m d i t g h:Nat)(e b:Nat→Nat)(c:Str):
  AG w 66 (tw15462538729567000676 f x) ([(f,FR w.2 e m d b t [] 3),(x,tu [.int i g,.str c h] 0)]) (dg 6 0x14b9e791d4747893c3fd8af) [] [] 570 3400 [0]
   (λj a k=>.done .next) (λj a k=>[(f,FR w.2 e m d b t (HS w.2 (a 0) (a 1) i c g h) 5)]) 2:=by
 kernel_rfl
theorem dS(w:Aa)(f x m a i t d g r h j k l n o:Nat)(e b:Nat→Nat)(c c0:Str):
  AG w 66 (tw15462538729567000676 f x) ([(f,FR w.2 e m a b t (HS w.2 l n r c0 h j++[Ad w Jx o (.ref k)]) 6),(x,tu [.int i d,.str c g] 0)]) (dg 6 0x14b9e791d4747893c3fd8af) [] [] 570 3400 [0]
   (λs u v=>.done .next) (λs u v=>[(f,FR w.2 e m a b t (HS w.2 l n i c d g++[Ad w Jx o (.ref k)]) 6)]) 2:=by
 kernel_rfl
theorem dT(w:Aa)(f m a i t h d k l:Nat)(e b:Nat→Nat)(c:Str)(j:List DictEntry):
  AG w 49 (tw11440542975469638254 f) ([(f,FR w.2 e m a b t (HS w.2 k l i c h d) 5),(a,di j i)]) (dg 4 389304286719) (AB [(0,[1])] ([λo s u=>On a j i (PyData.keyHash w.2 c) (.str c d) (.ref (tk o 0))])) [] 570 3400 [0,1,2]
   (λg n r=>.done .next) (λg n r=>[(f,FR w.2 e m a b t (HS w.2 k l i c h d++[Ad w Jx (n 0) (.ref (g 0))]) 6),(a,di (j++[⟨PyData.keyHash w.2 c,.str c d,.ref (g 0)⟩]) (i+1)),(g 0,li [.int i h] 1)]) 1:=by
 kernel_rfl
theorem dU(w:Aa)(f m a i t h d o k l n:Nat)(e b:Nat→Nat)(c:Str)(j:List DictEntry):
  AG w 49 (tw11440542975469638254 f) ([(f,FR w.2 e m a b t (HS w.2 k l i c h d++[Ad w Jx n (.ref o)]) 6),(a,di j i)]) (dg 4 389304286719) (AB [(0,[1])] ([λr v y=>On a j i (PyData.keyHash w.2 c) (.str c d) (.ref (tk r 0))])) [] 570 3400 [0,1,2]
   (λg s u=>.done .next) (λg s u=>[(f,FR w.2 e m a b t (HS w.2 k l i c h d++[Ad w Jx n (.ref (g 0))]) 6),(a,di (j++[⟨PyData.keyHash w.2 c,.str c d,.ref (g 0)⟩]) (i+1)),(g 0,li [.int i h] 1)]) 1:=by
 kernel_rfl
theorem dW(w:Aa)(f:Nat):
  AD w 6 (.block [] (KJ f)) ([]) [] [] [] 0 570 3400 []
   (λa b c=>.done .next) (λa b c=>[]) 0:=by
 kernel_rfl
theorem dX:IT= .Tuple (Br IT) (tK IT) (gP IT):=by kernel_rfl
inductive KK (P:Aj) (e:Nat→Nat) (m j2:Nat) (b:Nat→Nat) (t:Nat):Bool→Obj→Prop
 |no:KK P e m j2 b t false (FR P e m j2 b t [] 3)
 |yes (y3 y4 y5 i ti tx l0 z:Nat):KK P e m j2 b t true (FR P e m j2 b t (HS P y3 y4 i (c1 z) ti tx++[Aq P Jx y5 (.ref l0)]) 6)
noncomputable def FS(l a:Nat→Nat)(i:Nat):Ae:=(List.range i).map λk=>(l k,li [.int k (a k)] 1)
theorem dY(l a:Nat→Nat)(i x t:Nat):FS l a i++[(x,li [.int i t] 1)]=FS (DO l i x) (DO a i t) (i+1):=by
 unfold FS;rw[J8,BC,List.map_singleton];congr 1
 ·apply DW
  intro k b;have:k<i:=List.mem_range.mp b;simp[DO,CS this]
 ·simp[DO]
theorem eB{w:Aa}{A:Al}{E:Value→Ab→Prop}{s:Ab}{b X a i:Nat}{v:Value}{F:Ae}(S:An (kt w) s ((b,en1O X a i v)::F)){Q:Unit→Ab→Prop}
  (h: ∀g,Ag (kt w) s g ((b,en1O X a i v)::F) ((b,Fy a i v)::F)→Q () g):wpAny (model pw w) A (letOwnedTupleGo IT (.ref b) (.ref X)) Q E s:=by
 rw[dX];have c:=S.mem _ Bj;have d:=S.set (i:=0) rfl (f:=Obj.mapFields (·.setIfInBounds 0 .none)) (p:=(b,en1O X a i v)) rfl;have e:Obj.mapFields (·.setIfInBounds 0 .none) (en1O X a i v)=Fy a i v:=by simp[Obj.mapFields]
 dsimp only at c d;rw[e]at d;have j:(en1O X a i v:Obj)={cls:=.type "enumerate",data:=.fields #[.int X 0,.bool false,.ref a,.int i 0,.none,v]}:=by
  refine (?_:Obj.mk Gg none _ _=_);rw[Qh]
 rw[j]at c;unfold letOwnedTupleGo;refine Af (Jo c ?_);refine (?_:wpAny _ _ (if(["enumerate","zip","dict_itemiterator","dict_reverseitemiterator","odict_iterator","itertools.zip_longest","itertools.pairwise"].contains "enumerate"&&
   (#[.int X 0,.bool false,.ref a,.int i 0,.none,v]:Array Value)[0]? ==some (rawInt X))=true then _ else _) Q E s)
 rw[AS (by simp[rawInt])];refine Af (FI ?_);refine (?_:wpAny _ _ (setField (.ref b) 0 .none) Q E s);exact wpAny_setField c rfl (by (first|((repeat(first|exact .head _|apply List.mem_cons_of_mem));done)|simp)) (h _ d)
theorem eC{w:Aa}{B:Al}(u:B.handled=none)(y:B.depth≤570)(uB:B.units≤3400){E:Value→Ab→Prop}{f m c i t j d X:Nat}{e b g l:Nat→Nat}(z:Lt b)(F:i<8){V:Bool}{o:Obj}(W:KK w.2 e m c b t V o)
  {s:Ab} (S:An (kt w) s [(f,o),(X,IU i j b d),(c,di (Bg w.2 (BJ b g (λk=>.ref (l k)) i)) i)]) {Q:Flow→Ab→Prop}
  (h: ∀G H x,KK w.2 e m c b t true H→Ag (kt w) s G [(f,o),(X,IU i j b d),(c,di (Bg w.2 (BJ b g (λk=>.ref (l k)) i)) i)] [(f,H),(c,di (Bg w.2 (BJ b (DO g i d) (λk=>.ref ((DO l i x) k)) (i+1))) (i+1)),(x,li [.int i j] 1)]→Q .next G):
  wpAny (model pw w) B (assign IT (KJ f) (.ref X)>>=λ_=>execs (AO KI) (KJ f)) Q E s:=by
 have Y:findBy (strKind pw w).is ⟨Bg w.2 (BJ b g (λk=>.ref (l k)) i)⟩ (c1 (b i))=none:=by
  rw[GV];exact Kq z z (by (first|lia|omega)) F λk hk q=>by
   have:=z.inj z (by (first|lia|omega)) F q;(first|lia|omega)
 have I: ∀{v:Value},Av w (On c (Bg w.2 (BJ b g (λk=>.ref (l k)) i)) i (PyData.keyHash w.2 (c1 (b i))) (Fs b i d) v):=qY (strKind pw w) (GW w _ _) rfl (GU w _) Y (by simp[Bg,BJ];(first|lia|omega));have J: ∀x:Nat,Bg w.2 (BJ b g (λk=>.ref (l k)) i)++[⟨PyData.keyHash w.2 (c1 (b i)),.str (c1 (b i)) d,.ref x⟩]=Bg w.2 (BJ b (DO g i d) (λk=>.ref ((DO l i x) k)) (i+1)):=λx=>by
  rw[Ql,Qm];congr 2;funext k;unfold DO
  split <;> rfl
 have A:([(f,o),(X,IU i j b d)]++[(c,di (Bg w.2 (BJ b g (λk=>.ref (l k)) i)) i)]).Perm [(f,o),(X,IU i j b d),(c,di (Bg w.2 (BJ b g (λk=>.ref (l k)) i)) i)]:=AX _;cases W with
 |no=>
  refine Af (Bq (dR w f X m c i t j d e b (c1 (b i))) (λ_:Unit=>Flow.next) (Ai (Ai te15462538729567000676 f) X) [] u y uB AR Ar (S.part _ A) λZ C ω s1 _ a _ _=> ?_);have a:=Ag.part _ S A a;refine Bq (dT w f m c i t j d (C 0) (C 1) e b (c1 (b i)) (Bg w.2 (BJ b g (λk=>.ref (l k)) i))) id (Ai te11440542975469638254 f) [] u y uB (Az _ _ (Ah (λ_ _ _=>I) Ay)) Ar a.sat λK L M s2 D n _ r=> ?_;obtain rfl:D= .next:=r;rw[J]at n;exact h s2 _ _ (.yes ..) (a.trans n)
 |yes N O P i0 R T U z0=>
  refine Af (Bq (dS w f X m c i t j d i0 R T U N O P e b (c1 (b i)) (c1 z0)) (λ_:Unit=>Flow.next) (Ai (Ai te15462538729567000676 f) X) [] u y uB AR Ar (S.part _ A) λZ C ω s1 _ a _ _=> ?_);have a:=Ag.part _ S A a;refine Bq (dU w f m c i t j d U N O P e b (c1 (b i)) (Bg w.2 (BJ b g (λk=>.ref (l k)) i))) id (Ai te11440542975469638254 f) [] u y uB (Az _ _ (Ah (λ_ _ _=>I) Ay)) Ar a.sat λK L M s2 D n _ r=> ?_;obtain rfl:D= .next:=r;rw[J]at n;exact h s2 _ _ (.yes ..) (a.trans n)
theorem eG:Dv KI=[]:=by kernel_rfl
noncomputable abbrev VQ(f a:Nat):Code:=.forLoop IT (.ref a) (AO KI) (Dv KI) (KJ f)
noncomputable def HU(w:Aa)(f c a d t i:Nat)(b g l e:Nat→Nat)(o:Obj)(v:Value):Ae:=[(f,o),(c,Fy a i v),(a,DA b t i),(d,di (Bg w.2 (BJ b g (λk=>.ref (l k)) i)) i)]++FS l e i
inductive eH (w:Aa) (f it sit j2 m t:Nat) (e b:Nat→Nat) (r:Result) (L':Ae) (ts:List Nat):Prop
 |mk (ht:ts=[]) (hr:r= .ok .next) (g l g':Nat→Nat) (o oi os:Obj) (ho:KK w.2 e m j2 b t true o) (hL:L'=[(f,o),(it,oi),(sit,os),(j2,di (Bg w.2 (BJ b g (λk=>.ref (l k)) 8)) 8)]++FS l g' 8)
theorem eJ{w:Aa}{A:Al}(F:A.handled=none)(O:A.depth≤560)(P:A.units≤3300){f d a j m t:Nat}{e b:Nat→Nat}(hb:Lt b): ∀(n i:Nat),i+n=8→ ∀(v:Value) (g l h:Nat→Nat) (B:Bool) (o:Obj),(i≠0→B=true)→KK w.2 e m j b t B o→
  RunsW w A (VQ f d) (HU w f d a j t i b g l h o v)
   (eH w f d a j m t e b):=by
 intro n
 induction n with
 |zero=>
  intro i hi v g l h B o N Q s S;obtain rfl:i=8:=by (first|lia|omega)
  obtain rfl:B=true:=N (by (first|lia|omega));have G:A.depth≤570:=AC O (by decide);have uB:A.units≤3400:=AC P (by decide);have C:([(d,Fy a 8 v),(a,DA b t (8:Nat))]++([(f,o),(j,di (Bg w.2 (GY b g l)) 8)]++FS l h 8)).Perm (HU w f d a j t 8 b g l h o v):=by
   exact AM [] [_,_,_,_,_,_,_,_,_,_,_,_] [0,2,1,3,0,2,5,7,9,11,13,15,17,19,21,23] [5,1,3,7,9,11,13,15,17,19,21,23]
  refine Uc (Bq (dQ w d a t b v) Rc (Ai te11904769587893773449 d) [] F G uB AR Ar (S.part _ C) λH I T s1 x c _ J=> ?_);have c:Ag (kt w) s s1 (HU w f d a j t 8 b g l h o v) ([(d,Fy a 8 v),(a,(fi EA [.none,.int 8 0]))]++([(f,o),(j,di (Bg w.2 (GY b g l)) 8)]++FS l h 8)):=Ag.part _ S C c;obtain rfl:x=none:=by
   cases x with
   |none=>rfl
   |some v=>cases J
  refine⟨rfl,?_⟩;rw[eG];refine B5 ((Bc (dW w f) [] F (AC O (by (first|lia|omega))) (AC P (by (first|lia|omega))) AR Ar (Φ:=λr K U=>r= .ok .next∧K=[]) λH I T=>⟨rfl,rfl⟩) s1 (c.sat.part _ (La:=[]) (AX _))) λr s2 hz=> ?_;obtain⟨K,U,⟨V,R⟩,L,ri⟩:=hz;subst R;have u:Ag (kt w) s s2 (HU w f d a j t 8 b g l h o v) ([(d,Fy a 8 v),(a,(fi EA [.none,.int 8 0]))]++([(f,o),(j,di (Bg w.2 (GY b g l)) 8)]++FS l h 8)):=by
   have z:=c.trans (Ag.part _ c.sat (La:=[]) (AX _) L);exact z
  refine⟨_,[],⟨rfl,V,g,l,h,o,Fy a 8 v,(fi EA [.none,.int 8 0]),Q,rfl⟩,u.permR ?_,u.toks⟩;exact AM [] [_,_,_,_,_,_,_,_,_,_,_,_] [0,2,1,3,0,2,5,7,9,11,13,15,17,19,21,23] [0,4,5,1,3,7,9,11,13,15,17,19,21,23]
 |succ n ih=>
  intro i hi v g l h B o N Q s S;have G:A.depth≤570:=AC O (by decide);have uB:A.units≤3400:=AC P (by decide);have C:([(d,Fy a i v),(a,DA b t i)]++([(f,o),(j,di (Bg w.2 (BJ b g (λk=>.ref (l k)) i)) i)]++FS l h i)).Perm (HU w f d a j t i b g l h o v):=by
   exact AM [_] [_,_,_,_] [0,2,1,3,0,2,5,7,2] [5,1,3,7,2]
  refine Ud (Bq (dP w d a i t b v) Rc (Ai te11904769587893773449 d) [] F G uB (Az _ _ (Ah (λ_ _ _=>Qp (by (first|lia|omega))) Ay)) Ar (S.part _ C) λH I T s1 x c _ J=> ?_);have c:=Ag.part _ S C c;obtain rfl:x=some (.ref (H 0)):=by
   cases x with
   |none=>cases J
   |some v=>cases J;rfl
  refine⟨_,rfl,?_⟩;generalize H 0=X at c;generalize I 0=y at c;generalize I 1=M at c;have c:Ag (kt w) s s1 (HU w f d a j t i b g l h o v) ((d,en1O X a (i+1) (Fs b i y))::([(a,DA b t (i+1:Nat)),(X,IU i M b y)]++([(f,o),(j,di (Bg w.2 (BJ b g (λk=>.ref (l k)) i)) i)]++FS l h i))):=c;refine eB c.sat λs2 u=> ?_;have u:=c.trans u;have W:([(f,o),(X,IU i M b y),(j,di (Bg w.2 (BJ b g (λk=>.ref (l k)) i)) i)]++([(d,Fy a (i+1) (Fs b i y)),(a,DA b t (i+1:Nat))]++FS l h i)).Perm ((d,Fy a (i+1) (Fs b i y))::([(a,DA b t (i+1:Nat)),(X,IU i M b y)]++([(f,o),(j,di (Bg w.2 (BJ b g (λk=>.ref (l k)) i)) i)]++FS l h i))):=by
   exact AM [_] [_,_,_,_,_] [0,3,1,3,5,0,2,7,9,2] [7,0,2,9,3,0,2,1,5,2]
  refine eC F G uB hb (by (first|lia|omega)) Q (u.sat.part _ W) λs3 Y x Z D=>⟨rfl,?_⟩
  have D:=u.trans (Ag.part _ u.sat W D);have E:Ag (kt w) s s3 (HU w f d a j t i b g l h o v) (HU w f d a j t (i+1) b (DO g i y) (DO l i x) (DO h i M) Y (Fs b i y)):=by
   refine D.permR ?_;unfold HU;rw[←dY];exact AM [_] [_,_,_,_,_] [0,3,1,3,5,0,2,7,9,2] [0,4,1,7,9,3,0,1,2,5]
  refine B5 (ih (i+1) (by (first|lia|omega)) _ _ _ _ true Y (λ_=>rfl) Z s3 E.sat) λr s' hz=> ?_;obtain⟨K,U,⟨V,R,g2,l2,g3,o2,oi,os,h3,h4⟩,L,ri⟩:=hz;exact⟨K,[],⟨rfl,R,g2,l2,g3,o2,oi,os,h3,h4⟩,E.trans L,(E.trans L).toks⟩
noncomputable def VR(P:Aj)(f j a g m t:Nat)(e b:Nat→Nat):Ak:=
 {d:=560,u:=3300,h:=none,c:=VQ f j,idx:=[],pre:=[(f,FR P e m g b t [] 3),(j,Fy a 0 .none),(a,DA b t 0),(g,di [] 0)],na:=8,nt:=0,no:=26,r:=λ_ _=>.ok .next,
  outs:=λx _ o=>[FR P e m g b t (HS P (Ao o 2) (Ao o 3) (Ao o 4) (c1 (Ao o 5)) (Ao o 6) (Ao o 7)++[Aq P Jx (Ao o 8) (.ref (Ao o 9))]) 6,o.getD 0 default,o.getD 1 default,B3 P b (λi=>Ao o (10+i)) (λi=>x.getD i 0)],
  news:=λx _ o=>(AZ (λi=>x.getD i 0) (λi=>Ao o (18+i))).map (·.2)}
theorem eK{w:Aa}{f d c j m t:Nat}{e b:Nat→Nat}(k:Lt b):Av w (VR w.2 f d c j m t e b):=by
 refine Ba.ext λA n s u=> ?_;refine(eJ u n s k 8 0 rfl .none (λ_=>0) (λ_=>0) (λ_=>0) false _ (λh=>absurd rfl h) .no).mono λr K L hz=> ?_;obtain⟨v,y,g,l,a,o,B,os,C,D⟩:=hz;cases C with
 |yes E F G i H I J z=>
  refine⟨[l 0,l 1,l 2,l 3,l 4,l 5,l 6,l 7],[B,os,Ac E,Ac F,Ac i,Ac z,Ac H,Ac I,Ac G,Ac J,Ac (g 0),Ac (g 1),Ac (g 2),Ac (g 3),Ac (g 4),Ac (g 5),Ac (g 6),Ac (g 7),Ac (a 0),Ac (a 1),Ac (a 2),Ac (a 3),Ac (a 4),Ac (a 5),Ac (a 6),Ac (a 7)],rfl,by rw[v];rfl,rfl,y,?_⟩;rw[D];rfl
noncomputable abbrev HV(P:Aj)(a b m:Nat)(v:Value):Obj:=fr [Aq P HC a (.ref m),Aq P Cq b v] 2
noncomputable abbrev HW(P:Aj)(a b m:Nat)(v:Value):Obj:=fr [Aq P HC a (.ref m),Aq P LU b v] 2
theorem eM(w:Aa)(m t:Nat)(x:Str):
  AD w 18 (.call (.ref 202) ⟨[.ref m,.str x t],[]⟩) ([]) [0,0,0,1,1,0,1,1,0,1] [] [] 0 520 3000 [0]
   (λa b c=>.again (.func Eo (MB (a 0)))) (λa b c=>[(a 0,HV w.2 (b 0) (b 1) m (.str x t))]) 2:=by
 kernel_rfl
theorem eO(w:Aa)(f:Nat):
  AG w 8 (tw1463747605302588676 f) ([]) [] [] [] 540 3100 []
   (λa b c=>.done .next) (λa b c=>[]) 1:=by
 kernel_rfl
theorem eQ(w:Aa)(f a b m t:Nat)(x:Str):
  AG w 8 (tw2557322063297904708 f) ([(f,HV w.2 a b m (.str x t))]) [1] [] [] 540 3100 [0]
   (λc d e=>.done (.ret (.str x t))) (λc d e=>[(f,HV w.2 a b m (.str x t))]) 0:=by
 kernel_rfl
theorem eS(w:Aa)(f a b m d t u c e g:Nat)(q:Nat→Nat)(x y:Str)(h i j:Value):
  AG w 25 (tw6719146321637281479 f) ([(f,HV w.2 a b m (.str x t)),(m,mO d),(d,AT w.2 q (.str y u) h i j c e g)]) [1,2,0,0,0,2,0,0,0,2,2,0,3] [] [] 540 3100 [0,1,2]
   (λk l n=>.done (.ret (.str y u))) (λk l n=>[(f,HV w.2 a b m (.str x t)),(m,mO d),(d,AT w.2 q (.str y u) h i j c e g)]) 1:=by
 kernel_rfl
theorem eW(w:Aa)(f h i m d t u a b c:Nat)(q:Nat→Nat)(x y:Str)(e j g:Value):
  AG w 88 (tw15770384393619450315 f) ([(f,HV w.2 h i m (.str x t)),(m,mO d),(d,AT w.2 q (.str y u) e j g a b c)]) (dg 4 0x1580888083f60222020fd80888083f) [] [] 540 3100 [1,2]
   (λk l n=>.done .next) (λk l n=>[(m,mO d),(d,AT w.2 q (.str x t) e .none g a b c)]) 6:=by
 kernel_rfl
theorem fA(w:Aa)(m t:Nat)(x:Str):
  AD w 18 (.call (.ref 209) ⟨[.ref m,.str x t],[]⟩) ([]) [0,0,0,1,1,0,1,1,0,1] [] [] 0 520 3000 [0]
   (λa b c=>.again (.func Df (MC (a 0)))) (λa b c=>[(a 0,HW w.2 (b 0) (b 1) m (.str x t))]) 2:=by
 kernel_rfl
theorem fB(w:Aa)(f:Nat):
  AG w 8 (tw10499012718131974035 f) ([]) [] [] [] 540 3100 []
   (λa b c=>.done .next) (λa b c=>[]) 1:=by
 kernel_rfl
theorem fC(w:Aa)(f a b m t:Nat)(x:Str):
  AG w 8 (tw1535098053403080026 f) ([(f,HW w.2 a b m (.str x t))]) [1] [] [] 540 3100 [0]
   (λc d e=>.done (.ret (.str x t))) (λc d e=>[(f,HW w.2 a b m (.str x t))]) 0:=by
 kernel_rfl
theorem fD(w:Aa)(f a b m d t u c e g:Nat)(q:Nat→Nat)(x y:Str)(h i j:Value):
  AG w 25 (tw4129151622873483410 f) ([(f,HW w.2 a b m (.str x t)),(m,mO d),(d,AT w.2 q h (.str y u) i j c e g)]) [1,2,0,0,0,2,0,0,0,2,2,0,3] [] [] 540 3100 [0,1,2]
   (λk l n=>.done (.ret (.str y u))) (λk l n=>[(f,HW w.2 a b m (.str x t)),(m,mO d),(d,AT w.2 q h (.str y u) i j c e g)]) 1:=by
 kernel_rfl
theorem fE(w:Aa)(f j k m d t u l n o:Nat)(q b:Nat→Nat)(y:Str)(h r s:Value):
  AG w 441 (tw15224701032280052195 f) ([(f,HW w.2 j k m (AH b t)),(m,mO d),(d,AT w.2 q h (.str y u) r s l n o)]) (dg 18 0x6a6fe646c3090b5986c845e9ea8aea2fc415f5627bcce9aaea8eb75d562b3d0e08619e50a35149da797d580fd076143e4f0018a8ce0ed3007d88aa7ee98df4c4fa8965045a7faeed552f3ea676ec015988f8a4d2a10eeb9102aa2c92b72fc2fa065999928ba6261b50dcd78483c9eab5c2b4d4865df4fe65170f179c4ff603e0b34675) (AB [(8,[]),(2,[3,6,5,4])] ([λc e v=>Qj (sf b) t,λc e v=>VR w.2 (tk c 0) (tk c 3) (tk c 2) (tk c 1) m t (λi=>[tk e 8,tk e 10,tk e 13].getD i 0) b])) [] 540 3100 [1,2,15,4,7,8,9,10,11,12,13,14]
   (λa z g=>.done .next) (λa z g=>[(m,mO d),(d,AT w.2 q h (AH b t) .none .none (a 1) (a 12) (a 13)),(a 12,CH w.2),(a 1,B3 w.2 b (λi=>BQ (g (10+i))) (λi=>a (4+i)))]++AZ (λi=>a (4+i)) (λi=>BQ (g (18+i)))) 27:=by
 kernel_rfl
theorem Rd{w:Aa}{A:Al}{a:List Stmt}{b:Env}{s:Ab}{R:Result→Ab→Prop}
  (h: ∀B:Al,B.handled=A.handled→B.depth≤A.depth+1→B.units≤A.units+3→ ∀g,wpAny (model pw w) B (execs a b) (λc d=>match c with| .ret v=>R (.ok (.ret v)) d|_=>R (.ok (.ret .none)) d) g s):codeAny (model pw w) A (.func a b) R s:=by
 refine Hp ?_;refine (?_:wpAny _ (A.under (.func a b)) (point>>=λ_=>((execs a b).onRaise (leaving b)>>=λc=>match c with| .ret v=>ret v|_=>ret .none)) _ _ s);refine Af (wpAny_point ?_);refine Af (Fo ?_);refine CE (h (A.under (.func a b)) rfl (A8 _) (A8 _) _) (λc d i=> ?_) λ_ _ e=>e;cases c <;> exact Ap i
noncomputable def VS(P:Aj)(m d a b e t u:Nat)(q:Nat→Nat)(x y:Str)(g j i:Value):Ak:=
 {d:=520,u:=3000,h:=none,c:=.call (.ref 202) ⟨[.ref m,.str x t],[]⟩,idx:=[],pre:=[(m,mO d),(d,AT P q (.str y u) g j i a b e)],na:=0,nt:=0,r:=λ_ _=>.ok (.ret .none),outs:=λ_ _ _=>[mO d,AT P q (.str x t) g .none i a b e],news:=λ_ _ _=>[]}
theorem fF{w:Aa}{m d c e g t u:Nat}{q:Nat→Nat}{x y:Str}{h i j:Value}(P:t≠0)(R:u≠0)(K:t≠u)(L:x≠y):Av w (VS w.2 m d c e g t u q x y h i j):=by
 refine Ba.ext λA M G N=> ?_;refine ER (eM w m t x) [(m,mO d),(d,AT w.2 q (.str y u) h i j c e g)] (by exact AX _) [] N M G AR Ar λT O V=>⟨_,AX _,λs S=> ?_⟩
 generalize T 0=f at S⊢;generalize O 0=k at S;generalize O 1=l at S;have S:An (kt w) s [(f,HV w.2 k l m (.str x t)),(m,mO d),(d,AT w.2 q (.str y u) h i j c e g)]:=S;refine Rd λB n o uB W=> ?_;have n:B.handled=none:=n.trans N;have o:B.depth≤540:=AC o (AC (CC M 1) (by refine (?_:520+1≤540);(first|lia|omega)));have uB:B.units≤3100:=AC uB (AC (CC G 3) (by refine (?_:3000+3≤3100);(first|lia|omega)));refine VO (rest:=[AF Eo 2,AF Eo 3]) P R K L dN (by rfl) (I:=λU=>Ag (kt w) s U [(f,HV w.2 k l m (.str x t)),(m,mO d),(d,AT w.2 q (.str y u) h i j c e g)] [(f,HV w.2 k l m (.str x t)),(m,mO d),(d,AT w.2 q (.str y u) h i j c e g)])
  (λs1 Q E a r=> ?_) (λs1 Q E a r=> ?_) (λs1 Q E a r=> ?_) (λs1 a=> ?_) (.refl S)
 ·refine Bq (eO w f) id (Ai te1463747605302588676 f) [] n o uB AR Ar (a.sat.part _ (La:=[]) (AX _)) λz C D s2 H b _ F=> ?_
  obtain rfl:H= .next:=F;exact r s2 (a.trans (Ag.part _ a.sat (La:=[]) (AX _) b))
 ·refine Bq (eQ w f k l m t x) Flow.ret (Ai te2557322063297904708 f) [] n o uB AR Ar (a.sat.part [(m,mO d),(d,AT w.2 q (.str y u) h i j c e g)] (AX _)) λz C D s2 v b _ J=> ?_
  obtain rfl:v= .str x t:=CZ J;exact r s2 (a.trans (Ag.part [(m,mO d),(d,AT w.2 q (.str y u) h i j c e g)] a.sat (AX _) b))
 ·refine Bq (eS w f k l m d t u c e g q x y h i j) Flow.ret (Ai te6719146321637281479 f) [] n o uB AR Ar a.sat λz C D s2 v b _ J=> ?_
  obtain rfl:v= .str y u:=CZ J;exact r s2 (a.trans b)
 ·refine Bq (eW w f k l m d t u c e g q x y h i j) id (Ai te15770384393619450315 f) [] n o uB AR Ar a.sat λz C D s2 H b _ F=> ?_
  obtain rfl:H= .next:=F;exact⟨_,[],⟨[],[],rfl,rfl,rfl,rfl,rfl⟩,a.trans b,(a.trans b).toks⟩
noncomputable def VT(P:Aj)(m d e g j t u:Nat)(q b:Nat→Nat)(y:Str)(a k l:Value):Ak:=
 {d:=520,u:=3000,h:=none,c:=.call (.ref 209) ⟨[.ref m,.str (sf b) t],[]⟩,idx:=[],pre:=[(m,mO d),(d,AT P q a (.str y u) k l e g j)],na:=10,nt:=0,no:=17,r:=λ_ _=>.ok (.ret .none),
  outs:=λx _ o=>[mO d,AT P q a (AH b t) .none .none (x.getD 1 0) (x.getD 0 0) (Ao o 0)],
  news:=λx _ o=>[CH P,B3 P b (λi=>Ao o (1+i)) (λi=>x.getD (2+i) 0)]++(AZ (λi=>x.getD (2+i) 0) (λi=>Ao o (9+i))).map (·.2)}
theorem fG{w:Aa}{m d h i j t u:Nat}{q b:Nat→Nat}{y:Str}{k l n:Value}(L:Lt b)(T:t≠0)(U:u≠0)(M:t≠u)(N:sf b≠y):Av w (VT w.2 m d h i j t u q b y k l n):=by
 refine Ba.ext λA O H P=> ?_;refine ER (fA w m t (sf b)) [(m,mO d),(d,AT w.2 q k (.str y u) l n h i j)] (by exact AX _) [] P O H AR Ar λV R X=>⟨_,AX _,λs S=> ?_⟩
 generalize V 0=f at S⊢;generalize R 0=o at S;generalize R 1=r at S;have S:An (kt w) s [(f,HW w.2 o r m (AH b t)),(m,mO d),(d,AT w.2 q k (.str y u) l n h i j)]:=S;refine Rd λB z C uB Y=> ?_;have z:B.handled=none:=z.trans P;have C:B.depth≤540:=AC C (AC (CC O 1) (by refine (?_:520+1≤540);(first|lia|omega)));have uB:B.units≤3100:=AC uB (AC (CC H 3) (by refine (?_:3000+3≤3100);(first|lia|omega)));refine VO (rest:=[AF Df 2,AF Df 3,AF Df 4,AF Df 5]) T U M N dO (by rfl) (I:=λW=>Ag (kt w) s W [(f,HW w.2 o r m (AH b t)),(m,mO d),(d,AT w.2 q k (.str y u) l n h i j)] [(f,HW w.2 o r m (AH b t)),(m,mO d),(d,AT w.2 q k (.str y u) l n h i j)])
  (λs1 Q E e D=> ?_) (λs1 Q E e D=> ?_) (λs1 Q E e D=> ?_) (λs1 e=> ?_) (.refl S)
 ·refine Bq (fB w f) id (Ai te10499012718131974035 f) [] z C uB AR Ar (e.sat.part _ (La:=[]) (AX _)) λc F a s2 J g _ G=> ?_
  obtain rfl:J= .next:=G;exact D s2 (e.trans (Ag.part _ e.sat (La:=[]) (AX _) g))
 ·refine Bq (fC w f o r m t (sf b)) Flow.ret (Ai te1535098053403080026 f) [] z C uB AR Ar (e.sat.part [(m,mO d),(d,AT w.2 q k (.str y u) l n h i j)] (AX _)) λc F a s2 v g _ K=> ?_
  obtain rfl:v= .str (sf b) t:=CZ K;exact D s2 (e.trans (Ag.part [(m,mO d),(d,AT w.2 q k (.str y u) l n h i j)] e.sat (AX _) g))
 ·refine Bq (fD w f o r m d t u h i j q (sf b) y k l n) Flow.ret (Ai te4129151622873483410 f) [] z C uB AR Ar e.sat λc F a s2 v g _ K=> ?_
  obtain rfl:v= .str y u:=CZ K;exact D s2 (e.trans g)
 ·refine Bq (fE w f o r m d t u h i j q b y k l n) id (Ai te15224701032280052195 f) [] z C uB (Az _ _ (Ah (λ_ _ _=>Ui L.ascii) (Ah (λ_ _ _=>eK L) Ay))) Ar e.sat λc F a s2 J g _ G=> ?_
  obtain rfl:J= .next:=G;exact⟨_,[],⟨[c 12,c 1,c 4,c 5,c 6,c 7,c 8,c 9,c 10,c 11],[Ac (c 13),a 10,a 11,a 12,a 13,a 14,a 15,a 16,a 17,a 18,a 19,a 20,a 21,a 22,a 23,a 24,a 25],rfl,rfl,rfl,rfl,rfl⟩,e.trans g,(e.trans g).toks⟩
noncomputable def VU(P:Aj):Ak:=
 {d:=520,u:=3000,h:=none,c:=.call (.ref 270) ⟨[],[]⟩,idx:=[],pre:=[],na:=5,nt:=10,r:=λa _=>.ok (.ret (.ref (a.getD 0 0))),outs:=λ_ _ _=>[],
  news:=λa t _=>[mO (a.getD 1 0),AT P (λi=>t.getD i 0) (.str ⟨⟨[]⟩⟩ 539) (.str ⟨⟨[]⟩⟩ 540) .none .none (a.getD 2 0) (a.getD 3 0) (a.getD 4 0),di [] 0,CH P,CH P]}
theorem fH{w:Aa}:Av w (VU w.2):=by
 refine Ba.ext λA b c d=> ?_;exact Bc (wB w) [7,9,11,13,25,27,39,44,47,52] d b c (Az _ _ (Ah (λ_ _ _=>Ui (by (first|((repeat(first|exact .head _|apply List.mem_cons_of_mem));done)|simp))) Ay)) Ar λa e g=>⟨[a 1,a 0,a 7,a 12,a 13],[],rfl,rfl,rfl,rfl,rfl⟩
section
noncomputable abbrev FT(f:Nat):Env:={scope:=EM (DY 10),locals:=f,globals:=3,cells:=[],qual:=⟨⟨[103,101,116,95,99,108,111,115,101,95,109,97,116,99,104,101,115,46,60,108,111,99,97,108,115,62,46]⟩⟩,func:=some 286,code:=.ref 285,frame:=some f,builtins:=0}
noncomputable abbrev FU:Stmt:=AF (AO (DY 10)) 6
noncomputable abbrev Re:UInt64:=4603579539098121011
noncomputable abbrev VW(P:Aj)(e:Nat→Nat)(b:Nat→Nat)(t d k c g m:Nat)(x:List DictEntry)(n:Nat):Obj:=
 fr ([Aq P yW (e 0) (AH b t),Aq P yP (e 1) (.ref d),Aq P LX (e 2) (.int k c),Aq P yC (e 3) (.float Re 731),Aq P D9 (e 4) (.ref g),Aq P yR (e 5) (.ref m)]++x) n
noncomputable def IV(x:UInt64):Bool:=Float64.cmp x Re==some Ordering.gt||Float64.cmp x Re==some Ordering.eq
structure GK where
 f:Nat
 it:Nat
 cl:Nat
 n:Nat
 m:Nat
 d:Nat
 j2:Nat
 bj:Nat
 bp:Nat
 t:Nat
 k:Nat
 tk0:Nat
 rs:Nat
 e:Nat→Nat
 q:Nat→Nat
 b:Nat→Nat
 g:Nat→Nat
 l:Nat→Nat
 g':Nat→Nat
 xs:List Value
structure GS where
 fd:Nat
 yk:Nat
 nr:Nat
 g2:Nat→Nat
 h2:Nat→Nat
 mbv:Value
section
variable (w:Aa)(K:GK)(S:GS)(v:Bool)(i:Nat)(tb:List Value)(y:Str)(u1:Nat)(vs:List Value)
noncomputable def Rf:Obj:=VW w.2 K.e K.b K.t K.cl K.k K.tk0 K.rs K.m (cond v [Ad w Gj S.yk (.str y u1)] []) (cond v 7 6)
noncomputable def Rg:Ae:=[(K.m,mO K.d),(K.d,AT w.2 K.q (.str y u1) (.str (sf K.b) K.t) S.mbv (cond v (.ref S.fd) .none) K.j2 K.bj K.bp),(K.bj,CH w.2),(K.j2,B3 w.2 K.b K.g K.l)]++AZ K.l K.g'++[(248,AP tb),(K.rs,li vs S.nr)]++cond v [(S.fd,JD w.2 K.b S.g2 S.h2)] []
noncomputable abbrev HX(o:Obj):Ae:=[(K.f,Rf w K S v y u1),(K.it,o),(K.cl,li K.xs K.n)]++Rg w K S v tb y u1 vs
noncomputable def OU(d e:Nat→Nat)(b:Nat→Obj)(g:Nat)(c:Value):GS:=⟨cond v S.fd (d 0),cond v S.yk (e 0),g,cond v S.g2 λi=>BQ (b i),cond v S.h2 λi=>BQ (b (8+i)),c⟩
variable (a:Nat→Nat)(ta:Nat)
noncomputable def Rh:List (List Nat→List Nat→List Obj→Ak):=[λb c d=>CW K.it K.cl i K.xs K.n (AH a ta),λb c d=>VS w.2 K.m K.d K.j2 K.bj K.bp ta u1 K.q (sf a) y (.str (sf K.b) K.t) S.mbv (cond v (.ref S.fd) .none),λb c d=>Us w.2 K.m K.d K.j2 K.bj K.bp K.q (cond v (.ref S.fd) .none) a K.b ta K.t,λb c d=>cond v (Uu w.2 K.m K.d K.j2 K.bj K.bp S.fd K.q a K.b S.g2 S.h2 ta K.t) (Ut w.2 K.m K.d K.j2 K.bj K.bp K.q a K.b ta K.t)]
noncomputable abbrev VX:List (Nat×List Nat):=[(0,[1,2]),(0,[3,4]),(0,[3,4]),(1,cond v [3,4,17] [3,4])]
noncomputable abbrev fI:Prop:=AD w 103 (BU FU K.it (FT K.f)) (HX w K S v tb y u1 vs (liO K.cl i)) [2,0,1,1,1,4,0,0,0,4,0,0,0,4,0,0,0,0,4,5,1,0,1,4,0,0,0,4,0,0,0,4,0,0,0,0,4,5,0,1,1,1,4,0,0,0,4,0,0,0,4,0,0,0,0,4,5,0,1,1] (AB (VX v) (Rh w K S v i y u1 a ta)) (Bh [1] [λe g h=>(.bool (IV (Bl (cnt a K.b 8))),.bool false)]) 0 470 2500 [0,1,2,3,4,5,6,7,8,9,10,11,12,13,14,15,16,17]
   (λb c d=>.again (BU FU K.it (FT K.f))) (λb c d=>HX w K (OU S v b c d S.nr .none) true tb (sf a) ta vs (liO K.cl (i+1))) 3
theorem fJ:fI w K S v i tb y u1 vs a ta:=by
 cases v <;> kernel_rfl
variable (bs:List (Nat×Nat))
noncomputable abbrev VY(b:List Nat):Value:=.ref (cond v S.fd (tk b 0))
noncomputable def VZ:List (List Nat→List Nat→List Obj→Ak):=[λb d c=>Rb w.2 K.m K.d K.j2 K.bj K.bp K.q a K.b K.g K.l K.g' (VY S v b) ta K.t tb bs,λb d c=>VM w.2 K.m K.d K.j2 K.bj K.bp (tk b (cond v 0 1)) (bs.length+3) (Ao c (cond v 0 16)) K.q a K.b (VY S v b) ta K.t (KG (tk b) (Ao c) (cond v 1 2) (cond v 1 17) (bs++[(8,0)])),λb d c=>Ck K.rs vs S.nr (.ref (tk b (bs.length+cond v 2 3)))]
noncomputable abbrev fK:Prop:=AD w 172 (BU FU K.it (FT K.f)) (HX w K S v tb y u1 vs (liO K.cl i)) [2,0,1,1,1,4,0,0,0,4,0,0,0,4,0,0,0,0,4,5,1,0,1,4,0,0,0,4,0,0,0,4,0,0,0,0,4,5,0,1,1,1,4,0,0,0,4,0,0,0,4,0,0,0,0,4,5,0,1,1,1,4,0,0,0,4,0,0,0,4,0,0,0,0,4,5,0,1,1,1,17,17,17,17,1,4,0,0,0,4,0,0,0,4,0,0,0,0,4,5,0,1] (AB (VX v++[(1,[3,4,5,6,7,8,9,10,11,12,13,14,15]),(1,[3,4,18,15]++List.range' 19 (bs.length+1)),(0,[16])]) (Rh w K S v i y u1 a ta++VZ w K S v tb vs a ta bs)) (Bh [1,0] [λe g h=>(.bool (IV (Bl (cnt a K.b 8))),.bool true),λe g h=>(.bool (IV (Bl (G4 bs))),.bool true)]) 0 470 2500 ([0,1,2,3,4,5,6,7,8,9,10,11,12,13,14,15,16,17]++[bs.length+20])
   (λb c d=>.again (BU FU K.it (FT K.f))) (λb c d=>HX w K (OU S v b c d (S.nr+1) (.ref (b (cond v 0 1)))) true (Fx (BQ (d (cond v 0 16)))) (sf a) ta (vs++[.ref (b (bs.length+cond v 2 3))]) (liO K.cl (i+1))++[(b (bs.length+cond v 2 3),tu [.float (Bl (G4 bs)) (c 4),.str (sf a) ta] 0)]) 5
end
theorem fL{w:Aa}{K:GK}{S:GS}{v:Bool}{i:Nat}{tb:List Value}{y:Str}{u1:Nat}{vs:List Value}{a:Nat→Nat}{ta:Nat}: ∀{bs:List (Nat×Nat)},(tb=[]∨ ∃c:Nat,tb=Fx c)→bs≠[]→bs.length≤4→fK w K S v i tb y u1 vs a ta bs
 |[],_,h,_=>absurd rfl h
 |[c0],h,_,_=>by rcases h with rfl|⟨c,rfl⟩ <;> cases v <;> kernel_rfl
 |[c0,c1],h,_,_=>by rcases h with rfl|⟨c,rfl⟩ <;> cases v <;> kernel_rfl
 |[c0,c1,b],h,_,_=>by rcases h with rfl|⟨c,rfl⟩ <;> cases v <;> kernel_rfl
 |[c0,c1,b,d],h,_,_=>by rcases h with rfl|⟨c,rfl⟩ <;> cases v <;> kernel_rfl
 |_::_::_::_::_::_,_,_,h=>absurd h (by (first|((repeat(first|exact .head _|apply List.mem_cons_of_mem));done)|simp))
end
section
structure RE where
 T:Nat
 j:Nat
 ft:Nat
noncomputable def MD(A:Nat→Nat→Nat)(ct:Nat→Nat)(b:Nat→Nat)(e:RE):Obj:=tu [.float (Bl (cnt (A e.j) b 8)) e.ft,.str (sf (A e.j)) (ct e.j)] 0
noncomputable def RL(A:Nat→Nat→Nat)(ct:Nat→Nat)(b:Nat→Nat)(R:List RE):Ae:=R.map λe=>(e.T,MD A ct b e)
noncomputable abbrev Gq(R:List RE):List Value:=R.map λe=>Value.ref e.T
noncomputable def ME(A:Nat→Nat→Nat)(b:Nat→Nat)(i:Nat):Bool:=IV (Bl (cnt (A i) b 8))
noncomputable def hits(A:Nat→Nat→Nat)(b:Nat→Nat)(i:Nat):List Nat:=(List.range i).filter (ME A b)
theorem V0(A:Nat→Nat→Nat)(b:Nat→Nat)(i:Nat):hits A b (i+1)=hits A b i++if ME A b i=true then[i]else[]:=by
 unfold hits;rw[J8,List.filter_append];congr 1;cases h:ME A b i <;> simp[h]
structure IW(A:Nat→Nat→Nat)(ct:Nat→Nat)(N:Nat):Prop where
 le:N≤256
 lt: ∀i,i<N→Lt (A i)
 ne: ∀i j,i<N→j<N→i≠j→sf (A i)≠sf (A j)
 t0: ∀i,i<N→810≤ct i
 tn: ∀i j,i<N→j<N→i≠j→ct i≠ct j
noncomputable def Ca(A:Nat→Nat→Nat)(ct:Nat→Nat)(N:Nat):List Value:=(List.range N).map λi=>.str (sf (A i)) (ct i)
theorem fM{A:Nat→Nat→Nat}{ct:Nat→Nat}{N i:Nat}(h:i<N):(Ca A ct N)[i]? =some (.str (sf (A i)) (ct i)):=by
 unfold Ca;rw[Jh,Li h];rfl
section
variable (w:Aa)(K:GK)(A:Nat→Nat→Nat)(ct:Nat→Nat)
noncomputable abbrev Ri:Ae:=HX w K ⟨0,0,0,λ_=>0,λ_=>0,.none⟩ false [] ⟨⟨[]⟩⟩ 539 [] (liO K.cl 0)
noncomputable abbrev KL(i:Nat)(S:GS)(a:List Value)(R:List RE):Ae:=HX w K S true a (sf (A i)) (ct i) (Gq R) (liO K.cl (i+1))++RL A ct K.b R
end
theorem fN(a b c:Ae):(a++b++c).Perm (a++c++b):=by
 rw[Dt,Dt];exact List.perm_append_comm.append_left a
theorem fO(A:Nat→Nat→Nat)(ct:Nat→Nat)(b:Nat→Nat)(R:List RE)(x:RE):RL A ct b (R++[x])=RL A ct b R++[(x.T,MD A ct b x)]:=by simp[RL]
theorem fP(R:List RE)(x:RE):Gq (R++[x])=Gq R++[.ref x.T]:=by simp[Gq]
noncomputable def MF(a:List Value):Prop:=a=[]∨ ∃c:Nat,a=Fx c
theorem V1(b:Nat→Nat):sf b≠⟨⟨[]⟩⟩:=by
 intro h;have:=Am (λs:Str=>s.cps.toList.length) h;simp[sf]at this
theorem fQ:IV (Bl 0)=false:=by decide+kernel
theorem V2{w:Aa}{B:Al}(u:B.handled=none)(z:B.depth≤470)(C:B.units≤2500){A:Nat→Nat→Nat}{ct:Nat→Nat}{N:Nat}(W:IW A ct N){K:GK}(F:K.xs=Ca A ct N)(n:Lt K.b){S:GS}{v:Bool}{i:Nat}(o:i<N){b:List Value}{y:Str}{c:Nat}{R:List RE}(d:MF b)(s:R.map RE.j=hits A K.b i)(G:c≠0)(H:ct i≠c)(I:sf (A i)≠y){D:Result→Ae→List Nat→Prop}
  (m: ∀(S:GS) (b:List Value) (V:List RE),MF b→(R++V).map RE.j=hits A K.b (i+1)→RunsW w B (BU FU K.it (FT K.f)) (KL w K A ct i S b (R++V)) λr L J=>D r L (V.map RE.ft++J)):
  RunsW w B (BU FU K.it (FT K.f)) (HX w K S v b y c (Gq R) (liO K.cl i)++RL A ct K.b R) D:=by
 have t:=W.lt _ o;have E:DF w (Rh w K S v i y c (A i) (ct i)):=Ah (λ_ _ _=>G2 (by rw[F];exact fM o)) (Ah (λ_ _ _=>fF (λe=>absurd (W.t0 _ o) (by rw[e];decide)) G H I) (Ah (λ_ _ _=>wT) (Ah (λ_ _ _=>by cases v;exact wU t n;exact wV t n) Ay)));obtain⟨_,M,O⟩:=OQ (A i) K.b;have j:Bl (G4 (B4 (A i) K.b))=Bl (cnt (A i) K.b 8):=by rw[O]
 by_cases a:ME A K.b i=true
 ·have P:B4 (A i) K.b≠[]:=λh=>by
   rw[h]at j;exact FF ((fQ.symm.trans (Am IV j)).trans a)
  have Q:DF w (VZ w K S v b (Gq R) (A i) (ct i) (B4 (A i) K.b)):=Ah (λ_ _ _=>dL t n d) (Ah (λ_ _ _=>dI (by rw[Q9];exact VN)) (Ah (λ_ _ _=>EB (by
   have:=Am Ir s;rw[BZ]at this⊢;rw[this];exact AC (List.length_filter_le _ _) (by rw[Gc];have:=W.le;(first|lia|omega)))) Ay))
  refine ER (fL d P M) (RL A ct K.b R) (AX _) [4] u z C (Az _ _ (IG E Q)) (Bi _ _ (AA (λ_ _ _=>Am Value.bool a) (AA (λ_ _ _=>Am Value.bool ((Am IV j).trans a)) Bp))) λg k l=>⟨_,?_,m (OU S v g k l (S.nr+1) (.ref (g (cond v 0 1)))) (Fx (BQ (l (cond v 0 16)))) [⟨g ((B4 (A i) K.b).length+cond v 2 3),i,k 4⟩] (.inr ⟨_,rfl⟩) (by rw[BC,s,V0,AS a];rfl)⟩
  unfold KL;rw[fP,fO,←Dt,j];exact fN _ _ _
 ·refine ER (fJ w K S v i b y c (Gq R) (A i) (ct i)) (RL A ct K.b R) (AX _) [] u z C (Az _ _ E) (Bi _ _ (AA (λ_ _ _=>Am Value.bool (eq_false_of_ne_true a)) Bp)) λg k l=>⟨_,?_,m (OU S v g k l S.nr .none) b [] d (by rw[BR,s,V0,AI a,BR])⟩
  unfold KL;rw[BR]
theorem fR{w:Aa}{B:Al}(j:B.handled=none)(k:B.depth≤470)(l:B.units≤2500){A:Nat→Nat→Nat}{ct:Nat→Nat}{N:Nat}(W:IW A ct N){K:GK}(m:K.xs=Ca A ct N)(n:Lt K.b){i:Nat}(b:i+1<N){S:GS}{a:List Value}{R:List RE}(d:MF a)(o:R.map RE.j=hits A K.b (i+1)){g:Result→Ae→List Nat→Prop}
  (h: ∀(S:GS) (a:List Value) (V:List RE),MF a→(R++V).map RE.j=hits A K.b (i+2)→RunsW w B (BU FU K.it (FT K.f)) (KL w K A ct (i+1) S a (R++V)) λr L s=>g r L (V.map RE.ft++s)):
  RunsW w B (BU FU K.it (FT K.f)) (KL w K A ct i S a R) g:=
 have c:=Nat.lt_of_succ_lt b
 V2 j k l W m n b d o (λe=>absurd (W.t0 _ c) (by rw[e];decide)) (W.tn _ _ b c (NH i)) (W.ne _ _ b c (NH i)) h
end
theorem fS(w:Aa)(f a b n i:Nat)(o:Obj)(c:List Value):
  AD w 11 (BU FU a (FT f)) ([(f,o),(a,liO b i),(b,li c n)]) [2,5] (AB [(0,[1,2])] ([λh j k=>Ms a b i c n])) [] 1 470 2500 [0,1,2]
   (λd e g=>.done .next) (λd e g=>[(f,o),(a,fi Bo [.none,.int (↑i) 0]),(b,li c n)]) 0:=by
 kernel_rfl
section
section
variable (w:Aa)(K:GK)(A:Nat→Nat→Nat)(ct:Nat→Nat)
noncomputable abbrev fT(i:Nat)(S:GS)(a:List Value)(R:List RE):Ae:=HX w K S true a (sf (A i)) (ct i) (Gq R) (fi Bo [.none,.int ((i+1:Nat):Int) 0])++RL A ct K.b R
noncomputable def V3(a:List RE)(i:Nat)(r:Result)(L:Ae)(b:List Nat):Prop:=r= .ok .next∧Ew λ (S:GS) (c:List Value) (V:List RE)=>(a++V).map RE.j=hits A K.b (i+1)∧b=V.map RE.ft∧L=fT w K A ct i S c (a++V)
end
theorem fU{w:Aa}{B:Al}(g:B.handled=none)(h:B.depth≤470)(j:B.units≤2500){A:Nat→Nat→Nat}{ct:Nat→Nat}{N:Nat}(W:IW A ct N){K:GK}(k:K.xs=Ca A ct N)(s:Lt K.b){z:Nat}(hz:z+1=N):
  ∀(r i:Nat),i+r=z→ ∀(S:GS) (a:List Value) (R:List RE),MF a→R.map RE.j=hits A K.b (i+1)→RunsW w B (BU FU K.it (FT K.f)) (KL w K A ct i S a R) (V3 w K A ct R z):=by
 intro r
 induction r with
 |zero=>
  intro i l S a R m b;obtain rfl:i=z:=l;refine Md (F:=Rg w K S true a (sf (A i)) (ct i) (Gq R)++RL A ct K.b R) (Φ:=λr L c=>c=[]∧r= .ok .next∧L=[(K.f,Rf w K S true (sf (A i)) (ct i)),(K.it,fi Bo [.none,.int ((i+1:Nat):Int) 0]),(K.cl,li K.xs K.n)])
   (Bc (fS w K.f K.it K.cl K.n (i+1) (Rf w K S true (sf (A i)) (ct i)) K.xs) [] g h j (Az _ _ (Ah (λ_ _ _=>HK (by rw[k];unfold Ca;rw[hz];(first|((repeat(first|exact .head _|apply List.mem_cons_of_mem));done)|simp))) Ay)) Ar λC D E=>⟨rfl,rfl,rfl⟩) ?_
  rintro r L c ⟨d,e,rfl⟩;exact⟨e,S,a,[],by rw[BR];exact b,d,by rw[BR];rfl⟩
 |succ r t=>
  intro i l S a R m b;refine fR g h j W k s (by (first|lia|omega)) m b λS a V n o=>(t (i+1) (by (first|lia|omega)) S a (R++V) n o).mono ?_;rintro r L c ⟨d,S,a,u,e,v,y⟩;exact⟨d,S,a,V++u,by rw[←Dt];exact e,by rw[v,BC],by rw[←Dt];exact y⟩
theorem fV{w:Aa}{B:Al}(b:B.handled=none)(c:B.depth≤470)(d:B.units≤2500){A:Nat→Nat→Nat}{ct:Nat→Nat}{N:Nat}(W:IW A ct N){K:GK}(g:K.xs=Ca A ct N)(h:Lt K.b){z:Nat}(hz:z+1=N):
  RunsW w B (BU FU K.it (FT K.f)) (Ri w K) (V3 w K A ct [] z):=by
 have i:0<N:=by (first|lia|omega)
 rw[←BR (Ri w K)];refine V2 (R:=[]) b c d W g h i (.inl rfl) rfl (by decide) (λe=>absurd (W.t0 _ i) (by rw[e];decide)) (V1 _) λS a V j k=>(fU b c d W g h hz z 0 (Hq z) S a V j k).mono ?_;rintro r L t ⟨l,S,a,m,n,o,s⟩;exact⟨l,S,a,V++m,n,by rw[o,BC],s⟩
end
theorem fW{b:Type}{l a:List b}(h:l=a):l.Sublist a:=h▸List.Sublist.refl _
theorem Rj{b:Type}(f:b→Nat)(g:b→Obj)(l:List b):BI (l.map f) (l.map g)=l.map λk=>(f k,g k):=by
 induction l with
 |nil=>rfl
 |cons a l c=>exact Am (_:: ·) c
theorem V4{a:Type}(f:Nat→a)(n k:Nat)(d:a)(h:k<n):((List.range n).map f).getD k d=f k:=by
 simp[List.getD,Jh,Li h]
theorem OV{a:Type}(R:List a)(z:a):(List.range R.length).map (λj=>R.getD j z)=R:=by
 apply Ho
 ·(first|((repeat(first|exact .head _|apply List.mem_cons_of_mem));done)|simp)
 ·intro i c b
  simp[List.getD,b]
noncomputable def MG(o:Obj):List Value:=match o.data with
 | .fields a=>a.toList
 |_=>[]
structure IX(h:Nat)(pos ip:Nat→Nat):Prop where
 lt: ∀j,j<h→pos j<h
 ipp: ∀j,j<h→ip (pos j)=j
 pi: ∀k,k<h→pos (ip k)=k
 pe:((List.range h).map ip).Perm (List.range h)
structure Rk(A:Nat→Nat→Nat)(b:Nat→Nat)(N h:Nat)(hh pos ip:Nat→Nat):Prop where
 o:IX h pos ip
 hit:hits A b N=(List.range h).map λj=>hh (pos j)
noncomputable def OW(A:Nat→Nat→Nat)(c:Nat→Nat)(b a:Nat→Nat)(k d:Nat):Obj:=tu [.float (Bl (cnt (A (a k)) b 8)) d,.str (sf (A (a k))) (c (a k))] 0
noncomputable def Rl(w:Aa)(K:GK)(A:Nat→Nat→Nat)(a:Nat→Nat)(N:Nat)(e b g:Nat→Nat)(h:Nat):Ak:=
 {d:=470,u:=2500,h:=none,c:=BU FU K.it (FT K.f),idx:=[],pre:=Ri w K,na:=h,nt:=h,no:=5,r:=λ_ _=>.ok .next,
  outs:=λx _ o=>[VW w.2 K.e K.b K.t K.cl K.k K.tk0 K.rs K.m [Ad w Gj (Ao o 0) (.str (sf (A (N-1))) (a (N-1)))] 7,o.getD 1 default,li K.xs K.n,mO K.d,o.getD 2 default,CH w.2,B3 w.2 K.b K.g K.l]++(AZ K.l K.g').map (·.2)++[AP (MG (o.getD 3 default)),li ((List.range h).map λj=>.ref (x.getD (b j) 0)) (Ao o 4)],
  news:=λ_ t o=>(List.range h).map λk=>OW A a K.b e k (tk t (g k))}
theorem fX{w:Aa}{K:GK}{A:Nat→Nat→Nat}{b:Nat→Nat}{N:Nat}{i g a:Nat→Nat}{h:Nat}(W:IW A b N)(H:K.xs=Ca A b N)(I:Lt K.b)(u:0<N)(D:Rk A K.b N h i g a):Av w (Rl w K A b N i g a h):=by
 refine Ba.ext λB J M O=>λs S=>B5 (fV O J M W H I (Nat.sub_add_cancel u) s S) λr X hz=> ?_;obtain⟨Y,v,⟨P,T,Q,R,l,y,C⟩,E,U⟩:=hz;rw[List.nil_append]at l C;rw[Nat.sub_add_cancel u,D.hit]at l;have m:R.length=h:=by
  have:=Am Ir l;rwa[BZ,BZ,Gc]at this
 generalize hz:(⟨0,0,0⟩:RE)=z;have d: ∀j,j<h→(R.getD j z).j=i (g j):=λj d=>by
  have:=Am (λL:List Nat=>L.getD j 0) l;simp only[V4 _ _ _ _ d]at this;rw[←this];have t:j<R.length:=m▸d;simp[List.getD,t]
 have F:(List.range h).map (λj=>R.getD j z)=R:=by rw[←m];exact OV R z
 have V:((List.range h).map λk=>R.getD (a k) z).Perm R:=by
  have:=D.o.pe.map λj=>R.getD j z;rwa[F,B0]at this
 have n: ∀k,k<h→a k<h:=λk c=>List.mem_range.mp (D.o.pe.mem_iff.mp (B7 (List.mem_range.mpr c)));have G:RL A b K.b ((List.range h).map λk=>R.getD (a k) z)=(List.range h).map λk=>((R.getD (a k) z).T,OW A b K.b i k (R.getD (a k) z).ft):=by
  unfold RL;rw[B0];refine DW λk c=> ?_;have c:=List.mem_range.mp c;show(_,MD A b K.b _)=_;unfold MD OW;rw[d _ (n k c),D.o.pi k c]
 have err:Gq R=(List.range h).map λj=>.ref (((List.range h).map λk=>(R.getD (a k) z).T).getD (g j) 0):=by
  conv=>lhs;rw[←F]
  unfold Gq;rw[B0];refine DW λj d=> ?_;have d:=List.mem_range.mp d;refine (?_:Value.ref _=Value.ref _);rw[V4 _ _ _ _ (D.o.lt j d),D.o.ipp j d]
 have en: ∀o,(Rl w K A b N i g a h).news ((List.range h).map λk=>(R.getD (a k) z).T) v o=(List.range h).map λk=>OW A b K.b i k (R.getD (a k) z).ft:=λo=>by
  refine DW λk c=> ?_;have c:=List.mem_range.mp c;have t:a k<R.length:=m▸n k c;congr 1;rw[y];show(R.map RE.ft).getD (a k) 0=_;simp[List.getD,t]
 refine⟨_,v,⟨(List.range h).map λk=>(R.getD (a k) z).T,[Ac T.yk,fi Bo [.none,.int ((N-1+1:Nat):Int) 0],AT w.2 K.q (.str (sf (A (N-1))) (b (N-1))) (.str (sf K.b) K.t) T.mbv (.ref T.fd) K.j2 K.bj K.bp,AP Q,Ac T.nr],by rw[BZ,Gc];rfl,by rw[y,BZ];exact m,rfl,P,rfl⟩,?_,U⟩;rw[en,Rj,←G];rw[C]at E;refine((E.permR ((V.map λe=>(e.T,MD A b K.b e)).symm.append_left _)).subs ?_);refine List.Sublist.append_right ?_ _;unfold HX Rg;refine(fW ?_).trans ((EY _ _).append_left _);rw[err];rfl
structure El where
 T:Nat
 c:Nat
 ft:Nat
 s:Str
 st:Nat
noncomputable def BO(e:El):Obj:=tu [.float (Bl e.c) e.ft,.str e.s e.st] 0
theorem JM: ∀i j,i<9→j<9→Float64.cmp (Bl i) (Bl j)=some (compare i j):=by
 have h: ∀i:Fin 9,∀j:Fin 9,Float64.cmp (Bl i.val) (Bl j.val)=some (compare i.val j.val):=by decide+kernel
 exact λi j a b=>h ⟨i,a⟩ ⟨j,b⟩
theorem fY{i j:Nat}(a:i<9)(b:j<9)(h:Bl i=Bl j):i=j:=by
 have:=JM i i a a;rw[show Float64.cmp (Bl i) (Bl i)=Float64.cmp (Bl i) (Bl j)from by rw[h],JM i j a b]at this;have e:compare i j=compare i i:=FH this;rw[Nat.compare_eq_eq.mpr rfl]at e;exact Nat.compare_eq_eq.mp e
noncomputable def Cs(x y:El):Bool:=decide (y.c<x.c)||(x.c==y.c&&decide (y.s.cps.toList<x.s.cps.toList))
structure C3(x y:El):Prop where
 xc:x.c<9
 yc:y.c<9
 x0:x.ft≠0
 y0:y.ft≠0
 ft:x.ft≠y.ft
 s:x.s≠y.s
theorem C3.symm{x y:El}(h:C3 x y):C3 y x:=⟨h.yc,h.xc,h.y0,h.x0,h.ft.symm,h.s.symm⟩
theorem OX{A:Al}{s:Ab}(c:NoneBooked s.heap){x y:El}(h:C3 x y):EqAt A s (.float (Bl x.c) x.ft) (.float (Bl y.c) y.ft) (x.c==y.c):=by
 have:=EqAt.float (A:=A) c (a:=Bl x.c) (b:=Bl y.c) h.x0 h.y0 h.ft λe=>by
  rw[fY h.xc h.yc e,JM _ _ h.yc h.yc,Nat.compare_eq_eq.mpr rfl];rfl
 rw[JM _ _ h.xc h.yc]at this;have e:(some (compare x.c y.c)==some Ordering.eq)=(x.c==y.c):=by
  by_cases q:x.c=y.c
  ·rw[q,Nat.compare_eq_eq.mpr rfl];(first|((repeat(first|exact .head _|apply List.mem_cons_of_mem));done)|simp)
  ·rw[beq_eq_false_iff_ne.mpr q]
   refine beq_eq_false_iff_ne.mpr λz=>q ?_;exact Nat.compare_eq_eq.mp (FH z)
 rwa[e]at this
theorem OY{A:Al}{s:Ab}{x y:El}(h:C3 x y):EqAt A s (.str x.s x.st) (.str y.s y.st) false:=by
 have:=EqAt.str_str (A:=A) (s:=s) x.s x.st y.s y.st;rwa[beq_eq_false_iff_ne.mpr h.s]at this
theorem fZ{A:Al}{s:Ab}(a:NoneBooked s.heap){x y:El}(h:C3 x y):G3 .Gt A s [.float (Bl x.c) x.ft,.str x.s x.st] [.float (Bl y.c) y.ft,.str y.s y.st] (Cs x y):=by
 have f:=OX (A:=A) a h;unfold Cs;cases q:x.c==y.c with
 |false=>
  rw[q]at f;have c:=CI.float_gt A s (Bl x.c) (Bl y.c) x.ft y.ft;rw[JM _ _ h.xc h.yc]at c;have e:(some (compare x.c y.c)==some Ordering.gt)=(decide (y.c<x.c)||(false&&decide (y.s.cps.toList<x.s.cps.toList))):=by
   rw[Bool.false_and,Lu]
   by_cases z:y.c<x.c
   ·rw[Nat.compare_eq_gt.mpr z];simp[z]
   ·simp only[z,decide_false]
    refine beq_eq_false_iff_ne.mpr λv=>z ?_;exact Nat.compare_eq_gt.mp (FH v)
  rw[e]at c;exact .diff f c
 |true=>
  rw[q]at f;have z: ¬y.c<x.c:=by have:=eq_of_beq q;(first|lia|omega)
  rw[show decide (y.c<x.c)=false from by simp[z],Bool.false_or,Bool.true_and];exact .same f (.diff (OY h) (CI.str_gt A s _ _ _ _))
theorem Rm{A:Al}{s:Ab}(b:NoneBooked s.heap){x y:El}(h:C3 x y):G3 .Lt A s [.float (Bl x.c) x.ft,.str x.s x.st] [.float (Bl y.c) y.ft,.str y.s y.st] (Cs y x):=by
 have f:=OX (A:=A) b h;unfold Cs;cases q:x.c==y.c with
 |false=>
  rw[q]at f;have c:=CI.float_lt A s (Bl x.c) (Bl y.c) x.ft y.ft;rw[JM _ _ h.xc h.yc]at c;have a:(y.c==x.c)=false:=by rw[BEq.comm];exact q
  have e:(some (compare x.c y.c)==some Ordering.lt)=(decide (x.c<y.c)||((y.c==x.c)&&decide (x.s.cps.toList<y.s.cps.toList))):=by
   rw[a,Bool.false_and,Lu]
   by_cases z:x.c<y.c
   ·rw[Nat.compare_eq_lt.mpr z];simp[z]
   ·simp only[z,decide_false]
    refine beq_eq_false_iff_ne.mpr λv=>z ?_;exact Nat.compare_eq_lt.mp (FH v)
  rw[e]at c;exact .diff f c
 |true=>
  rw[q]at f;have z: ¬x.c<y.c:=by have:=eq_of_beq q;(first|lia|omega)
  have a:(y.c==x.c)=true:=by rw[BEq.comm];exact q
  rw[show decide (x.c<y.c)=false from by simp[z],Bool.false_or,a,Bool.true_and];exact .same f (.diff (OY h) (CI.str_lt A s _ _ _ _))
set_option maxHeartbeats 4000000
noncomputable def IY:Option Value→Flow
 |some v=>.ret v
 |none=>.next
noncomputable def trNext(v:Value):Sem AE:=pyNext v>>=λo=>pure (.done (IY o))
lay_quick trNext
set_option maxHeartbeats 400000
noncomputable abbrev Gr(a b:Nat):=fi Bo [.ref a,.int (↑ (b+1)) 0]
noncomputable abbrev OZ(a:Nat):=(tw14694477216599127761 (.ref a))
theorem gA(w:Aa)(a b n i:Nat)(v:Value)(c:List Value):
  AG w 8 (OZ a) (FP a b i c n) [1] (AB [(0,[0,1])] ([λh j k=>CW a b i c n v])) [] 520 3000 [0,1]
   (λd e g=>.done (.ret v)) (λd e g=>[(a,Gr b i),(b,li c n)]) 0:=by
 kernel_rfl
noncomputable abbrev IZ(a b c:Nat)(d:List Value)(e:Nat):=(AB [(0,[0,1])] ([λg h i=>Ms a b c d e]))
noncomputable abbrev I0(a b c:Nat)(d:List Value)(e:Nat):=[(a,fi Bo [.none,.int (↑ b) 0]),(c,li d e)]
theorem gB(w:Aa)(a b n i:Nat)(c:List Value):
  AG w 9 (OZ a) (FP a b i c n) [1,4] (IZ a b i c n) [] 520 3000 [0,1]
   (λd e g=>.done .next) (λd e g=>(I0 a i b c n)) 0:=by
 kernel_rfl
theorem O0{a b:Option Value}(h:IY a=IY b):a=b:=by
 cases a <;> cases b <;> simp[IY]at h⊢
 exact h
theorem MH{w:Aa}{A:Al}(d:A.handled=none)(e:A.depth≤520)(g:A.units≤3000){a rs n i:Nat}{v:Value}{vs:List Value}(j:vs[i]? =some v){s:Ab}{Q:Option Value→Ab→Prop}{k:Value→Ab→Prop}{F L:Ae}
  (c:((FP a rs i vs n)++F).Perm L) (S:An (kt w) s L) (h: ∀b,Ag (kt w) s b L ([(a,liO rs (i+1)),(rs,li vs n)]++F)→Q (some v) b):wpAny (model pw w) A (pyNext (.ref a)) Q k s:=
 Bq (gA w a rs n i v vs) IY (Ai te14694477216599127761 (.ref a)) [] d e g (Az _ _ (Ah (λ_ _ _=>G2 j) Ay)) Ar ((S.perm c.symm).left) λo r t b x l _ m=>by
  obtain rfl:x=some v:=O0 m;exact h b ((l.frame (S.perm c.symm)).permL c)
theorem O1{w:Aa}{A:Al}(d:A.handled=none)(e:A.depth≤520)(g:A.units≤3000){a rs n i:Nat}{vs:List Value}(j:vs[i]? =none){s:Ab}{Q:Option Value→Ab→Prop}{k:Value→Ab→Prop}{F L:Ae}
  (c:([(a,liO rs i),(rs,li vs n)]++F).Perm L) (S:An (kt w) s L) (h: ∀b,Ag (kt w) s b L ([(a,fi Bo [.none,.int (i:Int) 0]),(rs,li vs n)]++F)→Q none b):wpAny (model pw w) A (pyNext (.ref a)) Q k s:=
 Bq (gB w a rs n i vs) IY (Ai te14694477216599127761 (.ref a)) [] d e g (Az _ _ (Ah (λ_ _ _=>HK j) Ay)) Ar ((S.perm c.symm).left) λo r t b x l _ m=>by
  obtain rfl:x=none:=O0 m;exact h b ((l.frame (S.perm c.symm)).permL c)
noncomputable abbrev HY:Str:=⟨⟨[100,101,102,97,117,108,116]⟩⟩
noncomputable def EL(X:List El):Ae:=X.map λe=>(e.T,BO e)
noncomputable abbrev Ax(X:List El):List Value:=X.map λe=>Value.ref e.T
noncomputable abbrev V5(b c a:Nat):Code:=.builtin "max.loop" ⟨[.ref b,.none,.ref c],[(HY,.ref a)]⟩
theorem HZ{X:List El}{e:El}(h:e∈X):(e.T,BO e)∈EL X:=B7 h
theorem gC{w:Aa}{A:Al}{R:Result→Ab→Prop}(Q:A.in1.handled=none)(T:A.in1.depth≤520)(P:A.in1.units≤3000){C d l U n:Nat}{X:List El}{m:El}(V:X.Pairwise C3)(hm:m∈X)(W: ∀y∈X,y≠m→Cs m y=true∧Cs y m=false):
  ∀(k j:Nat) (s:Ab) (b:El) (c:Nat),X.length=j+1+k→j+1≤X.length→b∈X.take (j+1)→(m∈X.take (j+1)→b=m)→
  An (kt w) s ([(C,liO l (j+1)),(l,li (Ax X) n),(d,li [.ref b.T,.ref b.T] c)]++EL X)→
  (∀D H,Ag (kt w) s D ([(C,liO l (j+1)),(l,li (Ax X) n),(d,li [.ref b.T,.ref b.T] c)]++EL X) ([(C,fi Bo [.none,.int (X.length:Int) 0]),(l,li (Ax X) n),(d,li [] H)]++EL X)→R (.ok (.ret (.ref m.T))) D)→
  codeAny (model pw w) A (V5 C d U) R s:=by
 have u:(toString "max"++toString ".loop":String)="max.loop":=by decide
 have Y:A.in1.units<cLine:=CQ P (by decide);intro k
 induction k with
 |zero=>
  intro j s b c E hj J z S G;have L:j+1=X.length:=E.symm;have hS:=S.mem (d,li [.ref b.T,.ref b.T] c) (by (first|((repeat(first|exact .head _|apply List.mem_cons_of_mem));done)|simp));have Z:b=m:=z (by rw[NA (Kb E)];exact hm);refine EK F.entry_max_loop ?_;rw[EG F.plain_max_loop _];refine (?_:wpAny _ A.in1 (seqItems? (.ref d)>>=_) _ _ s);refine Af (Dc hS rfl ?_);refine (?_:wpAny _ A.in1 (tryCatch (pyNext (.ref C)) _>>=_) _ _ s);refine Af (wpAny_tryCatch (O1 Q T P (i:=j+1) (n:=n) (vs:=Ax X) (rs:=l) (by simp[L]) (F:=[(d,li [.ref b.T,.ref b.T] c)]++EL X) (by exact AX _) S λs1 a=> ?_));have I:=a.sat.mem (d,li [.ref b.T,.ref b.T] c) (by (first|((repeat(first|exact .head _|apply List.mem_cons_of_mem));done)|simp));refine (?_:wpAny _ A.in1 (updateSeq d (λ_=> #[])>>=_) _ _ _);refine Af ?_;refine wpAny_updateSeq I rfl (Af (wpAny_letGo (Ap ?_)));rw[←Z]at G;have B:=a.sat.set (i:=2) rfl (f:=Obj.mapSeq λ_=> #[]) (p:=(d,li [.ref b.T,.ref b.T] c)) rfl;have g:=a.trans B;rw[L]at g G;exact G _ _ g
 |succ k ih=>
  intro j s b c E hj J z S G;have o:j+1<X.length:=E.symm▸Nz (GH k);have hS:=S.mem (d,li [.ref b.T,.ref b.T] c) (by (first|((repeat(first|exact .head _|apply List.mem_cons_of_mem));done)|simp));let v:=X[j+1];have hv:X[j+1]? =some v:=Eu o;have K:X.take (j+2)=X.take (j+1)++[v]:=by rw[Jg,hv];rfl
  have M:v∈X:=Db o;have N:b∈X:=Hm J;have ap: ∀y∈X.take (j+1),C3 y v:=λy hy=>by
   have h:=V;rw[←NC (j+1) X,List.pairwise_append]at h;exact h.2.2 y hy v (by rw[Ny o];exact Bj)
  have O:=(ap b J).symm;refine EK F.entry_max_loop ?_;rw[EG F.plain_max_loop _];refine (?_:wpAny _ A.in1 (seqItems? (.ref d)>>=_) _ _ s);refine Af (Dc hS rfl ?_);refine (?_:wpAny _ A.in1 (tryCatch (pyNext (.ref C)) _>>=_) _ _ s);refine Af (wpAny_tryCatch (MH Q T P (i:=j+1) (n:=n) (v:=.ref v.T) (vs:=Ax X) (rs:=l) (by simp[hv]) (F:=[(d,li [.ref b.T,.ref b.T] c)]++EL X) (by exact AX _) S λs1 a=> ?_));have I:=a.sat.mem (d,li [.ref b.T,.ref b.T] c) (by (first|((repeat(first|exact .head _|apply List.mem_cons_of_mem));done)|simp));have aa:=a.sat.mem (v.T,BO v) (BG _ (BG _ (HZ M)));have ac:=a.sat.mem (b.T,BO b) (BG _ (BG _ (HZ N)));refine (?_:wpAny _ A.in1 (tryCatch (holding [.ref v.T,.ref v.T] (richCompare .Gt (.ref v.T) (.ref b.T)>>=_)) _>>=_) _ _ _);refine Af (wpAny_tryCatch (Dl (Af (CI.tuple_gt Y aa ac (fZ (Mu a.sat) O) pw w _ _ ?_))));refine Af (Dl (wpAny_truthy_bool ?_));refine Af (wpAny_letGo (Ap ?_));cases r:Cs v b with
  |true=>
   simp only[if_true];refine Af ?_;refine wpAny_updateSeq I rfl (Af (wpAny_letGo ?_));rw[u];have B:=a.sat.set (i:=2) rfl (f:=Obj.mapSeq λ_=> #[.ref v.T,.ref v.T]) (p:=(d,li [.ref b.T,.ref b.T] c)) rfl;refine Ap ⟨plainId_quiet F.plain_max_loop _,ih (j+1) _ v _ (E.trans (Lk (j+1) k 1)) o (by rw[K];(first|((repeat(first|exact .head _|apply List.mem_cons_of_mem));done)|simp)) (λt=> ?_) B.sat λD H g=>G D H ((a.trans B).trans g)⟩;rw[K]at t;rcases List.mem_append.mp t with h|h
   ·have e:=z h
    rw[e]at r;have vm:v≠m:=λq=>(ap m h).ft (by rw[q]);rw[(W v M vm).2]at r;cases r
   ·exact(List.mem_singleton.mp h).symm
  |false=>
   simp only[CR,if_false];refine Af (wpAny_letGo ?_);rw[u];refine Ap ⟨plainId_quiet F.plain_max_loop _,ih (j+1) _ b c (E.trans (Lk (j+1) k 1)) o (by rw[K];exact Dk _ J) (λt=> ?_) a.sat λD H g=>G D H (a.trans g)⟩;rw[K]at t;rcases List.mem_append.mp t with h|h
   ·exact z h
   ·have e:m=v:=List.mem_singleton.mp h
    have bm:b≠m:=λq=>O.ft (by rw[←e,←q]);rw[←e,(W b N bm).1]at r;cases r
noncomputable abbrev AJ(a:Nat)(b:List El)(c:Nat):=(a,li (Ax b) c)
theorem gE{w:Aa}{A:Al}{R:Result→Ab→Prop}(o:A.in1.handled=none)(r:A.in1.depth≤520)(t:A.in1.units≤3000){b bs a sen n:Nat}{X:List El}{m:El}(u:X.Pairwise C3)(z:m∈X)(G: ∀y∈X,y≠m→Cs m y=true∧Cs y m=false)
  {s:Ab} {c:Nat} (S:An (kt w) s ([(b,liO a 0),AJ a X n,(bs,li [] c)]++EL X))
  (H: ∀e k,Ag (kt w) s e ([(b,liO a 0),AJ a X n,(bs,li [] c)]++EL X) ([(b,fi Bo [.none,.int (X.length:Int) 0]),AJ a X n,(bs,li [] k)]++EL X)→R (.ok (.ret (.ref m.T))) e):
  codeAny (model pw w) A (V5 b bs sen) R s:=by
 have g:(toString "max"++toString ".loop":String)="max.loop":=by decide
 have hS:=S.mem (bs,li [] c) (by (first|((repeat(first|exact .head _|apply List.mem_cons_of_mem));done)|simp));have l:0<X.length:=List.length_pos_of_mem z;let v:=X[0];have B:X[0]? =some v:=Eu l;refine EK F.entry_max_loop ?_;rw[EG F.plain_max_loop _];refine (?_:wpAny _ A.in1 (seqItems? (.ref bs)>>=_) _ _ s);refine Af (Dc hS rfl ?_);refine (?_:wpAny _ A.in1 (tryCatch (pyNext (.ref b)) _>>=_) _ _ s);refine Af (wpAny_tryCatch (MH o r t (i:=0) (n:=n) (v:=.ref v.T) (vs:=Ax X) (rs:=a) (by simp[B]) (F:=[(bs,li [] c)]++EL X) (by exact AX _) S λs1 d=> ?_));have C:=d.sat.mem (bs,li [] c) (by (first|((repeat(first|exact .head _|apply List.mem_cons_of_mem));done)|simp));refine (?_:wpAny _ A.in1 (updateSeq bs (λ_=> #[.ref v.T,.ref v.T])>>=_) _ _ _);refine Af ?_;refine wpAny_updateSeq C rfl ?_;rw[g];have j:=d.sat.set (i:=2) rfl (f:=Obj.mapSeq λ_=> #[.ref v.T,.ref v.T]) (p:=(bs,li [] c)) rfl;have D:X.take 1=[v]:=by rw[Jg,B];rfl
 exact Ap ⟨plainId_quiet F.plain_max_loop _,gC o r t u z G _ 0 _ v _ (ND l).symm l (by rw[D];(first|((repeat(first|exact .head _|apply List.mem_cons_of_mem));done)|simp)) (λh=>by rw[D]at h;exact(List.mem_singleton.mp h).symm) j.sat λe k E=>H e k ((d.trans j).trans E)⟩
theorem gF(w:Aa)(a b i:Nat):
  AG w 14 (tw1895007636148923766 (.ref a)) ([(a,liO b i)]) [1,1,1,1,1] [] [] 520 3000 [0]
   (λc d e=>.done (.ret (.ref a))) (λc d e=>[(a,fi Bo [.ref b,.int (↑i) 0])]) 0:=by
 kernel_rfl
noncomputable abbrev FV:Str:=⟨⟨[107,101,121]⟩⟩
theorem gG(a b:Value):argsOk "max" ⟨[a],[(HY,b),(FV,.none)]⟩:=by unfold argsOk;kernel_rfl
noncomputable def I1(a b e n:Nat)(X:List El)(m:El):Ak:=
 {d:=500,u:=2800,h:=none,c:=.call (.builtin Oh) ⟨[.ref a],[(HY,.ref e),(FV,.none)]⟩,idx:=[],pre:=[(a,liO b 0),AJ b X n]++EL X,na:=0,nt:=0,r:=λ_ _=>.ok (.ret (.ref m.T)),outs:=λ_ _ _=>[fi Bo [.none,.int (X.length:Int) 0],li (Ax X) n]++X.map BO,news:=λ_ _ _=>[]}
theorem Rn: ∀X:List El,Bk (EL X) (X.map BO)=EL X
 |[]=>rfl
 |e::X=>Am (_:: ·) (Rn X)
theorem gJ{w:Aa}{it rs sen n:Nat}{X:List El}{m:El}(B:X.Pairwise C3)(I:m∈X)(J: ∀y∈X,y≠m→Cs m y=true∧Cs y m=false):Av w (I1 it rs sen n X m):=by
 intro A K L M s S _;have C:A.in1.handled=none:=M;have h:A.in1.depth≤520:=AC (show A.in1.depth≤500 from K) (by decide);have i:A.in1.units≤3000:=AC (show A.in1.units≤2801 from CC L 1) (by decide);have S:An (kt w) s ([(it,liO rs 0),AJ rs X n]++EL X):=S;refine (?_:codeAny _ A (.call (.builtin Oh) _) _ s);rw[qK];refine DV F.plain_max F.entry_max ?_;simp only[checkBuiltinCall,F.kind_max];have D:=gG (.ref it) (.ref sen);have fin: ∀R:Result→Ab→Prop,(∀b,Ag (kt w) s b ([(it,liO rs 0),AJ rs X n]++EL X) ([(it,fi Bo [.none,.int (X.length:Int) 0]),AJ rs X n]++EL X)→R (.ok (.ret (.ref m.T))) b)→
   wpAny (model pw w) A.in1 (Builtin.«max» ⟨[.ref it],[(HY,.ref sen),(FV,.none)]⟩) (λfin b=>match fin with| .done f=>R (.ok f) b| .again u=>u.quiet=true∧codeAny (model pw w) A u R b) (λe b=>R (.error e) b) s:=λR N=>by
  have d:(toString "max"++toString ".loop":String)="max.loop":=by decide
  refine (?_:wpAny _ A.in1 (Builtin.Builtins.bindParams "max" ["key","default"] 0 ⟨[],[(HY,.ref sen),(FV,.none)]⟩>>=_) _ _ s);refine Af (GI (show Builtin.Builtins.bindParams "max" ["key","default"] 0 ⟨[],[(HY,.ref sen),(FV,.none)]⟩=pure [some .none,some (.ref sen)]from rfl) ?_);refine Af (Ap ?_);refine Af (Bq (gF w it rs 0) Flow.ret (Ai te1895007636148923766 (.ref it)) [] C h i AR Ar (S.part ([AJ rs X n]++EL X) (La:=[(it,liO rs 0)]) (AX _)) λT U V s1 v g _ O=> ?_);obtain rfl:v= .ref it:=CZ O;have j:=Ag.part ([AJ rs X n]++EL X) S (La:=[(it,liO rs 0)]) (AX _) g;refine Af (wpAny_newObj_type ?_);have k:=j.sat.push (o:=li [] 0) rfl;have E:([(it,liO rs 0)]++([AJ rs X n]++EL X)++[(s1.heap.objs.size,li [] 0)]).Perm ([(it,liO rs 0),AJ rs X n,(s1.heap.objs.size,li [] 0)]++EL X):=by
   exact AM [_] [_,_,_] [0,7,0,1,1,0,1,3,2,5] [0,3,1,3,5,2]
  rw[d];refine Ap ⟨plainId_quiet F.plain_max_loop _,gE C h i (bs:=s1.heap.objs.size) (sen:=sen) B I J (k.sat.perm E) λb u G=>N b ?_⟩;have H:=(j.trans (k.permR E)).trans G;refine H.subs ?_;exact((Pw _ (EL X)).cons_cons _).cons_cons _
 have c:=fin (λP b=>Ew λa t o=>a.length=0∧t.length=0∧o.length=0∧P=(I1 it rs sen n X m).rx o ((I1 it rs sen n X m).r a t)∧Js (kt w) none s b (I1 it rs sen n X m).pre (Bk (I1 it rs sen n X m).pre ((I1 it rs sen n X m).outs a t o)++BI a ((I1 it rs sen n X m).news a t o))∧AY s.toks b.toks t) λb g=>⟨[],[],[],rfl,rfl,rfl,rfl,by
  refine (?_:Ag (kt w) s b ([(it,liO rs 0),AJ rs X n]++EL X) ((it,_)::(rs,_)::Bk (EL X) (X.map BO)++[]));rw[Rn,BR];exact g,g.toks⟩
 cases z:Manifest.signature? "max" with
 |none=>exact Ap c
 |some l=>
  simp only[argsOk,z]at D;have Q:Bind.checkArgs "max" l ⟨[.ref it],[(HY,.ref sen),(FV,.none)]⟩=pure ():=D;refine (?_:wpAny _ _ (Bind.checkArgs "max" l ⟨[.ref it],[(HY,.ref sen),(FV,.none)]⟩) _ _ s);rw[Q];exact Ap c
theorem gK{w:Aa}{A:Al}{E:Value→Ab→Prop}{s:Ab}{a b:UInt64}{t u:Tok}{Q:Value→Ab→Prop}(h:Q (.bool (Float64.cmp a b==some Ordering.lt)) s):
  wpAny (model pw w) A (call (.builtin "float.__lt__") [.float a t,.float b u]) Q E s:=by
 refine wpAny_call_entry F.slot_float_lt (AutoFloatOps.typeIs_float s a t) F.entry_float_lt ?_ (F.args_float_lt_2 _ _);refine (?_:wpAny _ _ (ret (.bool (Float64.cmp a b==some Ordering.lt))) _ _ s);exact Ap ⟨_,rfl,h⟩
theorem gL{w:Aa}{A:Al}{E:Value→Ab→Prop}{s:Ab}{a b:UInt64}{t u:Tok}{Q:Bool→Ab→Prop}(h:Q (Float64.cmp a b==some Ordering.lt) s):wpAny (model pw w) A (oneLt' true (.float a t) (.float b u)) Q E s:=by
 rw[oneLt'_eq];simp only[if_true];refine Af (wpAny_cRoomFor_byValue rfl ?_);refine Af (wpAny_callSpecialIfBound?_slot (AutoFloatOps.typeIs_float s a t) F.slot_float_lt (gK ?_));exact wpAny_truthy_bool h
theorem gM{w:Aa}{A:Al}{E:Value→Ab→Prop}{s:Ab}(c:NoneBooked s.heap){x y:El}(h:C3 x y)(d:s.heap.get? x.T=some (BO x))(g:s.heap.get? y.T=some (BO y)){Q:Bool→Ab→Prop}(a:Q (Cs y x) s):
  wpAny (model pw w) A (keyLt' (tuples' true) (.ref x.T) (.ref y.T)) Q E s:=by
 refine kat_lt d rfl g rfl ?_;have f:=OX (A:=A) c h;refine kat_cons (f pw w _ _ (kat_go (λe=>kat_yes ?_) λe=>kat_no ?_))
 ·refine kat_cons (OY h pw w _ _ (kat_no (kat_one _ _ (P.lt_str ?_))))
  have b:x.c=y.c:=eq_of_beq e;refine (?_:Q _ s);unfold Cs at a;rw[b]at a;simpa using a
 ·refine gL ?_
  rw[JM _ _ h.xc h.yc];have b:(y.c==x.c)=false:=by rw[BEq.comm];exact e
  have i:(some (compare x.c y.c)==some Ordering.lt)=Cs y x:=by
   unfold Cs;rw[b,Bool.false_and,Lu]
   by_cases z:x.c<y.c
   ·rw[Nat.compare_eq_lt.mpr z];simp[z]
   ·simp only[z,decide_false]
    refine beq_eq_false_iff_ne.mpr λv=>z ?_;exact Nat.compare_eq_lt.mp (FH v)
  rw[i];exact a
theorem V6{h:Heap}: ∀{X:List El},(∀e∈X,h.get? e.T=some (BO e))→KatTups h (Ax X) (X.map λe=>.float (Bl e.c) e.ft)
 |[],_=>trivial
 |e::X,a=>⟨⟨e.T,BO e,_,0,rfl,a e Bj,rfl,rfl,rfl⟩,V6 λx b=>a x (BB _ b)⟩
theorem gN{w:Aa}{A:Al}{E:Value→Ab→Prop}{s:Ab}{X:List El}(a:0<X.length)(b: ∀e∈X,s.heap.get? e.T=some (BO e)){Q:SortKind→Ab→Prop}(c:Q (tuples' true) s):wpAny (model pw w) A (keyKind' (Ax X).toArray) Q E s:=by
 refine kat_kind (T:=.type "float") (V6 b) (by simpa using a) (λv d=> ?_) (by rfl) c;obtain⟨e,_,rfl⟩:=List.mem_map.mp d;exact .now
structure Ee(Y:List El)(f:El→Nat):Prop where
 ap:Y.Pairwise C3
 down:Y.Pairwise λa b=>f b<f a
 gt: ∀x∈Y,∀y∈Y,f x≠f y→Cs y x=decide (f x<f y)
theorem O2{g:Type}{R:g→g→Prop}(k: ∀{a b},R a b→R b a): ∀{l:List g},l.Pairwise R→ ∀{x y},x∈l→y∈l→x≠y→R x y:=by
 intro l
 induction l with
 |nil=>intro _ x y i;cases i
 |cons a l m=>
  intro h x y i j d;rw[List.pairwise_cons]at h;rcases List.mem_cons.mp i with rfl|e
  ·rcases List.mem_cons.mp j with rfl|c
   ·exact absurd rfl d
   ·exact h.1 _ c
  ·rcases List.mem_cons.mp j with rfl|c
   ·exact k (h.1 _ e)
   ·exact m h.2 e c d
theorem Ee.apart{Y:List El}{f:El→Nat}(h:Ee Y f){x y:El}(b:x∈Y)(c:y∈Y)(a:x≠y):C3 x y:=O2 C3.symm h.ap b c a
theorem Ro{X:List El}(d:El){i:Nat}(a:i<X.length):(Ax X).getD i .none= .ref (X.getD i d).T:=by
 simp[Ax,a]
theorem gO{w:Aa}{A:Al}{E:Value→Ab→Prop}(hu:A.units<cLine){a n:Nat}{X Y:List El}{f:El→Nat}(v:X.Perm Y)(K:Ee Y f)(U:2≤X.length)(M:X.length<64){s:Ab}(S:An (kt w) s ((a,li (Ax X) n)::EL Y)){P:AE→Ab→Prop}
  (h: ∀l,Ag (kt w) s l ((a,li (Ax X) n)::EL Y) ((a,li (Ax Y) (n+2))::EL Y)→P (.done (.ret .none)) l):wpAny (model pw w) A (ET a true) P E s:=by
 let d:El:=⟨0,0,0,⟨⟨[]⟩⟩,0⟩
 have o:(Ax X).length=X.length:=by simp[Ax]
 have N:katRev true (Ax X)=Ax X.reverse:=by simp[katRev,Ax]
 have t: ∀{i},i<X.length→X.reverse.getD i d∈Y:=λ {i} c=>by
  have m:i<X.reverse.length:=by simpa using c
  rw[show X.reverse.getD i d=X.reverse[i] by simp[List.getD,c]];exact v.mem_iff.mp (List.mem_reverse.mp (Db m))
 have V:X.reverse.Perm Y.reverse:=(GD X).trans (v.trans (GD Y).symm);have H:X.reverse.Pairwise (λa b=>f a≠f b):=by
  have:Y.Pairwise (λa b=>f a≠f b):=K.down.imp λh=>Ne.symm (CS h);exact(((GD X).trans v).pairwise_iff λ {a b} h=>Ne.symm h).mpr this
 have y: ∀i j,i<X.length→j<X.length→f (X.reverse.getD i d)=f (X.reverse.getD j d)→i=j:=λi j c g I=>by
  rw[F9]at H;have m:i<X.reverse.length:=by simpa using c
  have z:j<X.reverse.length:=by simpa using g
  rw[show X.reverse.getD i d=X.reverse[i] by simp[List.getD,c],show X.reverse.getD j d=X.reverse[j] by simp[List.getD,g]]at I;rcases Jf i j with h|h|h
  ·exact absurd I (H i j m z h)
  ·exact h
  ·exact absurd I.symm (H j i z m h)
 have J: ∀{s:Ab} {n:Nat} {O:List Value},An (kt w) s ((a,li O n)::EL Y)→ ∀e∈Y,s.heap.get? e.T=some (BO e):=λ {s n O} k e L=>k.mem (e.T,BO e) (BB _ (HZ L));refine OL (κ:=tuples' true) (F:=EL Y) (r:=λi=>f (X.reverse.getD i d)) (by rw[o];exact U) (by rw[o];exact M) (λi j c g e=>y i j (o▸c) (o▸g) e) (λl Q k W=> ?_) (λi j l C c g R k Z=> ?_) S λl p u D G=> ?_
 ·exact gN (by (first|lia|omega)) (λe L=>J k e (v.mem_iff.mp L)) W
 ·rw[o]at c g
  rw[N,Ro d (by simpa using c),Ro d (by simpa using g)];have T:f (X.reverse.getD i d)≠f (X.reverse.getD j d):=λe=>R (y i j c g e);refine gM (Mu k) (K.apart (t c) (t g) λe=>T (by rw[e])) (J k _ (t c)) (J k _ (t g)) ?_;rw[K.gt _ (t c) _ (t g) T];exact Z l (.refl k)
 ·rw[o]at u D
  have key:=ON (d:=d) (f:=f) (B:=X.reverse) (B':=Y.reverse) (by (first|((repeat(first|exact .head _|apply List.mem_cons_of_mem));done)|simp)) u D V.symm (by rw[List.pairwise_reverse];exact K.down);have em:katRev true (p.toList.map λi=>(katRev true (Ax X)).getD i .none)=Ax Y:=by
   have:Ax Y.reverse=(p.toList.map λi=>X.reverse.getD i d).map λe=>Value.ref e.T:=by rw[key]
   rw[N];have e2:(p.toList.map λi=>(Ax X.reverse).getD i .none)=Ax Y.reverse:=by
    rw[this,B0];apply DW;intro i c;exact Ro d (by simpa using List.mem_range.mp (u.mem_iff.mp c))
   rw[e2];simp[katRev,Ax]
  rw[em]at G;exact h l G
noncomputable abbrev G6:Str:=⟨⟨[114,101,118,101,114,115,101]⟩⟩
theorem V7(a:Value):argsOk "sorted" ⟨[a],[(FV,.none),(G6,.bool true)]⟩:=by unfold argsOk;kernel_rfl
theorem V8(a:Value):argsOk "list.sort" ⟨[a],[(FV,.none),(G6,.bool true)]⟩:=by unfold argsOk;kernel_rfl
theorem Rp{w:Aa}{A:Al}{s:Ab}{a n:Nat}{b ws:List Value}{G:Ae}{g:List (Str×Value)}(v:argsOk "sorted" ⟨[.ref a],g⟩)(K: ∀D:Addr,argsOk "list.sort" ⟨[.ref D],g⟩)(e: ∀D:Addr,Builtin.«list.sort» ⟨[.ref D],g⟩=ET D true)(z:b.length≤64)(S:An (kt w) s ([(a,li b n)]++G))
  (srt: ∀{D:Nat} {c:Ab} {P:AE→Ab→Prop} {E:Value→Ab→Prop},An (kt w) c ((D,li b 0)::G)→(∀s2,Ag (kt w) c s2 ((D,li b 0)::G) ((D,li ws 2)::G)→P (.done (.ret .none)) s2)→wpAny (model pw w) A.in1.in1 (ET D true) P E c)
  {R:Result→Ab→Prop} (L: ∀c D,Ag (kt w) s c ([(a,li b n)]++G) ([(a,li b n)]++G++[(D,li ws 2)])→R (.ok (.ret (.ref D))) c):codeAny (model pw w) A (.call (.builtin Kl) ⟨[.ref a],g⟩) R s:=by
 rw[qF];refine DV plain_sorted entry_sorted ?_;simp only[checkBuiltinCall,kind_sorted];have B:=S.mem (a,li b n) (by (first|((repeat(first|exact .head _|apply List.mem_cons_of_mem));done)|simp));rw[BX]at B;have h:wpAny (model pw w) A.in1 (Builtin.«sorted» ⟨[.ref a],g⟩) (λfin c=>match fin with| .done f=>R (.ok f) c| .again C=>C.quiet=true∧codeAny (model pw w) A C R c) (λe c=>R (.error e) c) s:=by
  unfold Builtin.«sorted»;refine Af (m:=checkCount "sorted" 1 1 _) (Ap ?_);refine Af (collect_list (vs:=b) ⟨_,B,rfl,n,rfl⟩ ?_ (AC z (by rw[sizeLine_eq];decide)));refine Af (wpAny_newList ?_ (AC z (by rw[sizeLine_eq];decide)));have k:=S.push (o:=li [] 0) rfl;have F:([(a,li b n)]++G++[(s.heap.objs.size,li [] 0)]).Perm ([(s.heap.objs.size,li [] 0)]++([(a,li b n)]++G)):=EF;have H:=(k.permR F).sat.set (i:=0) rfl (f:=Obj.mapSeq (· ++b.toArray)) (p:=(s.heap.objs.size,li [] 0)) rfl;have l:=((k.permR F).trans H).subs (L'':=[(a,li b n)]++G) (Nx [_] _);have I:=l.sat.push (o:=li b 0) rfl;have d:=(l.trans I).permR EF;have r:=d.sat.mem _ (Dk _ Bj);dsimp only at r d;have j:=r;rw[BX]at j;have pz: ∀{D x y},((D,x)::((a,y)::G)).Perm ((D,x)::G++[(a,y)]):=λ {D x y}=>List.Perm.cons _ (EF (l₁:=[(a,y)]) (l₂:=G));refine Af (Dl (wpAny_call_entry_kw slot_list_sort ⟨_,j,rfl⟩ entry_list_sort ?body (K _)))
  case body=>
   rw[e];refine srt (d.sat.perm pz).left λc J=>⟨_,rfl,Ap (L c _ ((d.trans (Ag.part [(a,li b n)] d.sat pz.symm J)).permR ?_))⟩
   exact AM [_] [_,_] [0,2,1,2,3] [0,4,0,1,3,2,1]
 cases u:Manifest.signature? "sorted" with
 |none=>exact Ap h
 |some t=>
  simp only[argsOk,u]at v;have M:Bind.checkArgs "sorted" t ⟨[.ref a],g⟩=pure ():=v;refine (?_:wpAny _ _ (Bind.checkArgs "sorted" t ⟨[.ref a],g⟩) _ _ s);rw[M];exact Ap h
noncomputable def V9(b n:Nat)(X Y:List El):Ak:=
 {d:=500,u:=2800,h:=none,c:=.call (.builtin Kl) ⟨[.ref b],[(FV,.none),(G6,.bool true)]⟩,idx:=[],pre:=[(b,li (Ax X) n)]++EL Y,na:=1,nt:=0,r:=λa _=>.ok (.ret (.ref (a.getD 0 0))),outs:=λ_ _ _=>[li (Ax X) n]++Y.map BO,news:=λ_ _ _=>[li (Ax Y) 2]}
theorem gQ{w:Aa}{rs n:Nat}{X Y:List El}{f:El→Nat}(e:X.Perm Y)(K:Ee Y f)(g:2≤X.length)(a:X.length<64):Av w (V9 rs n X Y):=by
 intro A k i l s S _;have b:A.in1.units≤3000:=AC (show A.in1.units≤2801 from CC i 1) (by decide);have c:A.in1.in1.units<cLine:=CQ (show A.in1.in1.units≤3001 from CC b 1) (by decide);refine Rp (V7 _) (λD=>V8 _) (λD=>U3 D true) (by simp[Ax];(first|lia|omega)) S (λS h=>gO c e K g a S h) λj D d=>⟨[D],[],[],rfl,rfl,rfl,rfl,?_,d.toks⟩
 refine (?_:Ag (kt w) s j ([(rs,li (Ax X) n)]++EL Y) ((rs,_)::Bk (EL Y) (Y.map BO)++[(D,_)]));rw[Rn];exact d
noncomputable def Cb(w:Aa)(F:Ae)(e:Ak):Prop:= ∀A:Al,A.depth≤e.d→A.units≤e.u→A.handled=e.h→ ∀s,An (kt w) s (e.pre++F)→NS e.gn s→
 codeAny (model pw w) A e.c (λc b=>Ew λa t o=>a.length=e.na∧t.length=e.nt∧o.length=e.no∧c=e.rx o (e.r a t)∧Js (kt w) e.gn s b e.pre (Bk e.pre (e.outs a t o)++BI a (e.news a t o))∧AY s.toks b.toks t) s
theorem Cb.of{w:Aa}{F:Ae}{e:Ak}(h:Av w e):Cb w F e:=λA a b c s S G=>h A a b c s S.left G
theorem gS{kt:KT}{g s:Ab}{i L F P:Ae}(c:An kt g (i++F))(D:Ag kt g s i L)(j: ∀p∈P,p∈L)(S:An kt s P):An kt s (P++F):=by
 have k:=c.nd;rw[BC,Fm]at k;obtain⟨A,t,l⟩:=k;have u: ∀p∈L,∀q∈F,p.1≠q.1:=λp j q d e=>by
  rcases D.new p j with⟨r,v,w⟩|h
  ·exact l _ (B7 v) _ (B7 d) (w.trans e)
  ·have:=Heap.lt_size (c.mem q (BG _ d))
   rw[←e]at this;exact absurd this (Nat.not_lt.mpr h)
 refine⟨λp h=> ?_,?_,S.old,λp h a o m=> ?_⟩
 ·rcases List.mem_append.mp h with h|h
  ·exact S.mem p h
  ·exact D.keep _ _ (c.mem p (BG _ h)) λq d e=>l _ (B7 d) _ (B7 h) e
 ·rw[BC,Fm]
  refine⟨S.nd,t,λa y b z=> ?_⟩;obtain⟨p,n,rfl⟩:=List.mem_map.mp y;obtain⟨q,d,rfl⟩:=List.mem_map.mp z;exact u p (j p n) q d
 ·rcases List.mem_append.mp h with h|h
  ·exact S.apart p h a o m
  ·exact c.apart p (BG _ h) a o m
theorem Cb.frm{w:Aa}{F d:Ae}{g:Ab}{e:Ak}(i:An (kt w) g (d++F))(h:Cb w F e):DX pw w (kt w) g d e:=(by rintro A a b c s ⟨L,D,j⟩ S G;exact h A a b c s (gS i D j S) G)
noncomputable def KM(w:Aa)(F:Ae)(b:List (List Nat→List Nat→List Obj→Ak)):Prop:= ∀e∈b,∀c a d g h,AY g h a→Cb w F (e c a d)
theorem G7{w:Aa}{F:Ae}:KM w F []:=λ_ h=>(nomatch h)
theorem FW{w:Aa}{F:Ae}{e:List Nat→List Nat→List Obj→Ak}{b:List (List Nat→List Nat→List Obj→Ak)}(h: ∀d c g i j,AY i j c→Cb w F (e d c g))(t:KM w F b):KM w F (e::b):=λf a=>by
 rcases List.mem_cons.mp a with rfl|a
 ·exact h
 ·exact t f a
theorem FX{w:Aa}{F:Ae}{e:List Nat→List Nat→List Obj→Ak}{d:List (List Nat→List Nat→List Obj→Ak)}(h: ∀a b c,Av w (e a b c))(t:KM w F d):KM w F (e::d):=FW (λa b c _ _ _=>.of (h a b c)) t
theorem G8{w:Aa}{F:Ae}: ∀(g:List (Nat×List Nat)) (a:List (List Nat→List Nat→List Obj→Ak)),KM w F a→ ∀q∈AB g a,∀i d j k l,AY k l d→Cb w F (q.2 i d j):=by
 intro g
 induction g with
 |nil=>intro a _ q b;cases a <;> cases b
 |cons c g n=>
  intro a h q b i d j k l m;cases a with
  |nil=>cases b
  |cons e a=>
   rcases List.mem_cons.mp b with rfl|b
   ·exact h e Bj i d j k l m
   ·exact n a (λf o=>h f (BB _ o)) q b i d j k l m
theorem gU{w:Aa}{A:Al}{c:Code}{L:Ae}{B:Result→Ae→List Nat→Prop}{H:List Nat}{E:List (Nat×(List Nat→List Nat→List Obj→Ak))}{W:List Wd}{o d u n N:Nat}{J:List Nat}{en:Aw→Aw→AU→Dw}{C:Aw→Aw→AU→Ae}
  (k:AD w n c L H E W o d u J en C N) (F:Ae) (tk:List Nat) (P:A.handled=none) (Q:A.depth≤d) (R:A.units≤u) (X: ∀q∈E,∀t l v T D,AY T D l→Cb w F (q.2 t l v)) (Y: ∀q∈W,∀t l v,(q.2 t l v).1=(q.2 t l v).2)
  (fi: ∀i g j,match en i g j with
   | .done f=>B (.ok f) (C i g j++F) (tk.map g)
   | .err e=>B (.error e) (C i g j++F) (tk.map g)
   | .again K=>RunsW w A K (C i g j++F) λr y l=>B r y (tk.map g++l)
   | .bad _=>False) (G:BS J=true:=by rfl) (M:Ge tk 0 N=true:=by rfl):RunsW w A c (L++F) B:=by
 intro s S;refine NV GL (GM pw w w) (FK pw w) (hS w) (H:=H) (E:=E) (W:=W) (ag:=o) n P Q R (λq U t l v D I=>(X q U t l v _ D I).frm S) Y S.left λi g j=> ?_;have h:=Gf k i g j;have V:=Am Prod.fst h;have Z:=Am (λx=>x.2.1) h;have h3:=Am (λx=>x.2.2.1) h;have h4:(walk w n i g j c L H E W o d u).ts=Dm g N:=Am (λx=>x.2.2.2) h;refine⟨V,λO st I _=> ?_⟩;have m:=(st.pick h3 G).frame S;have z:AY s.toks O.toks (tk.map g):=I.sub (by
  show(tk.map g).Sublist (walk w n i g j c L H E W o d u).ts;rw[h4,Kh];have:=(Ki M).map g;rwa[Ka,←Hl]at this)
 have e1:(Ek den rooms GN ⟨pw,w.2⟩ ⟨pw,(wR true w).params⟩ ⟨pw,(wR false w).params⟩ (kt w) n i g j ⟨den c,c,[],L,[],[],[],H,E,W,o,d,u,.free⟩).e=en i g j:=Z;rw[e1];have f:=fi i g j;cases h:en i g j with
 |done f'=>rw[h]at f;exact⟨_,_,f,m,z⟩
 |err e=>rw[h]at f;exact⟨_,_,f,m,z⟩
 |again K=>
  rw[h]at f;refine B5 (f O m.sat) ?_;rintro r aa ⟨y,l,a,b,c⟩;exact⟨y,_,a,m.trans b,z.app c⟩
 |bad k=>rw[h]at f;exact f.elim
theorem H3{w:Aa}{A:Al}{L:Ae}{H:List Nat}{E:List (Nat×(List Nat→List Nat→List Obj→Ak))}{W:List Wd}{d u n N:Nat}{C:List Nat}{f:Aw→Aw→AU→Flow}{D:Aw→Aw→AU→Ae}{o:Sem AE}{T:Type}{t:Sem T}
  (k:AG w n o L H E W d u C (λb a c=>.done (f b a c)) D N) (g:T→Flow) (K:(t>>=λx=>pure (.done (g x)))=o) (F:Ae) (tk:List Nat) (M:A.handled=none) (O:A.depth≤d) (P:A.units≤u) (X: ∀q∈E,∀l j m U v,AY U v j→Cb w F (q.2 l j m)) (Y: ∀q∈W,∀l j m,(q.2 l j m).1=(q.2 l j m).2)
  {s:Ab} (S:An (kt w) s (L++F)) {Q:T→Ab→Prop} {V:Value→Ab→Prop}
  (fi: ∀b a c i x,Ag (kt w) s i (L++F) (D b a c++F)→AY s.toks i.toks (tk.map a)→g x=f b a c→Q x i) (y:BS C=true:=by rfl) (G:Ge tk 0 N=true:=by rfl):wpAny (model pw w) A t Q V s:=by
 have z:=NW (R:=λr i=>match r with| .ok Z=> ∀x,g x=Z→Q x i| .error _=>False) GL (GM pw w w) (FK pw w) (hS w) (H:=H) (E:=E) (W:=W) g K n M O P (λq hq l j m v B=>(X q hq l j m _ v B).frm S) Y S.left λb a c=> ?_
 ·exact CE z (λx i h=>h x rfl) λe i h=>False.elim h
 ·have h:=Gf k b a c
  have h1:=Am Prod.fst h;have h2:=Am (λx=>x.2.1) h;have h3:=Am (λx=>x.2.2.1) h;have h4:(Hx w n b a c o L H E W d u).ts=Dm a N:=Am (λx=>x.2.2.2) h;refine⟨h1,λi st B _=> ?_⟩;have I:=(st.pick h3 y).frame S;have J:AY s.toks i.toks (tk.map a):=B.sub (by
   show(tk.map a).Sublist (Hx w n b a c o L H E W d u).ts;rw[h4,Kh];have:=(Ki G).map a;rwa[Ka,←Hl]at this)
  have e1:(Hx w n b a c o L H E W d u).e= .done (f b a c):=h2;rw[e1];exact λx hx=>fi b a c i x I J hx
structure HE where
 A:Nat
 e:El
 o:Int
 t:Nat
noncomputable def Bm(h:HE):Obj:=tu [.ref h.e.T,.int h.o h.t] 0
noncomputable abbrev Au(H:List HE):List Value:=H.map λh=>Value.ref h.A
noncomputable def HL(H:List HE):Ae:=H.map λh=>(h.A,Bm h)
noncomputable def hz:HE:=⟨0,⟨0,0,0,⟨⟨[]⟩⟩,0⟩,0,0⟩
noncomputable def CN(H:List HE)(i j:Nat):List HE:=(H.set i (H.getD j hz)).set j (H.getD i hz)
theorem Ep(H:List HE)(i j:Nat):(CN H i j).length=H.length:=by simp[CN]
theorem KN{H:List HE}{i j:Nat}(a:i<H.length)(b:j<H.length):(CN H i j).Perm H:=by
 unfold CN;rw[show H.getD j hz=H[j] by simp[List.getD,b],show H.getD i hz=H[i] by simp[List.getD,a]];exact List.set_set_perm a b
theorem gV{H:List HE}{i j:Nat}(g:i<H.length)(h:j<H.length)(k:Nat):(CN H i j).getD k hz=if k=j then H.getD i hz else if k=i then H.getD j hz else H.getD k hz:=by
 unfold CN;simp only[List.getD,List.getElem?_set,List.length_set]
 by_cases a:j=k
 ·subst a;simp[h]
 ·have b: ¬k=j:=λe=>a e.symm
  by_cases c:i=k
  ·subst c;simp[a,b,g]
  ·have d: ¬k=i:=λe=>c e.symm
   simp[a,b,c,d]
noncomputable def par(i:Nat):Nat:=(i-1)/2
theorem gW(p:Nat):par (2*p+1)=p:=by unfold par;(first|lia|omega)
theorem gY(p:Nat):par (2*p+2)=p:=by unfold par;(first|lia|omega)
theorem Wa{i p:Nat}(a:0<i)(h:par i=p):i=2*p+1∨i=2*p+2:=by unfold par at h;(first|lia|omega)
theorem Rq{i p:Nat}(a:0<i)(h:par i=p):2*p+1≤i:=(Wa a h).elim (λe=>Kb e.symm) λe=>e▸Jn _
theorem Gs{i:Nat}(a:0<i):par i<i:=Eh (Gb (Nat.le_mul_of_pos_left (par i) Nat.two_pos)) (Rq a rfl)
theorem gZ{n:Nat}(h:2≤n): ∃d,n/2-1=d∧d<n∧n≤2*d+3:=⟨_,rfl,by (first|lia|omega),by (first|lia|omega)⟩
inductive Sft (g:HE→Nat):List HE→Bool→Nat→Nat→Nat→List HE→Prop
 |two {H pos top m H'} (h:2*pos+2<H.length) (x:Sft g (CN H (if g (H.getD (2*pos+1) hz)<g (H.getD (2*pos+2) hz)then 2*pos+1 else 2*pos+2) pos) true (if g (H.getD (2*pos+1) hz)<g (H.getD (2*pos+2) hz)then 2*pos+1 else 2*pos+2) top m H'):Sft g H true pos top m H'
 |one {H pos top m H'} (h:2*pos+2=H.length) (x:Sft g (CN H (2*pos+1) pos) true (2*pos+1) top m H'):Sft g H true pos top m H'
 |leaf {H pos top m H'} (h:H.length≤2*pos+1) (x:Sft g H false pos top m H'):Sft g H true pos top m H'
 |up {H pos top m H'} (h:top<pos) (l:g (H.getD pos hz)<g (H.getD (par pos) hz)) (x:Sft g (CN H (par pos) pos) false (par pos) top m H'):Sft g H false pos top m H'
 |stop {H pos top} (h:pos≤top∨ ¬g (H.getD pos hz)<g (H.getD (par pos) hz)):Sft g H false pos top 0 H
 |next {H pos top m H'} (h:pos≤top∨ ¬g (H.getD pos hz)<g (H.getD (par pos) hz)) (x:Sft g H true m m m H'):Sft g H false pos top (m+1) H'
inductive G9 (top:Nat):Nat→Prop
 |refl:G9 top top
 |step {i} (h:0<i) (x:G9 top (par i)):G9 top i
theorem G9.le{top i:Nat}(h:G9 top i):top≤i:=by
 induction h with
 |refl=>exact A8 _
 |step h x a=>exact AC a (Bw (Gs h))
theorem G9.par{top i:Nat}(h:G9 top i)(a:i≠top):0<i∧G9 top (par i):=by
 cases h with
 |refl=>exact absurd rfl a
 |step h x=>exact⟨h,x⟩
noncomputable def DQ(r:Nat→Nat)(n top:Nat):Prop:= ∀i,i<n→0<i→top≤par i→r (par i)≤r i
structure Wb(r:Nat→Nat)(n top pos:Nat):Prop where
 d:G9 top pos
 p:pos<n
 a: ∀i,i<n→0<i→top≤par i→i≠pos→r (par i)≤r i
 b:pos≠top→ ∀c,c<n→0<c→par c=pos→r (par pos)≤r c
structure Rr(r:Nat→Nat)(n top pos:Nat):Prop where
 d:G9 top pos
 p:pos<n
 a: ∀i,i<n→0<i→top≤par i→i≠pos→par i≠pos→r (par i)≤r i
 b:pos≠top→ ∀c,c<n→0<c→par c=pos→r (par pos)≤r c
noncomputable abbrev BA(g:HE→Nat)(H:List HE):Nat→Nat:=λi=>g (H.getD i hz)
theorem Wc(g:HE→Nat){H:List HE}{i j:Nat}(a:i<H.length)(b:j<H.length)(k:Nat):BA g (CN H i j) k=if k=j then BA g H i else if k=i then BA g H j else BA g H k:=by
 refine (?_:g _=_);rw[gV a b]
 split
 ·rfl
 ·split <;> rfl
theorem hJ(g:HE→Nat){top m:Nat}{P:List HE→Prop}: ∀(a:Nat) (H v:List HE),Wb (BA g H) H.length top a→H.Perm v→
  (∀j:List HE,j.Perm v→DQ (BA g j) j.length top→ ∀q,q≤top∨ ¬g (j.getD q hz)<g (j.getD (par q) hz)→ ∃d,Sft g j false q top m d∧P d)→
  ∃d,Sft g H false a top m d∧P d:=by
 intro a
 induction a using Nat.strongRecOn with
 |ind a I=>
  intro H v U F K
  by_cases h:a≤top∨ ¬g (H.getD a hz)<g (H.getD (par a) hz)
  ·refine K H F (λi l b n=> ?_) a h
   by_cases e:i=a
   ·obtain rfl:=e.symm
    rcases h with h|h
    ·exact absurd (Eh (Gs b) h) (Jj n)
    ·exact FG h
   ·exact U.a i l b n e
  ·have B:top<a:=Nat.lt_of_not_le λq=>h (.inl q)
   have o:g (H.getD a hz)<g (H.getD (par a) hz):=by
    by_cases q:g (H.getD a hz)<g (H.getD (par a) hz)
    ·exact q
    ·exact absurd (.inr q) h
   obtain⟨J,C⟩:=U.d.par (EZ B);have w:=Gs J;have y:=DC w U.p;have e: ∀k,BA g (CN H (par a) a) k=if k=a then BA g H (par a)else if k=par a then BA g H a else BA g H k:=Wc g y U.p
   have o:BA g H a<BA g H (par a):=o;have L:Wb (BA g (CN H (par a) a)) (CN H (par a) a).length top (par a):=by
    rw[Ep];refine⟨C,y,λi l b n r=> ?_,λr c M b t=> ?_⟩
    ·have N:=Gs b
     rw[e i,e (par i)]
     by_cases q:i=a
     ·obtain rfl:=q.symm
      simp only[if_true];rw[AI (CS N)];exact Bw o
     ·rw[AI q,AI r]
      by_cases D:par i=a
      ·rw[AS D]
       exact U.b (EZ B) i l b D
      ·rw[AI D]
       by_cases E:par i=par a
       ·rw[AS E]
        have:=U.a i l b n q;rw[E]at this;exact AC (Bw o) this
       ·rw[AI E]
        exact U.a i l b n q
    ·obtain⟨z,G⟩:=C.par r
     have A:=Gs z;have O:top≤par (par a):=G.le;rw[e (par (par a)),e c];rw[AI (CS (DC A w)),AI (CS A)];have u:=U.a (par a) y z O (CS w)
     by_cases q:c=a
     ·rw[AS q];exact u
     ·rw[AI q]
      rw[AI (EZ (t▸Gs b))];have:=U.a c M b (by rw[t];exact C.le) q;rw[t]at this;exact AC u this
   obtain⟨d,s,Q⟩:=I (par a) w (CN H (par a) a) v L ((KN y U.p).trans F) K;exact⟨d,.up B o s,Q⟩
theorem We(g:HE→Nat){top m:Nat}{P:List HE→Prop}: ∀(k a:Nat) (H t:List HE),H.length-a=k→Rr (BA g H) H.length top a→H.Perm t→
  (∀r:List HE,r.Perm t→DQ (BA g r) r.length top→ ∀q,q≤top∨ ¬g (r.getD q hz)<g (r.getD (par q) hz)→ ∃b,Sft g r false q top m b∧P b)→
  ∃b,Sft g H true a top m b∧P b:=by
 intro k
 induction k using Nat.strongRecOn with
 |ind k R=>
  intro a H t S D L K;have y:=D.p
  by_cases h:H.length≤2*a+1
  ·obtain⟨b,s,u⟩:=hJ g (m:=m) a H t ⟨D.d,y,λi j d A l=>D.a i j d A l λz=>absurd (Eh j h) (Jj (Rq d z)),D.b⟩ L K
   exact⟨b,.leaf h s,u⟩
  ·
   have main: ∀c,(c=2*a+1∨c=2*a+2)→c<H.length→(∀i,i<H.length→(i=2*a+1∨i=2*a+2)→BA g H c≤BA g H i)→ ∃b,Sft g (CN H c a) true c top m b∧P b:=by
    intro c M B G;have C:par c=a:=by rcases M with rfl|rfl <;> first|exact gW a|exact gY a
    have c0:0<c:=by rcases M with rfl|rfl <;> exact GH _
    have v:a<c:=C▸Gs c0;have e: ∀k,BA g (CN H c a) k=if k=a then BA g H c else if k=c then BA g H a else BA g H k:=Wc g B y
    have T:Rr (BA g (CN H c a)) (CN H c a).length top c:=by
     rw[Ep];refine⟨.step c0 (by rw[C];exact D.d),B,λi j d A l N=> ?_,λl I O d n=> ?_⟩
     ·have J:=Gs d
      rw[e i,e (par i)]
      by_cases q:i=a
      ·obtain rfl:=q.symm
       simp only[if_true];rw[AI (CS J),AI (CS (DC J v))];exact D.b (EZ (CQ A J)) c B c0 C
      ·rw[AI q,AI l]
       by_cases E:par i=a
       ·rw[AS E]
        exact G i j (Wa d E)
       ·rw[AI E,AI N]
        exact D.a i j d A q E
     ·rw[C,e a,e I]
      have F:c<I:=n▸Gs d;have Q:=EZ (DC v F);simp only[if_true];rw[AI Q,AI (EZ F)];have:=D.a I O d (by rw[n];exact AC D.d.le (Bw v)) Q (by rw[n];exact EZ v);rw[n]at this;exact this
    exact R (H.length-c) (S▸Jd y v) c (CN H c a) t (by rw[Ep]) T ((KN B y).trans L) K
   by_cases w:2*a+2<H.length
   ·obtain⟨b,s,u⟩:=main (if g (H.getD (2*a+1) hz)<g (H.getD (2*a+2) hz)then 2*a+1 else 2*a+2) (by split <;> (first|((repeat(first|exact .head _|apply List.mem_cons_of_mem));done)|simp)) (by split <;> first|exact w|exact Nat.lt_of_succ_lt w) (λi j o=>by
     refine (?_:BA g H _≤_)
     split
     ·rename_i q
      rcases o with rfl|rfl <;> first|exact A8 _|exact Bw q
     ·rename_i q
      rcases o with rfl|rfl <;> first|exact A8 _|exact FG q)
    exact⟨b,.two w s,u⟩
   ·obtain⟨b,s,u⟩:=main (2*a+1) (.inl rfl) (Nat.lt_of_not_le h) (λi j o=>by
     rcases o with rfl|rfl
     ·exact A8 _
     ·exact absurd j w)
    exact⟨b,.one (Jl (Nat.lt_of_not_le h) (FG w)) s,u⟩
theorem DQ.dn{r:Nat→Nat}{n m:Nat}(h:DQ r n (m+1))(c:m<n):Rr r n m m:=
 ⟨.refl,c,λi d e g a b=>h i d e (Im g (Ne.symm b)),λa=>absurd rfl a⟩
theorem Wf{r:Nat→Nat}{n:Nat}(h:DQ r n 0): ∀i,i<n→r 0≤r i:=by
 intro i
 induction i using Nat.strongRecOn with
 |ind i d=>
  intro b
  by_cases c:i=0
  ·rw[c];exact A8 _
  ·have a:=Nat.pos_of_ne_zero c
   exact AC (d (par i) (Gs a) (DC (Gs a) b)) (h i b a (B8 _))
theorem Wg(g:HE→Nat){e:List HE}: ∀(m:Nat) (H:List HE),m<H.length→H.Perm e→DQ (BA g H) H.length (m+1)→ ∃d,Sft g H true m m m d∧d.Perm e∧DQ (BA g d) d.length 0:=by
 intro m
 induction m with
 |zero=>
  intro H i j h;exact We g _ 0 H e rfl (h.dn i) j λk c l q n=>⟨k,.stop n,c,l⟩
 |succ m o=>
  intro H i j h;refine We g _ (m+1) H e rfl (h.dn i) j λk c l q n=> ?_;have r:k.length=H.length:=c.length_eq.trans j.length_eq.symm;obtain⟨d,s,a,b⟩:=o k (r.symm▸Nat.lt_of_succ_lt i) c l;exact⟨d,.next n s,a,b⟩
theorem hO(g:HE→Nat)(H:List HE)(b:2≤H.length): ∃a,Sft g H true (H.length/2-1) (H.length/2-1) (H.length/2-1) a∧a.Perm H∧DQ (BA g a) a.length 0:=
 have⟨d,e,c,h⟩:=gZ b
 e.symm▸Wg g d H c (AX _) λi j k l=>absurd (Eh j h) (Jj (AC (Ev (Nat.mul_le_mul_left 2 l)) (Rq k rfl)))
theorem hW(g:HE→Nat)(x y:HE)(T:List HE)(h:DQ (BA g (x::T)) (x::T).length 0): ∃a,Sft g (y::T) true 0 0 0 a∧a.Perm (y::T)∧DQ (BA g a) a.length 0:=
 Wg g 0 (y::T) (by (first|((repeat(first|exact .head _|apply List.mem_cons_of_mem));done)|simp)) (AX _) λi c b d=>by
  have:=h i (by simpa using c) b (B8 _);have e: ∀k,0<k→BA g (y::T) k=BA g (x::T) k:=λk j=>by
   cases k with
   |zero=>exact absurd j (Iq 0)
   |succ k=>rfl
  rw[e i b,e (par i) d];exact this
theorem MJ:entryFor table "_heapq.heapify.sift"=some Builtin.«_heapq.heapify.sift»:=entryFor_of_tree (by kernel_rfl)
theorem Ha:plainId "_heapq.heapify.sift"=true:=by decide+kernel
theorem JN{A:Al}{n:Nat}(h:A.units≤n):A.in1.units≤n+1:=CC h 1
theorem Wh{A:Al}{s:Ab}(g:NoneBooked s.heap)(h:A.units<cLine){x y:El}(i:s.heap.get? x.T=some (BO x))(k:s.heap.get? y.T=some (BO y))(d:C3 x y):RcAt A s (.ref x.T) (.ref y.T) false:=by
 have a:=i;have b:=k;unfold BO at a b;rw[JF]at a b;have:=RcAt.tuples (A:=A) (e:=λj=>if j=0 then x.c==y.c else false) ⟨_,a,rfl,0,rfl⟩ ⟨_,b,rfl,0,rfl⟩ h (λj c l=>by
  match j,c,l with
  |0,_,_=>exact OX g d
  |1,_,_=>exact OY d
  |j+2,c,_=>exact absurd c (by show¬j+2<2;(first|lia|omega)))
 have e:((List.range 2).all (λj=>if j=0 then x.c==y.c else false)&&true)=false:=by simp[J8]
 exact e▸this
theorem hZ{A:Al}{s:Ab}(a:NoneBooked s.heap)(b:A.in1.units<cLine)(c:A.units<cLine){x y:HE}(h:s.heap.get? x.A=some (Bm x))(i:s.heap.get? y.A=some (Bm y))(d:s.heap.get? x.e.T=some (BO x.e))(e:s.heap.get? y.e.T=some (BO y.e))(g:C3 x.e y.e)(j:x.e.T≠y.e.T):CI .Lt A s (.ref x.A) (.ref y.A) (Cs y.e x.e):=
 CI.tuple_lt c h i (.diff (EqAt.of_refs j (Wh a b d e g)) (CI.tuple_lt b d e (Rm a g)))
structure EV(F:Ae)(H:List HE)(g:HE→Nat):Prop where
 mem: ∀x∈H,(x.A,Bm x)∈F
 emem: ∀x∈H,(x.e.T,BO x.e)∈F
 ap: ∀x∈H,∀y∈H,x≠y→C3 x.e y.e∧x.e.T≠y.e.T∧Cs y.e x.e=decide (g x<g y)
 nd:H.Nodup
theorem EV.perm{F:Ae}{H b:List HE}{g:HE→Nat}(h:EV F H g)(p:b.Perm H):EV F b g:=
 ⟨λx a=>h.mem x (p.mem_iff.mp a),λx a=>h.emem x (p.mem_iff.mp a),λx a y c=>h.ap x (p.mem_iff.mp a) y (p.mem_iff.mp c),p.nodup_iff.mpr h.nd⟩
theorem Wi{H:List HE}{i:Nat}(a:i<H.length):H.getD i hz∈H:=by
 rw[show H.getD i hz=H[i] by simp[List.getD,a]];exact Db a
theorem iA{H:List HE}(c:H.Nodup){i j:Nat}(a:i<H.length)(b:j<H.length)(h:i≠j):H.getD i hz≠H.getD j hz:=by
 rw[show H.getD i hz=H[i] by simp[List.getD,a],show H.getD j hz=H[j] by simp[List.getD,b]];exact λe=>h ((Lp (h₀:=a) (h₁:=b) c).mp e)
theorem iB{H:List HE}{i:Nat}(a:i<H.length):(⟨Au H⟩:Array Value)[i]? =some (.ref (H.getD i hz).A):=by
 simp[Au,List.getD,a]
theorem Wj{H:List HE}{i j:Nat}(a:i<H.length)(b:j<H.length):((⟨Au H⟩:Array Value).setIfInBounds i (.ref (H.getD j hz).A)).setIfInBounds j (.ref (H.getD i hz).A)=⟨Au (CN H i j)⟩:=by
 apply Array.ext';simp[Au,CN,List.map_set]
noncomputable abbrev O3(a:Addr)(d:Bool)(b top:Nat)(c:Value)(m:Nat):Code:=.builtin "_heapq.heapify.sift" ⟨[.ref a,.bool false,.bool d,rawInt (b:Int),rawInt (top:Int),c,rawInt ((m:Int)-1)],[]⟩
theorem Rs{w:Aa}{A:Al}(r:A.in1.units<cLine)(l:A.units<cLine){a k:Nat}{F:Ae}{H:List HE}{g:HE→Nat}(b:EV F H g){i j:Nat}(m:i<H.length)(n:j<H.length)(o:i≠j){s:Ab}(S:An (kt w) s ((a,li (Au H) k)::F)){Q:Bool→Ab→Prop}{E:Value→Ab→Prop}
  (h:Q (decide (g (H.getD i hz)<g (H.getD j hz))) s):wpAny (model pw w) A (holding [.ref (H.getD i hz).A,.ref (H.getD j hz).A] (richCompare .Lt (.ref (H.getD i hz).A) (.ref (H.getD j hz).A)>>=λv=>truthOfDropped v)) Q E s:=by
 have d:=Wi m;have e:=Wi n;obtain⟨t,u,y⟩:=b.ap _ d _ e (iA b.nd m n o);have c:=hZ (A:=A) (Mu S) r l (S.mem _ (BB _ (b.mem _ d))) (S.mem _ (BB _ (b.mem _ e))) (S.mem _ (BB _ (b.emem _ d))) (S.mem _ (BB _ (b.emem _ e))) t u;rw[y]at c;exact Dl (Af (c pw w _ _ (wpAny_truthy_bool h)))
theorem Fa{w:Aa}{A:Al}{H:List HE}{i:Nat}{Q:Value→Ab→Prop}{E:Value→Ab→Prop}{s:Ab}(a:i<H.length)(h:Q (.ref (H.getD i hz).A) s):wpAny (model pw w) A (match(⟨Au H⟩:Array Value)[i]? with|some v=>pure v|none=>unsupported "internal:_heapq.index") Q E s:=by
 rw[iB a];exact Ap h
theorem Wk(m:Nat):((m+1:Nat):Int)-1=(m:Int):=Int.add_sub_cancel m 1
theorem Wl(m:Nat): ¬(m:Int)<0:=Int.not_lt.mpr (Int.natCast_nonneg m)
theorem Wm{w:Aa}{A:Al}{R:Result→Ab→Prop}(o:A.in1.units+1<cLine){a:Nat}{F:Ae}{g:HE→Nat}{c:Value}{H:List HE}{b top m:Nat}{s:Ab}{k:Nat}(h:b≤top∨ ¬g (H.getD b hz)<g (H.getD (par b) hz))(j:b<H.length)(r:EV F H g)(S:An (kt w) s ((a,li (Au H) k)::F))
  (n:m=0→R (.ok (.ret c)) s) (d: ∀i,m=i+1→codeAny (model pw w) A (O3 a true i i c i) R s):codeAny (model pw w) A (O3 a false b top c m) R s:=by
 have t:A.in1.in1.units<cLine:=o;have u:A.in1.units<cLine:=by (first|lia|omega)
 have e:s.heap.get? a=some (li (Au H) k):=S.mem _ Bj;refine EK MJ ?_;rw[EG Ha _];unfold Builtin.«_heapq.heapify.sift»;dsimp only[rawInt];refine Af (Af (Dc e rfl (Ap ?_)));have y:(⟨Au H⟩:Array Value).size=H.length:=by simp[Au]
 have d:par b<H.length:=by unfold par;(first|lia|omega)
 rw[AI FF]
 by_cases q:top<b
 ·rw[AS (show(b:Int).toNat>(top:Int).toNat by (first|((repeat(first|exact .head _|apply List.mem_cons_of_mem));done)|simp);(first|lia|omega))]
  have l: ¬g (H.getD b hz)<g (H.getD (par b) hz):=h.resolve_left (by (first|lia|omega));simp only[J4];refine Af (Fa j ?_);refine Af (Fa d ?_);rw[AI FF];refine Af ?_;refine (?_:wpAny _ _ (holding [.ref (H.getD b hz).A,.ref (H.getD (par b) hz).A] (richCompare .Lt (.ref (H.getD b hz).A) (.ref (H.getD (par b) hz).A)>>=λv=>truthOfDropped v)>>=_) _ _ _);refine Af (Rs t u r j d (by unfold par;(first|lia|omega)) S ?_);refine Af (Af (Dc e rfl (Ap ?_)));simp only[bne_self_eq_false,CR,if_false];refine Ap ?_;simp only[l,decide_false,CR,if_false];cases m with
  |zero=>exact Ap (n rfl)
  |succ m=>
   rw[Wk m,AI (Wl m)];exact Ap ⟨plainId_quiet Ha _,d m rfl⟩
 ·rw[AI (show¬(b:Int).toNat>(top:Int).toNat by (first|((repeat(first|exact .head _|apply List.mem_cons_of_mem));done)|simp);(first|lia|omega))]
  cases m with
  |zero=>exact Ap (n rfl)
  |succ m=>
   rw[Wk m,AI (Wl m)];exact Ap ⟨plainId_quiet Ha _,d m rfl⟩
theorem Wn{w:Aa}{A:Al}{R:Result→Ab→Prop}(N:A.in1.units+1<cLine){a:Nat}{F:Ae}{g:HE→Nat}{res:Value}{H I:List HE}{M:Bool}{b top m:Nat}(z:Sft g H M b top m I):
  ∀(s:Ab) (k:Nat),b<H.length→m≤H.length→H.length≤1000→EV F H g→An (kt w) s ((a,li (Au H) k)::F)→
  (∀J,Ag (kt w) s J ((a,li (Au H) k)::F) ((a,li (Au I) k)::F)→R (.ok (.ret res)) J)→codeAny (model pw w) A (O3 a M b top res m) R s:=by
 have P:A.in1.in1.units<cLine:=N;have T:A.in1.units<cLine:=by (first|lia|omega)
 have c: ∀{H:List HE} {s:Ab} {k:Nat},An (kt w) s ((a,li (Au H) k)::F)→s.heap.get? a=some (li (Au H) k):=λS=>S.mem _ Bj;have swap: ∀{H:List HE} {s:Ab} {k:Nat} {i j:Nat} {Q:Unit→Ab→Prop} {E:Value→Ab→Prop} (_:i<H.length) (_:j<H.length) (_:H.length≤1000) (S:An (kt w) s ((a,li (Au H) k)::F)),(∀J,Ag (kt w) s J ((a,li (Au H) k)::F) ((a,li (Au (CN H i j)) k)::F)→Q () J)→
   wpAny (model pw w) A.in1 (updateSeq a λK=>(K.setIfInBounds i (.ref (H.getD j hz).A)).setIfInBounds j (.ref (H.getD i hz).A)) Q E s:=λ {H s k i j Q E} U V o S h=>by
  have O:=S.set (i:=0) rfl (f:=Obj.mapSeq λK=>(K.setIfInBounds i (.ref (H.getD j hz).A)).setIfInBounds j (.ref (H.getD i hz).A)) (p:=(a,li (Au H) k)) rfl;have e:Obj.mapSeq (λK=>(K.setIfInBounds i (.ref (H.getD j hz).A)).setIfInBounds j (.ref (H.getD i hz).A)) (li (Au H) k)=li (Au (CN H i j)) k:=by
   rw[BX,BX];unfold Obj.mapSeq;dsimp only;rw[Wj U V];simp[Au,Ep]
  dsimp only at O;rw[e]at O;refine wpAny_updateSeq (c S) rfl (h _ O) (by simp[Au];exact AC o (by decide)) ?_;rw[Wj U V];simp[Au,Ep];exact AC o (by decide)
 have L: ∀(M:Bool) (b top m:Nat),(O3 a M b top res m).quiet=true:=λ_ _ _ _=>plainId_quiet Ha _;have X: ∀n:Nat,(rawInt (n:Int))= .int n 0:=λ_=>rfl
 induction z with
 |two h x y=>
  rename_i H b top m I;intro s k d B o u S C;refine EK MJ ?_;rw[EG Ha _];unfold Builtin.«_heapq.heapify.sift»;dsimp only[rawInt];refine Af (Af (Dc (c S) rfl (Ap ?_)));have G:(⟨Au H⟩:Array Value).size=H.length:=by simp[Au]
  have t:2*b+1<H.length:=by (first|lia|omega)
  rw[AS rfl,G,AS (show(b:Int).toNat<H.length/2 by (first|((repeat(first|exact .head _|apply List.mem_cons_of_mem));done)|simp);(first|lia|omega)),AS (show 2*(b:Int).toNat+1+1<H.length by (first|((repeat(first|exact .head _|apply List.mem_cons_of_mem));done)|simp);(first|lia|omega))];simp only[J4];refine Af (Fa t (Af (Fa h ?_)));rw[AI FF];refine Af ?_;refine (?_:wpAny _ _ (holding [.ref (H.getD (2*b+1) hz).A,.ref (H.getD (2*b+2) hz).A] (richCompare .Lt (.ref (H.getD (2*b+1) hz).A) (.ref (H.getD (2*b+2) hz).A)>>=λv=>truthOfDropped v)>>=_) _ _ _);refine Af (Rs P T u t h (by (first|lia|omega)) S ?_);refine Af (Af (Dc (c S) rfl (Ap ?_)));simp only[G,bne_self_eq_false,CR,if_false];refine Ap ?_
  by_cases q:g (H.getD (2*b+1) hz)<g (H.getD (2*b+2) hz)
  ·simp only[q,if_true]at y
   simp only[q,decide_true,Lv,CR,if_false];refine Af ?_;refine (?_:wpAny _ _ ((seqItems? (.ref a)>>=_)>>=_) _ _ _);refine Af (Af (Dc (c S) rfl (Ap ?_)));refine Af (Fa t ?_);refine Af (Fa d ?_);refine swap t d o S λs1 r=>Ap ⟨L _ _ _ _,?_⟩;exact y s1 k (by rw[Ep];(first|lia|omega)) (by rw[Ep];exact B) (by rw[Ep];exact o) (u.perm (KN t d)) r.sat λs2 D=>C s2 (r.trans D)
  ·simp only[q,if_false]at y
   simp only[q,decide_false,Bool.not_false,if_true];refine Af ?_;refine (?_:wpAny _ _ ((seqItems? (.ref a)>>=_)>>=_) _ _ _);refine Af (Af (Dc (c S) rfl (Ap ?_)));refine Af (Fa h ?_);refine Af (Fa d ?_);refine swap h d o S λs1 r=>Ap ⟨L _ _ _ _,?_⟩;exact y s1 k (by rw[Ep];(first|lia|omega)) (by rw[Ep];exact B) (by rw[Ep];exact o) (u.perm (KN h d)) r.sat λs2 D=>C s2 (r.trans D)
 |one h x y=>
  rename_i H b top m I;intro s k d B o u S C;refine EK MJ ?_;rw[EG Ha _];unfold Builtin.«_heapq.heapify.sift»;dsimp only[rawInt];refine Af (Af (Dc (c S) rfl (Ap ?_)));have G:(⟨Au H⟩:Array Value).size=H.length:=by simp[Au]
  have t:2*b+1<H.length:=by (first|lia|omega)
  rw[AS rfl,G,AS (show(b:Int).toNat<H.length/2 by (first|((repeat(first|exact .head _|apply List.mem_cons_of_mem));done)|simp);(first|lia|omega)),AI (show¬2*(b:Int).toNat+1+1<H.length by (first|((repeat(first|exact .head _|apply List.mem_cons_of_mem));done)|simp);(first|lia|omega))];simp only[J4];refine Af ?_;refine (?_:wpAny _ _ ((seqItems? (.ref a)>>=_)>>=_) _ _ _);refine Af (Af (Dc (c S) rfl (Ap ?_)));refine Af (Fa t ?_);refine Af (Fa d ?_);refine swap t d o S λs1 r=>Ap ⟨L _ _ _ _,?_⟩;exact y s1 k (by rw[Ep];(first|lia|omega)) (by rw[Ep];exact B) (by rw[Ep];exact o) (u.perm (KN t d)) r.sat λs2 D=>C s2 (r.trans D)
 |leaf h x y=>
  intro s k d B o u S C;refine EK MJ ?_;rw[EG Ha _];unfold Builtin.«_heapq.heapify.sift»;dsimp only[rawInt];refine Af (Af (Dc (c S) rfl (Ap ?_)));rw[AS rfl,AI (by simp[Au];(first|lia|omega))];refine Ap ⟨L _ _ _ _,?_⟩;exact y s k d B o u S C
 |up h l x y=>
  rename_i H b top m I;intro s k d B o u S C;refine EK MJ ?_;rw[EG Ha _];unfold Builtin.«_heapq.heapify.sift»;dsimp only[rawInt];refine Af (Af (Dc (c S) rfl (Ap ?_)));have G:(⟨Au H⟩:Array Value).size=H.length:=by simp[Au]
  have t:par b<H.length:=by unfold par;(first|lia|omega)
  rw[AI FF,AS (show(b:Int).toNat>(top:Int).toNat by (first|((repeat(first|exact .head _|apply List.mem_cons_of_mem));done)|simp);(first|lia|omega))];simp only[J4];refine Af (Fa d (Af (Fa t ?_)));rw[AI FF];refine Af ?_;refine (?_:wpAny _ _ (holding [.ref (H.getD b hz).A,.ref (H.getD (par b) hz).A] (richCompare .Lt (.ref (H.getD b hz).A) (.ref (H.getD (par b) hz).A)>>=λv=>truthOfDropped v)>>=_) _ _ _);refine Af (Rs P T u d t (by unfold par;(first|lia|omega)) S ?_);refine Af (Af (Dc (c S) rfl (Ap ?_)));simp only[G,bne_self_eq_false,CR,if_false];refine Ap ?_;simp only[l,decide_true,if_true];refine Af ?_;refine (?_:wpAny _ _ ((seqItems? (.ref a)>>=_)>>=_) _ _ _);refine Af (Af (Dc (c S) rfl (Ap ?_)));refine Af (Fa t ?_);refine Af (Fa d ?_);refine swap t d o S λs1 r=>Ap ⟨L _ _ _ _,?_⟩;exact y s1 k (by rw[Ep];exact t) (by rw[Ep];exact B) (by rw[Ep];exact o) (u.perm (KN t d)) r.sat λs2 D=>C s2 (r.trans D)
 |stop h=>
  intro s k d B o u S C;exact Wm N h d u S (λ_=>C s (.refl S)) λW e=>nomatch e
 |next h x y=>
  intro s k d B o u S C;exact Wm N h d u S (λe=>nomatch e) λW e=>Nat.succ.inj e▸y s k B (Bw B) o u S C
theorem Ag.hide{kt:KT}{s d:Ab}{P g F:Ae}(S:An kt s (P++F))(x:Ag kt s d (P++F) (g++F)):Ag kt s d P g:=by
 have i:=x.sat.nd;rw[BC,Fm]at i;refine⟨x.sat.left,λb o e h=> ?_,λp a=> ?_,x.size,x.gens,x.os,x.drawn,x.toks⟩
 ·by_cases q: ∃p∈F,p.1=b
  ·obtain⟨p,a,rfl⟩:=q
   have j:=S.mem p (BG _ a);rw[e]at j;cases j;exact x.sat.mem p (BG _ a)
  ·refine x.keep b o e λp a=> ?_
   rcases List.mem_append.mp a with a|a
   ·exact h p a
   ·exact λe=>q ⟨p,a,e⟩
 ·rcases x.new p (Dk _ a)with⟨r,c,e⟩|h
  ·rcases List.mem_append.mp c with c|c
   ·exact .inl ⟨r,c,e⟩
   ·exact absurd e.symm (i.2.2 _ (B7 a) _ (B7 c))
  ·exact .inr h
theorem Wo: ∀(P F:Ae) (l:List Obj),l.length=P.length→Bk (P++F) (l++F.map (·.2))=Bk P l++F:=by
 intro P
 induction P with
 |nil=>
  intro F l a;obtain rfl:l=[]:=Ps a;refine (?_:Bk F (F.map (·.2))=Bk [] []++F);have: ∀F:Ae,Bk F (F.map (·.2))=F:=by
   intro F
   induction F with
   |nil=>rfl
   |cons p F b=>exact Am (_:: ·) b
  rw[this];rfl
 |cons p P b=>
  intro F l a;cases l with
  |nil=>cases a
  |cons o l=>exact Am (_:: ·) (b F l (by simpa using a))
theorem Cb.hide{w:Aa}{F:Ae}{e c:Ak}(h:Av w c)(i:c={e with pre:=e.pre++F,outs:=λa t o=>e.outs a t o++F.map (·.2)})(j: ∀a t o,(e.outs a t o).length=e.pre.length)(d:e.gn=none:=by rfl):Cb w F e:=by
 subst i;intro A k l m s S G;refine B5 (h A k l m s S G) ?_;rintro r g ⟨a,t,o,n,u,v,y,b,z⟩;refine⟨a,t,o,n,u,v,y,?_,z⟩;rw[d];have b:Js (kt w) e.gn s g (e.pre++F) (Bk (e.pre++F) (e.outs a t o++F.map (·.2))++BI a (e.news a t o)):=b;rw[d,Wo _ _ _ (j a t o)]at b;have b:Ag (kt w) s g (e.pre++F) (Bk e.pre (e.outs a t o)++F++BI a (e.news a t o)):=b;refine Ag.hide S (b.permR ?_);exact AM [_,_,_] [] [0,4,0,1,2,4,6] [0,4,0,1,2,6,4]
theorem Rt{w:Aa}{F:Ae}{e:Ak}(h: ∀(A:Al) (s:Ab),A.depth≤e.d→A.units≤e.u→A.handled=e.h→An (kt w) s (e.pre++F)→ ∀R:Result→Ab→Prop,
  (∀b a t o,a.length=e.na→t.length=e.nt→o.length=e.no→Ag (kt w) s b (e.pre++F) (Bk e.pre (e.outs a t o)++BI a (e.news a t o)++F)→AY s.toks b.toks t→R (e.rx o (e.r a t)) b)→codeAny (model pw w) A e.c R s)(c:e.gn=none:=by rfl):Cb w F e:=λA d g i s S _=>
 h A s d g i S _ λ_ a t o j k l m n=>⟨a,t,o,j,k,l,rfl,by rw[c];exact Ag.hide S m,n⟩
theorem iC:entryFor table "_heapq.heapify"=some Builtin.«_heapq.heapify»:=entryFor_of_tree (by kernel_rfl)
theorem iE:plainId "_heapq.heapify"=true:=by decide+kernel
theorem iF:builtinKind "_heapq.heapify"=none:=by decide+kernel
theorem iG(a:Value):argsOk "_heapq.heapify" ⟨[a],[]⟩:=by unfold argsOk;kernel_rfl
theorem iH:entryFor table "_heapq.heapreplace"=some Builtin.«_heapq.heapreplace»:=entryFor_of_tree (by kernel_rfl)
theorem iI:plainId "_heapq.heapreplace"=true:=by decide+kernel
theorem iJ:builtinKind "_heapq.heapreplace"=none:=by decide+kernel
theorem iK(a b:Value):argsOk "_heapq.heapreplace" ⟨[a,b],[]⟩:=by unfold argsOk;kernel_rfl
theorem Ru{w:Aa}{A:Al}{R:Result→Ab→Prop}{s:Ab}{c:String}{a:Args}{b:Builtin}(l:plainId c=true)(m:entryFor table c=some b)(n:builtinKind c=none)(j:argsOk c a)
  (h:wpAny (model pw w) A.in1 (b a) (λfin d=>match fin with| .done f=>R (.ok f) d| .again k=>k.quiet=true∧codeAny (model pw w) A k R d) (λe d=>R (.error e) d) s):codeAny (model pw w) A (.call (.builtin c) a) R s:=by
 refine DV l m ?_;simp only[checkBuiltinCall,n];cases i:Manifest.signature? c with
 |none=>exact Ap h
 |some g=>
  simp only[argsOk,i]at j;have o:Bind.checkArgs c g a=pure ():=j;refine (?_:wpAny _ _ (Bind.checkArgs c g a) _ _ s);rw[o];exact Ap h
noncomputable def Wp(a k:Nat)(H b:List HE)(P:Ae):Ak:=
 {d:=580,u:=3600,h:=none,c:=.call (.builtin P9) ⟨[.ref a],[]⟩,idx:=[],pre:=(a,li (Au H) k)::P,na:=0,nt:=0,r:=λ_ _=>.ok (.ret .none),outs:=λ_ _ _=>li (Au b) k::P.map (·.2),news:=λ_ _ _=>[]}
theorem KO: ∀F:Ae,Bk F (F.map (·.2))=F
 |[]=>rfl
 |p::F=>Am (_:: ·) (KO F)
theorem iM{w:Aa}{F P:Ae}{a k:Nat}{H i:List HE}{g:HE→Nat}(y:2≤H.length)(r:H.length≤1000)(z:Sft g H true (H.length/2-1) (H.length/2-1) (H.length/2-1) i)(t:EV (P++F) H g):Cb w F (Wp a k H i P):=by
 refine Rt λA s B j C S R u=> ?_;refine (?_:codeAny _ A (.call (.builtin P9) _) _ s);rw[qL];refine Ru iE iC iF (iG _) ?_;have S:An (kt w) s ((a,li (Au H) k)::(P++F)):=S;have l:=S.mem _ Bj;have d:=l;rw[BX]at d;have fin: ∀(h:Int) (n:Nat),h=((H.length/2-1:Nat):Int)-1→n=H.length→wpAny (model pw w) A.in1 (PySem.again (.builtin "_heapq.heapify.sift" ⟨[.ref a,.bool false,.bool true,rawInt ((n/2-1:Nat):Int),rawInt ((n/2-1:Nat):Int),.none,rawInt h],[]⟩)) (λfin b=>match fin with| .done f=>R (.ok f) b| .again m=>m.quiet=true∧codeAny (model pw w) A m R b) (λe b=>R (.error e) b) s:=λh n ek en=>by
  subst en ek;refine Ap ⟨plainId_quiet Ha _,?_⟩;have v:A.in1.in1.units≤3602:=JN (JN j);refine Wn (A:=A) (F:=P++F) (by have:A.in1.units≤3601:=JN j;exact CQ (CC this 1) (by decide)) z s k (by (first|lia|omega)) (by (first|lia|omega)) r t S λb o=>u b [] [] [] rfl rfl rfl ?_ o.toks;refine (?_:Ag (kt w) s b ((a,_)::(P++F)) ((a,_)::Bk P (P.map (·.2))++[]++F));rw[KO,BR];exact o
 refine (?_:wpAny _ _ (_>>=_) _ _ _);refine Af ?_;refine (?_:wpAny _ _ (oneArg "_heapq.heapify" ⟨[.ref a],[]⟩>>=_) _ _ _);refine Af (GI (show oneArg "_heapq.heapify" ⟨[.ref a],[]⟩=pure (.ref a)from rfl) ?_);refine Af ?_;refine (?_:wpAny _ _ (isInstance (.ref a) (.type "list")>>=_) _ _ _);refine Af (wpAny_isInstance (T:="list") ⟨_,d,rfl⟩ AutoSeq1.sub_list_list ?_);rw[AS rfl];refine Ap (Ap ?_);dsimp only;refine Af ?_;refine (?_:wpAny _ _ (seqItems? (.ref a)>>=_) _ _ _);refine Af (Dc l rfl (Ap ?_));have c:(⟨Au H⟩:Array Value).size=H.length:=by simp[Au]
 rw[AI (by rw[c];(first|lia|omega)),AI (by rw[c];(first|lia|omega))];exact fin _ _ (by rw[c];(first|lia|omega)) c
noncomputable def Rv(a k:Nat)(H b:List HE)(x y:HE)(P:Ae):Ak:=
 {d:=580,u:=3600,h:=none,c:=.call (.builtin Oi) ⟨[.ref a,.ref y.A],[]⟩,idx:=[],pre:=(a,li (Au (x::H)) k)::P,na:=0,nt:=0,r:=λ_ _=>.ok (.ret (.ref x.A)),outs:=λ_ _ _=>li (Au b) k::P.map (·.2),news:=λ_ _ _=>[]}
theorem O4{w:Aa}{F P:Ae}{a k:Nat}{H n:List HE}{x y:HE}{g:HE→Nat}(j:H.length<1000)(z:Sft g (y::H) true 0 0 0 n)(t:EV (P++F) (y::H) g):Cb w F (Rv a k H n x y P):=by
 refine Rt λA s B u C S R v=> ?_;refine (?_:codeAny _ A (.call (.builtin Oi) _) _ s);rw[qM];refine Ru iI iH iJ (iK _ _) ?_;have S:An (kt w) s ((a,li (Au (x::H)) k)::(P++F)):=S;have l:=S.mem _ Bj;have d:=l;rw[BX]at d;unfold Builtin.«_heapq.heapreplace»;refine (?_:wpAny _ _ (_>>=_) _ _ _);refine Af ?_;refine (?_:wpAny _ _ (noKeywords "_heapq.heapreplace" ⟨[.ref a,.ref y.A],[]⟩>>=_) _ _ _);refine Af (GI (show noKeywords "_heapq.heapreplace" ⟨[.ref a,.ref y.A],[]⟩=pure ()from rfl) ?_);refine Af (m:=checkCount "heapreplace" 2 2 2) (Ap ?_);refine Af ?_;refine (?_:wpAny _ _ (isInstance (.ref a) (.type "list")>>=_) _ _ _);refine Af (wpAny_isInstance (T:="list") ⟨_,d,rfl⟩ AutoSeq1.sub_list_list ?_);rw[AS rfl];refine Ap (Ap ?_);dsimp only;refine Af ?_;refine (?_:wpAny _ _ (seqItems? (.ref a)>>=_) _ _ _);refine Af (Dc l rfl (Ap ?_));refine (?_:wpAny _ _ (updateSeq a (λb=>b.setIfInBounds 0 (.ref y.A))>>=_) _ _ _);have c:=S.set (i:=0) rfl (f:=Obj.mapSeq λb=>b.setIfInBounds 0 (.ref y.A)) (p:=(a,li (Au (x::H)) k)) rfl;have o:(⟨Au (x::H)⟩:Array Value).setIfInBounds 0 (.ref y.A)=⟨Au (y::H)⟩:=by
  apply Array.ext';simp[Au]
 have e:Obj.mapSeq (λb=>b.setIfInBounds 0 (.ref y.A)) (li (Au (x::H)) k)=li (Au (y::H)) k:=by
  rw[BX,BX];unfold Obj.mapSeq;dsimp only;rw[o];simp[Au]
 dsimp only at c;rw[e]at c;refine Af (wpAny_updateSeq l rfl ?_ (by show(Au (x::H)).length≤_;rw[BZ];exact AC (show(x::H).length≤1000 from j) (by decide)) (by rw[o];show(Au (y::H)).length≤_;rw[BZ];exact AC (show(y::H).length≤1000 from j) (by decide)));refine Ap ⟨plainId_quiet Ha _,?_⟩;refine Wn (A:=A) (F:=P++F) (by have:A.in1.units≤3601:=JN u;exact CQ (CC this 1) (by decide)) (res:=.ref x.A) z _ k (by (first|((repeat(first|exact .head _|apply List.mem_cons_of_mem));done)|simp)) (by (first|((repeat(first|exact .head _|apply List.mem_cons_of_mem));done)|simp)) (show(y::H).length≤1000 from j) t c.sat λr h=>v r [] [] [] rfl rfl rfl ?_ (c.trans h).toks;refine (?_:Ag (kt w) s r ((a,_)::(P++F)) ((a,_)::Bk P (P.map (·.2))++[]++F));rw[KO,BR];exact c.trans h
noncomputable def Rw(a b e n:Nat)(X:List El)(m:El):Ak:=
 {d:=500,u:=2800,h:=none,c:=.call (.builtin Oh) ⟨[.ref a],[(HY,.ref e),(FV,.none)]⟩,idx:=[],pre:=[(a,liO b 0),AJ b X n],na:=0,nt:=0,r:=λ_ _=>.ok (.ret (.ref m.T)),outs:=λ_ _ _=>[fi Bo [.none,.int (X.length:Int) 0],li (Ax X) n],news:=λ_ _ _=>[]}
theorem Wq(X:List El):(EL X).map (·.2)=X.map BO:=by
 unfold EL;rw[B0];rfl
theorem iN{w:Aa}{b c a n:Nat}{X:List El}{m:El}(d:X.Pairwise C3)(e:m∈X)(g: ∀y∈X,y≠m→Cs m y=true∧Cs y m=false):Cb w (EL X) (Rw b c a n X m):=
 Cb.hide (gJ (w:=w) (it:=b) (rs:=c) (sen:=a) (n:=n) d e g) (by unfold I1 Rw;simp only[Wq]) (λ_ _ _=>rfl)
noncomputable def MK(b n:Nat)(X Y:List El):Ak:=
 {d:=500,u:=2800,h:=none,c:=.call (.builtin Kl) ⟨[.ref b],[(FV,.none),(G6,.bool true)]⟩,idx:=[],pre:=[AJ b X n],na:=1,nt:=0,r:=λa _=>.ok (.ret (.ref (a.getD 0 0))),outs:=λ_ _ _=>[li (Ax X) n],news:=λ_ _ _=>[li (Ax Y) 2]}
theorem iO{w:Aa}{a n:Nat}{X Y:List El}{f:El→Nat}(c:X.Perm Y)(K:Ee Y f)(d:2≤X.length)(b:X.length<64):Cb w (EL Y) (MK a n X Y):=
 Cb.hide (gQ (w:=w) (rs:=a) (n:=n) c K d b) (by unfold V9 MK;simp only[Wq]) (λ_ _ _=>rfl)
theorem Wr(a:Addr)(b:Bool):Builtin.«list.sort» ⟨[.ref a],[(Str.ofString "reverse",.bool b)]⟩=ET a b:=by
 rw[ET,list_sort_rev]
theorem iP{w:Aa}{A:Al}{E:Value→Ab→Prop}{s:Ab}(b:NoneBooked s.heap)(k:A.in1.units<cLine)(a:A.units<cLine){x y:HE}(g:s.heap.get? x.A=some (Bm x))(h:s.heap.get? y.A=some (Bm y))(c:s.heap.get? x.e.T=some (BO x.e))(d:s.heap.get? y.e.T=some (BO y.e))(e:C3 x.e y.e)(i:x.e.T≠y.e.T){Q:Bool→Ab→Prop}(j:Q (Cs y.e x.e) s):
  wpAny (model pw w) A (keyLt' (tuples' false) (.ref x.A) (.ref y.A)) Q E s:=by
 refine kat_lt g rfl h rfl ?_;refine kat_cons (EqAt.of_refs i (Wh b a c d e) pw w _ _ (kat_no (kat_one _ _ ?_)));exact(CI.tuple_lt a c d (Rm b e)) pw w _ _ j
theorem Ws{h:Heap}: ∀{X:List HE},(∀e∈X,h.get? e.A=some (Bm e))→KatTups h (Au X) (X.map λe=>.ref e.e.T)
 |[],_=>trivial
 |e::X,a=>⟨⟨e.A,Bm e,_,0,rfl,a e Bj,rfl,rfl,rfl⟩,Ws λx b=>a x (BB _ b)⟩
theorem iQ{w:Aa}{A:Al}{E:Value→Ab→Prop}{s:Ab}{X:List HE}(a:0<X.length)(b: ∀e∈X,s.heap.get? e.A=some (Bm e))(c: ∀e∈X,s.heap.get? e.e.T=some (BO e.e)){Q:SortKind→Ab→Prop}(d:Q (tuples' false) s):wpAny (model pw w) A (keyKind' (Au X).toArray) Q E s:=by
 refine kat_kind (T:=.type "tuple") (Ws b) (by simpa using a) (λv g=> ?_) (by rfl) (by simpa using d);obtain⟨e,h,rfl⟩:=List.mem_map.mp g;have:(BO e.e).cls= .type "tuple":=by unfold BO;rw[JF]
 exact this▸(show Looks (model pw w) s.heap (typeOf (.ref e.e.T)) (BO e.e).cls from(Looks.ld (c e h)).andThen .now)
theorem Rx(X:List HE){i:Nat}(a:i<X.length):(Au X).getD i .none= .ref (X.getD i hz).A:=by
 simp[Au,a]
theorem iR{w:Aa}{A:Al}{E:Value→Ab→Prop}(V:A.in1.units<cLine)(O:A.units<cLine){a n:Nat}{H Y:List HE}{F:Ae}{g:HE→Nat}(y:H.Perm Y)(z:Y.Pairwise λa b=>g b<g a)(m:EV F Y g)(W:2≤H.length)(R:H.length<64){s:Ab}(S:An (kt w) s ((a,li (Au H) n)::F)){P:AE→Ab→Prop}
  (h: ∀o,Ag (kt w) s o ((a,li (Au H) n)::F) ((a,li (Au Y) (n+2))::F)→P (.done (.ret .none)) o):wpAny (model pw w) A (ET a true) P E s:=by
 have u:(Au H).length=H.length:=by simp[Au]
 have T:katRev true (Au H)=Au H.reverse:=by simp[katRev,Au]
 have v: ∀{i},i<H.length→H.reverse.getD i hz∈Y:=λ {i} c=>by
  have t:i<H.reverse.length:=by simpa using c
  rw[show H.reverse.getD i hz=H.reverse[i] by simp[List.getD,c]];exact y.mem_iff.mp (List.mem_reverse.mp (Db t))
 have X:H.reverse.Perm Y.reverse:=(GD H).trans (y.trans (GD Y).symm);have L:H.reverse.Pairwise (λa b=>g a≠g b):=by
  have:Y.Pairwise (λa b=>g a≠g b):=z.imp λh=>Ne.symm (CS h);exact(((GD H).trans y).pairwise_iff λ {a b} h=>Ne.symm h).mpr this
 have G: ∀i j,i<H.length→j<H.length→g (H.reverse.getD i hz)=g (H.reverse.getD j hz)→i=j:=λi j c k M=>by
  rw[F9]at L;have t:i<H.reverse.length:=by simpa using c
  have I:j<H.reverse.length:=by simpa using k
  rw[show H.reverse.getD i hz=H.reverse[i] by simp[List.getD,c],show H.reverse.getD j hz=H.reverse[j] by simp[List.getD,k]]at M;rcases Jf i j with h|h|h
  ·exact absurd M (L i j t I h)
  ·exact h
  ·exact absurd M.symm (L j i I t h)
 refine OL (κ:=tuples' false) (F:=F) (r:=λi=>g (H.reverse.getD i hz)) (by rw[u];exact W) (by rw[u];exact R) (λi j c k e=>G i j (u▸c) (u▸k) e) (λo Q l Z=> ?_) (λi j o C c k U l hC=> ?_) S λo p D J K=> ?_
 ·exact iQ (by (first|lia|omega)) (λe N=>l.mem _ (BB _ (m.mem e (y.mem_iff.mp N)))) (λe N=>l.mem _ (BB _ (m.emem e (y.mem_iff.mp N)))) Z
 ·rw[u]at c k
  rw[T,Rx _ (by simpa using c),Rx _ (by simpa using k)];have ne:g (H.reverse.getD i hz)≠g (H.reverse.getD j hz):=λe=>U (G i j c k e);obtain⟨ap,nT,eg⟩:=m.ap _ (v c) _ (v k) λe=>ne (by rw[e]);refine iP (Mu l) V O (l.mem _ (BB _ (m.mem _ (v c)))) (l.mem _ (BB _ (m.mem _ (v k)))) (l.mem _ (BB _ (m.emem _ (v c)))) (l.mem _ (BB _ (m.emem _ (v k)))) ap nT ?_;rw[eg];exact hC o (.refl l)
 ·rw[u]at D J
  have key:=ON (d:=hz) (f:=g) (B:=H.reverse) (B':=Y.reverse) (by (first|((repeat(first|exact .head _|apply List.mem_cons_of_mem));done)|simp)) D J X.symm (by rw[List.pairwise_reverse];exact z);have em:katRev true (p.toList.map λi=>(katRev true (Au H)).getD i .none)=Au Y:=by
   have:Au Y.reverse=(p.toList.map λi=>H.reverse.getD i hz).map λe=>Value.ref e.A:=by rw[key]
   rw[T];have e2:(p.toList.map λi=>(Au H.reverse).getD i .none)=Au Y.reverse:=by
    rw[this,B0];apply DW;intro i c;exact Rx _ (by simpa using List.mem_range.mp (D.mem_iff.mp c))
   rw[e2];simp[katRev,Au]
  rw[em]at K;exact h o K
theorem Wt(a:Value):argsOk "list.sort" ⟨[a],[(G6,.bool true)]⟩:=by unfold argsOk;kernel_rfl
noncomputable def Wu(a n:Nat)(H Y:List HE)(P:Ae):Ak:=
 {d:=580,u:=3600,h:=none,c:=.call (.builtin Km) ⟨[.ref a],[(G6,.bool true)]⟩,idx:=[],pre:=(a,li (Au H) n)::P,na:=0,nt:=0,r:=λ_ _=>.ok (.ret .none),outs:=λ_ _ _=>li (Au Y) (n+2)::P.map (·.2),news:=λ_ _ _=>[]}
theorem iT{w:Aa}{F P:Ae}{a n:Nat}{H Y:List HE}{g:HE→Nat}(k:H.Perm Y)(d:Y.Pairwise λa b=>g b<g a)(l:EV (P++F) Y g)(m:2≤H.length)(e:H.length<64):Cb w F (Wu a n H Y P):=by
 refine Rt λA s t o u S R r=> ?_;refine (?_:codeAny _ A (.call (.builtin Km) _) _ s);rw[P6];have S:An (kt w) s ((a,li (Au H) n)::(P++F)):=S;have h:=S.mem _ Bj;rw[BX]at h;have c:A.in1.units≤3601:=JN o;refine DV slot_list_sort.plain entry_list_sort (slot_list_sort.check _ _ _ _ _ _ _ _ ⟨_,h,rfl⟩ (Wt _) ?_);rw[show Builtin.«list.sort» ⟨[.ref a],[(G6,.bool true)]⟩=ET a true from Wr a true];refine iR (CQ (JN c) (by decide)) (CQ c (by decide)) k d l m e S λi j=>r i [] [] [] rfl rfl rfl ?_ j.toks;refine (?_:Ag (kt w) s i ((a,_)::(P++F)) ((a,_)::Bk P (P.map (·.2))++[]++F));rw[KO,BR];exact j
noncomputable def Dg(q:Nat)(a:List Value)(n k:Nat):Ak:=
 {d:=900,u:=9000,h:=none,c:=.call (.builtin Ma) ⟨[.ref q],[]⟩,idx:=[],pre:=[(q,li a n)],na:=0,nt:=1,r:=λ_ t=>.ok (.ret (.int k (t.getD 0 0))),outs:=λ_ _ _=>[li a n],news:=λ_ _ _=>[]}
theorem DI{w:Aa}{q n k:Nat}{a:List Value}(d:a.length=k)(j:k≤1000):Av w (Dg q a n k):=by
 refine GT λA s l m o S R g=> ?_;have b:=S.mem (q,li a n) (by simp[Dg]);rw[BX]at b;refine (?_:codeAny _ _ (.call (.builtin Ma) ⟨[.ref q],[]⟩) _ s);rw[T6];refine Ru plain_len entry_len kind_len (args_len1 _) ?_;have i:s.heap.IsList q (⟨a⟩:Array Value):=⟨_,b,rfl,n,rfl⟩
 have e:((⟨a⟩:Array Value).size:Int)=k:=by show((a.length:Nat):Int)=_;rw[d]
 refine CE (wpAny_len_body_list (E:=λ_ _=>False) (Q:=λr c=>r= .int k (s.toks+1)∧c={s with toks:=s.toks+1+1}) i (by rw[e];(first|lia|omega)) ⟨by rw[e],rfl⟩) (λfin c h=> ?_) (λe c h=>False.elim h);obtain⟨v,rfl,h⟩:=h;obtain⟨rfl,rfl⟩:=h;refine g _ [] [s.toks+1] [] rfl rfl rfl ?_ ⟨Jn _,A8 _⟩;exact S.tok.trans S.tok.sat.tok
theorem iU:IB= .type "slice":=by
 refine (?_:Value.type s4674234679698826739x5=_);rw[←e4674234679698826739x5]
noncomputable def EW(a b:Nat)(e:List Value)(n:Nat)(vl g i:Value)(j:List Value):Ak:=
 {d:=900,u:=9000,h:=none,c:=.call (.builtin Jz) ⟨[.ref a,.ref b],[]⟩,idx:=[],pre:=[(a,li e n),(b,fi IB [vl,g,i])],na:=1,nt:=0,r:=λa _=>.ok (.ret (.ref (a.getD 0 0))),outs:=λ_ _ _=>[li e n,fi IB [vl,g,i]],news:=λ_ _ _=>[li j 0]}
theorem Ry{hv:Option Value}{w:Aa}{a j n:Nat}{b k:List Value}{vl d e:Value}{l r g:Option Int}(D:IsPart vl l)(E:IsPart d r)(F:IsPart e g)(z:g≠some 0)(G:b.length≤1000)(H:slicePick ⟨b⟩ l r g=⟨k⟩):Av w {EW a j b n vl d e k with h:=hv}:=by
 refine GT λA s L M B S R I=> ?_;have y:=S.mem (a,li b n) (by simp[EW]);have i:=S.mem (j,fi IB [vl,d,e]) (by simp[EW]);have J:(fi IB [vl,d,e]:Obj)={cls:=.type "slice",data:=.fields #[vl,d,e]}:=by
  refine (?_:Obj.mk IB none _ _=_);rw[iU]
 rw[BX]at y;rw[J]at i;have K:s.TypeIs (.ref a) "list":=⟨_,y,rfl⟩
 have u:s.TypeIs (.ref j) "slice":=⟨_,i,rfl⟩
 refine (?_:codeAny _ _ (.call (.builtin Jz) _) _ s);rw[P5];refine DV slot_list_getitem.plain entry_list_getitem (slot_list_getitem.check _ _ _ _ _ _ _ _ K (args_list_getitem _ _) ?_);refine (?_:wpAny _ _ (Builtin.List.listSubscript? (.ref j)>>=_) _ _ s);refine Af ?_;unfold Builtin.List.listSubscript?;refine Af (wpAny_specialOf u slice_no_index ?_);simp only[Option.isNone_none,if_true];refine Ap ?_;refine (?_:wpAny _ _ (typeOf (.ref j)>>=_) _ _ s);refine Af (wpAny_typeOf u ?_);rw[AI (by decide),listSliceParts_eq];have t: ¬((rawPart g==rawInt 0)=true):=by
  cases g with
  |none=>exact FF
  |some c=>
   intro B;exact z (Am some (by simpa[rawPart,rawInt]using B))
 refine Af (Af (wpAny_field i rfl (x:=e) rfl (Af (wpAny_listPart F ?_))));rw[AI t];refine Af (wpAny_field i rfl (x:=vl) rfl (Af (wpAny_listPart D ?_)));refine Af (wpAny_field i rfl (x:=d) rfl (Af (wpAny_listPart E (Ap ?_))));refine Af (m:=Builtin.List.listItems (.ref a)) ?_;unfold Builtin.List.listItems;refine Af (Dc y rfl (Ap ?_));refine Af (GI (sliceIndices_raw l r g _ z) ?_);have v:=S.push (o:=li k 0) rfl;have C:(li k 0:Obj)={cls:=.type "list",data:=.seq (slicePick ⟨b⟩ l r g)}:=by rw[H,BX]
 rw[C]at v;refine Af (wpAny_newObj_type (Ap (I _ [s.heap.objs.size] [] [] rfl rfl rfl ?_ (A8 _))) (AC (slicePick_size_le _ l r g) (AC (show b.length≤1000 from G) (by decide))));refine (?_:Ag (kt w) s _ [(a,li b n),(j,fi IB [vl,d,e])] [(a,li b n),(j,fi IB [vl,d,e]),(s.heap.objs.size,li k 0)]);rw[C];exact v
theorem H4{w:Aa}{a j n:Nat}{b d:List Value}{vl e g:Value}{h i c:Option Int}(k:IsPart vl h)(l:IsPart e i)(m:IsPart g c)(o:c≠some 0)(r:b.length≤1000)(s:slicePick ⟨b⟩ h i c=⟨d⟩):Av w (EW a j b n vl e g d):=Ry (hv:=none) k l m o r s
set_option maxHeartbeats 4000000
noncomputable abbrev KQ:List Stmt:=AO (DY 8)
noncomputable abbrev JO:Stmt:=AF KQ 0
noncomputable abbrev Rz:Stmt:=AF KQ 1
noncomputable abbrev JP:Stmt:=AF KQ 2
noncomputable abbrev Fb(i:Nat):Stmt:=AF (AO JO) i
noncomputable abbrev Cc(i:Nat):Stmt:=AF (AO JP) i
noncomputable abbrev Cm(f c:Nat):Env:={scope:=EM (DY 8),locals:=f,globals:=3,cells:=[(yH,c)],qual:=⟨⟨[110,108,97,114,103,101,115,116,46,60,108,111,99,97,108,115,62,46]⟩⟩,func:=some 280,code:=.ref 279,frame:=some f,builtins:=0}
noncomputable abbrev FY:Expr:=sT (Fb 3)
noncomputable abbrev BK:Stmt:=Cc 7
noncomputable def trnT(f c:Nat):Sem AE:=isTrue (sT JO) (Cm f c) (eval (sT JO) (Cm f c))>>=λb=>pure (.done (.ret (.bool b)))
noncomputable def trnA(f c:Nat):Sem AE:=execs [Fb 0,Fb 1,Fb 2] (Cm f c)>>=λv=>pure (.done v)
noncomputable def trnL(f c:Nat):Sem AE:=eval (A9 (Br (eE FY 0)) 0) (Cm f c)>>=λv=>pure (.done (.ret v))
noncomputable def trnR(f c:Nat):Sem AE:=eval (A9 (Br (eE FY 0)) 1) (Cm f c)>>=λv=>pure (.done (.ret v))
noncomputable def trnE(f c:Nat):Sem AE:=eval (eE FY 2) (Cm f c)>>=λv=>pure (.done (.ret v))
noncomputable def trn2(f c:Nat):Sem AE:=exec Rz (Cm f c)>>=λv=>pure (.done v)
noncomputable def trnK(f c:Nat):Sem AE:=isTrue (sT JP) (Cm f c) (eval (sT JP) (Cm f c))>>=λb=>pure (.done (.ret (.bool b)))
noncomputable def trnC1(f c:Nat):Sem AE:=execs [Cc 0,Cc 1] (Cm f c)>>=λv=>pure (.done v)
noncomputable def trnC2(f c:Nat):Sem AE:=execs [Cc 2,Cc 3,Cc 4,Cc 5,Cc 6] (Cm f c)>>=λv=>pure (.done v)
noncomputable def trnFI(f c:Nat):Sem AE:=(eval (Ex BK) (Cm f c)>>=λv=>foldedSetIterable (Ex BK) (Cm f c) v>>=λx=>standAt (Ex BK).pos>>=λ_=>holding [x] (pyIter x))>>=λv=>pure (.done (.ret v))
noncomputable def trnC3(f c:Nat):Sem AE:=execs [Cc 8,Cc 9] (Cm f c)>>=λv=>pure (.done v)
lay_quick trnT trnA trnL trnR trnE trn2 trnK trnC1 trnC2 trnFI trnC3
set_option maxHeartbeats 400000
noncomputable abbrev AQ(P:Aj)(b c d a e:Nat)(x:List DictEntry)(n:Nat):Obj:=fr ([Aq P LX b (.int d a),Aq P Oc c (.ref e)]++x) n
noncomputable abbrev Cn:=ce (some .none)
theorem iV(w:Aa)(d e b:Nat):
  AD w 22 (.call (.ref 280) ⟨[.int e b,.ref d],[]⟩) ([]) [0,0,0,0,1,1,0,1,1,2,2,0,1] [] [] 0 470 2500 [0,1]
   (λa c g=>.again (.func KQ (Cm (a 0) (a 1)))) (λa c g=>[(a 0,AQ w.2 (c 0) (c 1) e b d [] 2),(a 1,Cn)]) 2:=by
 kernel_rfl
theorem iW(w:Aa)(f c e g d a h:Nat)(b:Bool):
  AG w 14 (tw11701523766201414514 f c) ([(f,AQ w.2 e g d a h [] 2)]) [1,1] [] (Bh [0] [λl m n=>(.bool (decide ((d:Int)=1)),.bool b)]) 490 2700 [0]
   (λi j k=>.done (.ret (.bool b))) (λi j k=>[(f,AQ w.2 e g d a h [] 2)]) 1:=by
 kernel_rfl
noncomputable abbrev AW(a b:Nat):Value:=(.int (↑ a) b)
theorem iY(w:Aa)(f c h i j e a g:Nat)(X:List El)(m:El):
  AG w 81 (tw16727612240851387441 f c) ([(f,AQ w.2 h i j e a [] 2),AJ a X g,(c,Cn)]) (dg 6 0x37d78d97076118f4ff) (AB [(5,[3,1])] ([λk n o=>Rw (tk k 0) a (tk k 1) g X m])) [] 490 2700 [0,1,4]
   (λb d l=>.done .next) (λb d l=>[(f,fr [Ad w LX h (AW j e),Ad w Oc i (.ref a),Ad w DZ (d 0) (.ref (b 0)),Ad w GQ (d 1) (.ref (b 1)),Ad w D9 (d 2) (.ref m.T)] 5),(a,li (Ax X) g),(b 1,⟨Kk,none,Data.plain,⟨[]⟩⟩)]) 3:=by
 kernel_rfl
theorem iZ(w:Aa)(f c b d e a g h i j k l r:Nat):
  AG w 8 (tw4840358309800446347 f c) ([(f,AQ w.2 b d e a g [Ad w DZ h (.ref k),Ad w GQ i (.ref l),Ad w D9 j (.ref r)] 5)]) [1] [] [] 490 2700 [0]
   (λm n o=>.done (.ret (.ref r))) (λm n o=>[(f,AQ w.2 b d e a g [Ad w DZ h (.ref k),Ad w GQ i (.ref l),Ad w D9 j (.ref r)] 5)]) 0:=by
 kernel_rfl
theorem lA(w:Aa)(f c d e g a h i j k l b r:Nat):
  AG w 8 (tw13090034962049717353 f c) ([(f,AQ w.2 d e g a h [Ad w DZ i (.ref l),Ad w GQ j (.ref b),Ad w D9 k (.ref r)] 5)]) [1] [] [] 490 2700 [0]
   (λm n o=>.done (.ret (.ref b))) (λm n o=>[(f,AQ w.2 d e g a h [Ad w DZ i (.ref l),Ad w GQ j (.ref b),Ad w D9 k (.ref r)] 5)]) 0:=by
 kernel_rfl
theorem lB(w:Aa)(f c d e g a h i j k l m r:Nat):
  AG w 10 (tw12698246169658312150 f c) ([(f,AQ w.2 d e g a h [Ad w DZ i (.ref l),Ad w GQ j (.ref m),Ad w D9 k (.ref r)] 5)]) [1] [] [] 490 2700 [0,1]
   (λb n o=>.done (.ret (.ref (b 0)))) (λb n o=>[(f,fr [Ad w LX d (AW g a),Ad w Oc e (.ref h),Ad w DZ i (.ref l),Ad w GQ j (.ref m),Ad w D9 k (.ref r)] 5),(b 0,li [.ref r] 0)]) 0:=by
 kernel_rfl
theorem lC(w:Aa)(f c l m g e a d h:Nat)(X Y:List El):
  AG w 57 (tw6526402817431349631 f c) ([(f,AQ w.2 l m g e a [] 2),AJ a X d,(c,Cn)]) (dg 5 769348052124) (AB [(0,[1]),(1,[1]),(0,[3,4])] ([λb i j=>Dg a (Ax X) d h,λb i j=>MK a d X Y,λb i j=>EW (tk b 0) (tk b 1) (Ax Y) 2 .none (.int g e) .none (Ax Y)])) (Bh [0] [λb i j=>(.bool (decide ((g:Int)≥h)),.bool true)]) 490 2700 [1,5]
   (λk n o=>.done (.ret (.ref (k 2)))) (λk n o=>[(a,li (Ax X) d),(k 2,li (Ax Y) 0)]) 2:=by
 kernel_rfl
theorem lD(w:Aa)(f c i j d b a e h:Nat)(X:List El):
  AG w 33 (tw6526402817431349631 f c) ([(f,AQ w.2 i j d b a [] 2),AJ a X e]) [0,0,1,0,1,1,1,1,1] (AB [(0,[1])] ([λk l m=>Dg a (Ax X) e h])) (Bh [0] [λk l m=>(.bool (decide ((d:Int)≥h)),.bool false)]) 490 2700 [0,1]
   (λn g o=>.done .next) (λn g o=>[(f,fr [Ad w LX i (.int (↑d) b),Ad w Oc j (.ref a),Ad w Cj (g 1) (AW h (g 0))] 3),(a,li (Ax X) e)]) 2:=by
 kernel_rfl
theorem lE(w:Aa)(f c b d e a g h y i:Nat):
  AG w 9 (tw16562333448351188041 f c) ([(f,AQ w.2 b d e a g [Ad w Cj y (.int h i)] 3),(c,Cn)]) [2] [] [] 490 2700 [0,1]
   (λj k l=>.done (.ret IJ)) (λj k l=>[(f,AQ w.2 b d e a g [Ad w Cj y (.int h i)] 3),(c,Cn)]) 0:=by
 kernel_rfl
set_option maxHeartbeats 4000000
noncomputable abbrev Fc:Expr:=sk (Cc 1) 0 []
noncomputable abbrev ML(f a:Nat):Env:={scope:={Fp Fc with names:=[(Hy,.local),(By,.local),(Bt,.local)]},locals:=a,globals:=3,cells:=[],qual:=⟨⟨[110,108,97,114,103,101,115,116,46,60,108,111,99,97,108,115,62,46]⟩⟩,func:=none,code:=.ref 279,frame:=some f,builtins:=0}
theorem lH:(Hr Fc).ifs=[]:=by kernel_rfl
theorem Wv:((Hr Fc).is_async != 0)=false:=by kernel_rfl
noncomputable def trzA(f a x:Nat):Sem AE:=assign (Hr Fc).target (ML f a) (.ref x)>>=λ_=>pure (.done .next)
noncomputable def trzE(f b a:Nat):Sem AE:=(eval (eE Fc 0) (ML f b)>>=λv=>call (.builtin "list.append") [.ref a,v])>>=λ_=>pure (.done .next)
lay_quick trzA trzE
set_option maxHeartbeats 400000
noncomputable abbrev Hb(v:Value)(a b:Nat):Obj:=fi LS [v,.bool false,.bool false,.ref a,.ref b]
noncomputable abbrev Fz(c:Int)(n:Nat):Obj:=fi Ez [.int c 0,.int n 0,.int (-1) 0]
noncomputable abbrev Da(a b:Nat):=tu [.ref a,.ref b] 0
noncomputable abbrev FA(a b:Nat):=Hb .none a b
theorem lI(w:Aa)(z d e g a b n i j:Nat)(y:Nat)(c:Int)(m o:Value)(k:List Value):
  AG w 50 (OZ z) ([(z,FA d e),(d,Da g a),(e,tu [m,o] 0),(g,Fz c (n+1)),(a,liO b i),(b,li k j)]) (rl 96 8742791074641908) (AB [(2,[4,5])] ([λs t u=>CW a b i k j (.ref y)])) [] 520 3000 (.range 7)
   (λh l r=>.done (.ret (.ref (h 0)))) (λh l r=>[(z,fi LS [.int (↑(h 0)) 0,DG,DG,.ref d,.ref e]),(d,tu [.ref g,.ref a] 0),(e,tu [.int c (l 0),.ref y] 0),(g,fi Ez [.int (c+Int.negSucc 0) 0,.int (↑(n+1)-1) 0,.int (-1) 0]),(a,Gr b i),(b,li k j),(h 0,tu [.int c (l 0),.ref y] 0)]) 1:=by
 kernel_rfl
theorem lJ(w:Aa)(z a b d e g i h:Nat)(c:Int)(j k:Value)(l:List Value):
  AG w 34 (OZ z) ([(z,FA a b),(a,Da d e),(b,tu [j,k] 0),(d,Fz c 0),(e,liO g i),(g,li l h)]) (rl 144 0x93f95a61fa1) [] [] 520 3000 (.range 6)
   (λm n o=>.done .next) (λm n o=>[(z,fi LS [.none,DG,DG,.ref a,.ref b]),(a,tu [.ref d,.ref e] 0),(b,tu [j,k] 0),(d,fi Ez [.int c 0,.int 0 0,.int (-1) 0]),(e,fi Bo [.ref g,.int (↑i) 0]),(g,li l h)]) 0:=by
 kernel_rfl
theorem lK(w:Aa)(f a X t:Nat)(y:Nat)(c:Int):
  AG w 66 (tw17285008384611438973 f a X) ([(a,di [] 0),(X,tu [.int c t,.ref y] 0)]) (dg 6 0x14b9e791d4747893c3fd8af) [] [] 520 3000 [0,1]
   (λd b e=>.done .next) (λd b e=>[(a,di [Ad w By (b 0) (.int c t),Ad w Bt (b 1) (.ref y)] 2),(X,tu [.int c t,.ref y] 0)]) 2:=by
 kernel_rfl
theorem lL(w:Aa)(f a X t b d:Nat)(c:Int)(y:Nat)(e g:Value):
  AG w 66 (tw17285008384611438973 f a X) ([(a,di [Ad w By b e,Ad w Bt d g] 2),(X,tu [.int c t,.ref y] 0)]) (dg 6 0x14b9e791d4747893c3fd8af) [] [] 520 3000 [0,1]
   (λh i j=>.done .next) (λh i j=>[(a,di [Ad w By b (.int c t),Ad w Bt d (.ref y)] 2),(X,tu [.int c t,.ref y] 0)]) 2:=by
 kernel_rfl
theorem lM(w:Aa)(f b a t g h m:Nat)(y:Nat)(c:Int)(d:List Value):
  AG w 13 (tw3273448191207426121 f b a) ([(b,di [Ad w By g (.int c t),Ad w Bt h (.ref y)] 2),(a,li d m)]) [1,1] (AB [(0,[1])] ([λi l n=>Ck a d m (.ref (tk i 0))])) [] 520 3000 [0,1,2]
   (λe j k=>.done .next) (λe j k=>[(b,di [Ad w By g (.int c t),Ad w Bt h (.ref y)] 2),(a,li (d++[Value.ref (tk [e 0] 0)]) m.succ),(e 0,tu [.ref y,.int c t] 0)]) 0:=by
 kernel_rfl
noncomputable abbrev Ww:Expr:=.ListComp (eE Fc 0) [Hr Fc] (Fp Fc) (gP Fc)
noncomputable abbrev lN(f b z a:Nat):Code:=.compLoop Ww 0 (.ref z) (.ref a) (ML f b)
inductive H8 (P:Aj) (X:List El):Nat→List HE→Obj→Prop
 |a (H:List HE):H8 P X 0 H (di [] 0)
 |b (i:Nat) (H:List HE) (y0 y1:Nat):H8 P X (i+1) H (di [Aq P By y0 (.int (-(i:Int)) (H.getD i hz).t),Aq P Bt y1 (.ref (X.getD i hz.e).T)] 2)
structure O5(X:List El)(i:Nat)(H:List HE):Prop where
 len:H.length=i
 at': ∀j,j<i→(H.getD j hz).e=X.getD j hz.e∧(H.getD j hz).o= -(j:Int)
noncomputable def I2(X:List El)(j z a b c e g h k:Nat)(n i:Nat)(l m:Value)(d:Obj)(H:List HE):Ae:=
 [(z,FA a b),(a,Da c e),(b,tu [l,m] 0),(c,Fz (-(i:Int)) n),(e,liO g i),AJ g X k,(j,d),(h,li (Au H) i)]++HL H
theorem lO{w:Aa}{A:Al}{E:Value→Ab→Prop}{s:Ab}{z X a b:Nat}{F:Ae}(S:An (kt w) s ((z,Hb (.int X 0) a b)::F)){Q:Unit→Ab→Prop}{g:List Expr}{k:Nat}{p:Pos}{j:Expr}(m:j= .Tuple g k p)
  (h: ∀l,Ag (kt w) s l ((z,Hb (.int X 0) a b)::F) ((z,FA a b)::F)→Q () l):wpAny (model pw w) A (letOwnedTupleGo j (.ref z) (.ref X)) Q E s:=by
 rw[m];have c:=S.mem _ Bj;have d:=S.set (i:=0) rfl (f:=Obj.mapFields (·.setIfInBounds 0 .none)) (p:=(z,Hb (.int X 0) a b)) rfl;have e:Obj.mapFields (·.setIfInBounds 0 .none) (Hb (.int X 0) a b)=Hb .none a b:=by simp[Obj.mapFields]
 dsimp only at c d;rw[e]at d;have n:(Hb (.int X 0) a b:Obj)={cls:=.type "zip",data:=.fields #[.int X 0,.bool false,.bool false,.ref a,.ref b]}:=by
  refine (?_:Obj.mk LS none _ _=_);rw[show LS= .type "zip" by refine (?_:Value.type s14339709457334898076x3=_);rw[←e14339709457334898076x3]]
 rw[n]at c;unfold letOwnedTupleGo;refine Af (Jo c ?_);refine (?_:wpAny _ _ (if(["enumerate","zip","dict_itemiterator","dict_reverseitemiterator","odict_iterator","itertools.zip_longest","itertools.pairwise"].contains "zip"&&
   (#[.int X 0,.bool false,.bool false,.ref a,.ref b]:Array Value)[0]? ==some (rawInt X))=true then _ else _) Q E s)
 rw[AS (by simp[rawInt])];refine Af (FI ?_);refine (?_:wpAny _ _ (setField (.ref z) 0 .none) Q E s);exact wpAny_setField c rfl (by (first|((repeat(first|exact .head _|apply List.mem_cons_of_mem));done)|simp)) (h _ d)
theorem lP:Ew λa k p=>(Hr Fc).target= .Tuple a k p:=⟨Br (Hr Fc).target,tK (Hr Fc).target,gP (Hr Fc).target,by kernel_rfl⟩
theorem lQ{w:Aa}{A:Al}(m:A.handled=none)(n:A.depth≤520)(uB:A.units≤3000){X:List El}{f c P t i:Nat}{d:Obj}{H:List HE}{s3:Ab}(s:H8 w.2 X i H d)(o:An (kt w) s3 [(c,d),(P,tu [.int (-(i:Int)) t,.ref (X.getD i hz.e).T] 0)]){Q:Unit→Ab→Prop}{E:Value→Ab→Prop}
  (h: ∀r g k,Ag (kt w) s3 r [(c,d),(P,tu [.int (-(i:Int)) t,.ref (X.getD i hz.e).T] 0)] [(c,di [Ad w By g (.int (-(i:Int)) t),Ad w Bt k (.ref (X.getD i hz.e).T)] 2),(P,tu [.int (-(i:Int)) t,.ref (X.getD i hz.e).T] 0)]→Q () r):
  wpAny (model pw w) A (assign (Hr Fc).target (ML f c) (.ref P)) Q E s3:=by
 cases s with
 |a _=>exact Bq (lK w f c P t (X.getD 0 hz.e).T (-((0:Nat):Int))) (λ_:Unit=>Flow.next) (Ai (Ai (Ai te17285008384611438973 f) c) P) [] m n uB AR Ar o λu v y l _ e _ _=>h l _ _ e
 |b j _ g k=>exact Bq (lL w f c P t g k (-((j+1:Nat):Int)) (X.getD (j+1) hz.e).T _ _) (λ_:Unit=>Flow.next) (Ai (Ai (Ai te17285008384611438973 f) c) P) [] m n uB AR Ar o λu v y l _ e _ _=>h l _ _ e
inductive lR (w:Aa) (X:List El) (z TI TO ri it rs nr cl acc N:Nat) (H:List HE) (r:Result) (L':Ae) (ts:List Nat):Prop
 |mk (hr:r= .ok .next) (H2:List HE) (oz oT og oc:Obj) (ho:O5 X N (H++H2)) (hf:H8 w.2 X N (H++H2) oc) (ht:ts=H2.map HE.t) (hL:L'=[(z,oz),(TI,tu [.ref ri,.ref it] 0),(TO,oT),(ri,og),(it,liO rs N),(rs,li (Ax X) nr),(cl,oc),(acc,li (Au (H++H2)) N)]++HL (H++H2))
theorem lS{w:Aa}{A:Al}(R:A.handled=none)(hd:A.depth≤500)(hu:A.units≤2800){X:List El}{f m z c e g h l a o N:Nat}(hN:N≤X.length)(U:X.length≤900): ∀(n i:Nat),i+n=N→ ∀(v y:Value) (d:Obj) (H:List HE),H8 w.2 X i H d→O5 X i H→
  RunsW w A (lN f m z a) (I2 X m z c e g h l a o n i v y d H)
   (lR w X z c e g h l o m a N H):=by
 intro n
 induction n with
 |zero=>
  intro i hi v y d H hF C s S;obtain rfl:i=N:=by (first|lia|omega)
  have I:A.depth≤520:=AC hd (by decide);have uB:A.units≤3000:=AC hu (by decide);have J:([(z,FA c e),(c,Da g h),(e,tu [v,y] 0),(g,Fz (-(i:Int)) 0),(h,liO l i),AJ l X o]++([(m,d),(a,li (Au H) i)]++HL H)).Perm (I2 X m z c e g h l a o 0 i v y d H):=by
   exact AM [_] [_,_,_,_,_,_,_,_] [0,6,1,3,5,7,9,11,0,2,13,15,2] [1,3,5,7,9,11,13,15,2]
  refine qS Wv (Bq (lJ w z c e g h l i o (-(i:Int)) v y (Ax X)) IY (Ai te14694477216599127761 (.ref z)) [] R I uB AR Ar (S.part _ J) λK V ω s1 x L _ U=> ?_);obtain rfl:x=none:=O0 (b:=none) U;have B:Ag (kt w) s s1 (I2 X m z c e g h l a o 0 i v y d H) ([(z,FA c e),(c,Da g h),(e,tu [v,y] 0),(g,fi Ez [.int (-(i:Int)) 0,.int 0 0,.int (-1) 0]),(h,liO l i),AJ l X o]++([(m,d),(a,li (Au H) i)]++HL H)):=Ag.part _ S J L;refine⟨rfl,_,[],⟨rfl,[],FA c e,tu [v,y] 0,fi Ez [.int (-(i:Int)) 0,.int 0 0,.int (-1) 0],d,by rw[BR];exact C,by rw[BR];exact hF,rfl,rfl⟩,B.permR ?_,B.toks⟩;simp only[BR];exact AM [_] [_,_,_,_,_,_,_,_] [0,6,1,3,5,7,9,11,0,2,13,15,2] [0,8,1,3,5,7,9,11,13,15,2]
 |succ n ih=>
  intro i hi v y d H hF C s S;have iX:i<X.length:=by (first|lia|omega)
  have I:A.depth≤520:=AC hd (by decide);have uB:A.units≤3000:=AC hu (by decide);have J:([(z,FA c e),(c,Da g h),(e,tu [v,y] 0),(g,Fz (-(i:Int)) (n+1)),(h,liO l i),AJ l X o]++([(m,d),(a,li (Au H) i)]++HL H)).Perm (I2 X m z c e g h l a o (n+1) i v y d H):=by
   exact AM [_] [_,_,_,_,_,_,_,_] [0,6,1,3,5,7,9,11,0,2,13,15,2] [1,3,5,7,9,11,13,15,2]
  have ey:(Ax X)[i]? =some (.ref (X.getD i hz.e).T):=by simp[List.getD,iX]
  refine qT Wv lH (Bq (lI w z c e g h l n i o (X.getD i hz.e).T (-(i:Int)) v y (Ax X)) IY (Ai te14694477216599127761 (.ref z)) [0] R I uB (Az _ _ (Ah (λ_ _ _=>G2 ey) Ay)) Ar (S.part _ J) λK V ω s1 x L G U=> ?_);obtain rfl:x=some (.ref (K 0)):=O0 (b:=some _) U;refine⟨_,rfl,?_⟩;have B:=Ag.part _ S J L;have er:(fi Ez [.int (-(i:Int)+Int.negSucc 0) 0,.int (((n+1:Nat):Int)-1) 0,.int (-1) 0]:Obj)=Fz (-((i+1:Nat):Int)) n:=by
   have e1:(-(i:Int)+Int.negSucc 0)= -((i+1:Nat):Int):=by (first|lia|omega)
   have e2:((n+1:Nat):Int)-1=n:=by (first|lia|omega)
   rw[e1,e2]
  rw[er]at B;have G:AY s.toks s1.toks [V 0]:=G;generalize K 0=P at B;generalize V 0=t at B G;obtain⟨ak,k,p,et⟩:=lP;have S2:=B.sat;have p3:([(z,Hb (.int P 0) c e),(c,Da g h),(e,tu [.int (-(i:Int)) t,.ref (X.getD i hz.e).T] 0),(g,Fz (-((i+1:Nat):Int)) n),(h,liO l (i+1)),AJ l X o,(P,tu [.int (-(i:Int)) t,.ref (X.getD i hz.e).T] 0)]++([(m,d),(a,li (Au H) i)]++HL H)).Perm ((z,Hb (.int P 0) c e)::([(c,Da g h),(e,tu [.int (-(i:Int)) t,.ref (X.getD i hz.e).T] 0),(g,Fz (-((i+1:Nat):Int)) n),(h,liO l (i+1)),AJ l X o,(P,tu [.int (-(i:Int)) t,.ref (X.getD i hz.e).T] 0)]++([(m,d),(a,li (Au H) i)]++HL H))):=AX _;refine lO (S2.perm p3) et λs3 M=> ?_;have O:=(B.permR p3).trans M;have pA:([(m,d),(P,tu [.int (-(i:Int)) t,.ref (X.getD i hz.e).T] 0)]++([(z,FA c e),(c,Da g h),(e,tu [.int (-(i:Int)) t,.ref (X.getD i hz.e).T] 0),(g,Fz (-((i+1:Nat):Int)) n),(h,liO l (i+1)),AJ l X o,(a,li (Au H) i)]++HL H)).Perm ((z,FA c e)::([(c,Da g h),(e,tu [.int (-(i:Int)) t,.ref (X.getD i hz.e).T] 0),(g,Fz (-((i+1:Nat):Int)) n),(h,liO l (i+1)),AJ l X o,(P,tu [.int (-(i:Int)) t,.ref (X.getD i hz.e).T] 0)]++([(m,d),(a,li (Au H) i)]++HL H))):=by
   exact AM [_] [_,_,_,_,_,_,_,_,_] [0,2,1,3,0,7,5,7,9,11,13,15,17,2] [5,0,6,7,9,11,13,15,3,0,2,1,17,2]
  refine lQ R I uB hF (O.sat.part _ pA) λs4 D E W=> ?_;have Q:=O.trans (Ag.part _ O.sat pA W);have pE:([(m,di [Ad w By D (.int (-(i:Int)) t),Ad w Bt E (.ref (X.getD i hz.e).T)] 2),(a,li (Au H) i)]++([(P,tu [.int (-(i:Int)) t,.ref (X.getD i hz.e).T] 0),(z,FA c e),(c,Da g h),(e,tu [.int (-(i:Int)) t,.ref (X.getD i hz.e).T] 0),(g,Fz (-((i+1:Nat):Int)) n),(h,liO l (i+1)),AJ l X o]++HL H)).Perm ([(m,di [Ad w By D (.int (-(i:Int)) t),Ad w Bt E (.ref (X.getD i hz.e).T)] 2),(P,tu [.int (-(i:Int)) t,.ref (X.getD i hz.e).T] 0)]++([(z,FA c e),(c,Da g h),(e,tu [.int (-(i:Int)) t,.ref (X.getD i hz.e).T] 0),(g,Fz (-((i+1:Nat):Int)) n),(h,liO l (i+1)),AJ l X o,(a,li (Au H) i)]++HL H)):=by
   exact AM [_] [_,_,_,_,_,_,_,_,_] [0,2,1,3,0,7,5,7,9,11,13,15,17,2] [0,2,1,5,0,7,7,9,11,13,15,17,3,2]
  have hl:(Au H).length≤1000:=by have:=C.len;simp[Au];(first|lia|omega)
  refine Bq (lM w f m a t D E i (X.getD i hz.e).T (-(i:Int)) (Au H)) (λ_:Value=>Flow.next) (Ai (Ai (Ai te3273448191207426121 f) m) a) [] R I uB (Az _ _ (Ah (λ_ _ _=>EB hl) Ay)) Ar (Q.sat.part _ pE) λK V ω s5 _ F _ _=> ?_;generalize K 0=T at F;have F:Ag (kt w) s4 s5 [(m,di [Ad w By D (.int (-(i:Int)) t),Ad w Bt E (.ref (X.getD i hz.e).T)] 2),(a,li (Au H) i)] [(m,di [Ad w By D (.int (-(i:Int)) t),Ad w Bt E (.ref (X.getD i hz.e).T)] 2),(a,li (Au H++[.ref T]) (i+1)),(T,tu [.ref (X.getD i hz.e).T,.int (-(i:Int)) t] 0)]:=F;have Y:=Q.trans (Ag.part _ Q.sat pE F);let u:HE:=⟨T,X.getD i hz.e,-(i:Int),t⟩
  have ac:O5 X (i+1) (H++[u]):=by
   refine⟨by simp[C.len],λj hj=> ?_⟩
   by_cases q:j<i
   ·have:(H++[u]).getD j hz=H.getD j hz:=by
     simp only[List.getD];rw[J2 (by rw[C.len];exact q)]
    rw[this];exact C.at' j q
   ·obtain rfl:i=j:=Jl (FG q) (Ei hj)
    have:(H++[u]).getD i hz=u:=by
     simp only[List.getD];rw[Nv (by rw[C.len];exact A8 _),C.len];(first|((repeat(first|exact .head _|apply List.mem_cons_of_mem));done)|simp)
    rw[this];exact⟨rfl,rfl⟩
  have gt:((H++[u]).getD i hz).t=t:=by
   simp only[List.getD];rw[Nv (by rw[C.len];exact A8 _),C.len];simp[u]
  have ad:H8 w.2 X (i+1) (H++[u]) (di [Ad w By D (.int (-(i:Int)) t),Ad w Bt E (.ref (X.getD i hz.e).T)] 2):=by
   have:=H8.b (P:=w.2) (X:=X) i (H++[u]) D E;rwa[gt]at this
  have e7:Au H++[.ref T]=Au (H++[u]):=by simp[Au,u]
  have e8:HL H++[(T,tu [.ref (X.getD i hz.e).T,.int (-(i:Int)) t] 0)]=HL (H++[u]):=by simp[HL,Bm,u]
  rw[e7]at Y;have ae:Ag (kt w) s s5 (I2 X m z c e g h l a o (n+1) i v y d H) (I2 X m z c e g h l a o n (i+1) (.int (-(i:Int)) t) (.ref (X.getD i hz.e).T) (di [Ad w By D (.int (-(i:Int)) t),Ad w Bt E (.ref (X.getD i hz.e).T)] 2) (H++[u])++[(P,tu [.int (-(i:Int)) t,.ref (X.getD i hz.e).T] 0)]):=by
   refine Y.permR ?_;unfold I2;rw[←e8];exact AM [_] [_,_,_,_,_,_,_,_,_,_] [0,3,1,3,5,0,7,7,9,11,13,15,17,19,2] [0,14,0,8,9,11,13,15,17,19,1,3,0,1,2,5,7]
  have Z:=ae.subs (EY _ _);refine B5 (ih (i+1) (by (first|lia|omega)) _ _ _ (H++[u]) ad ac s5 Z.sat) λr s6 hz=> ?_;obtain⟨L',ts,⟨h1,H2,oz,oT,og,oc,h2,ai,h3,h4⟩,aa,aj⟩:=hz;refine⟨L',[t]++ts,⟨h1,u::H2,oz,oT,og,oc,?_,?_,?_,?_⟩,Z.trans aa,?_⟩
  ·simpa using h2
  ·simpa using ai
  ·rw[h3];rfl
  ·simpa using h4
  ·exact(G.app (ys:=[]) (AC M.toks (AC W.toks F.toks))).app aj
noncomputable def Gu(P:Aj)(f k z l m e g i b s n:Nat)(X:List El):Ak:=
 {d:=500,u:=2800,h:=none,c:=.compStart Ww 0 (.ref z) (.ref b) (ML f k),idx:=[],pre:=[(z,FA l m),(l,Da e g),(m,tu [.none,.none] 0),(e,Fz (-((0:Nat):Int)) n),(g,liO i 0),AJ i X s,(k,di [] 0),(b,li [] 0)],na:=n,nt:=n,no:=5,r:=λ_ _=>.ok .next,
  outs:=λa t o=>[o.getD 0 default,Da e g,o.getD 1 default,o.getD 2 default,liO i n,li (Ax X) s,di [Aq P By (Ao o 3) (.int (-((n-1:Nat):Int)) (t.getD (n-1) 0)),Aq P Bt (Ao o 4) (.ref (X.getD (n-1) hz.e).T)] 2,li ((List.range n).map λj=>.ref (a.getD j 0)) n],
  news:=λa t _=>(List.range n).map λj=>Bm ⟨a.getD j 0,X.getD j hz.e,-(j:Int),t.getD j 0⟩}
theorem lT{X:List El}{n:Nat}{H:List HE}(h:O5 X n H):H=(List.range n).map λj=>⟨(H.map HE.A).getD j 0,X.getD j hz.e,-(j:Int),(H.map HE.t).getD j 0⟩:=by
 apply Ho
 ·simp[h.len]
 ·intro j a c
  have b:j<n:=h.len▸a;have q:=h.at' j b;rw[show H.getD j hz=H[j] by simp[List.getD,a]]at q;have e:H[j]=⟨H[j].A,H[j].e,H[j].o,H[j].t⟩:=rfl;rw[e,q.1,q.2];simp[a]
theorem H8.inv{P:Aj}{X:List El}{n:Nat}{H:List HE}{e:Obj}(g:H8 P X n H e)(h:0<n):B6 λc d=>e=di [Aq P By c (.int (-((n-1:Nat):Int)) (H.getD (n-1) hz).t),Aq P Bt d (.ref (X.getD (n-1) hz.e).T)] 2:=by
 cases g with
 |a=>exact absurd h (Iq 0)
 |b i _ c d=>exact⟨c,d,rfl⟩
theorem lU{w:Aa}{f k z g h d l m e u n:Nat}{X:List El}(v:0<n)(E:n≤X.length)(F:X.length≤900):Av w (Gu w.2 f k z g h d l m e u n X):=by
 refine Ba.ext λA G H I=>IA 3 (o:=Hb .none g h) (λs S=> ?_) (by simp[Gu]) (by kernel_rfl) (by kernel_rfl);have S:An (kt w) s (I2 X k z g h d l m e u n 0 .none .none (di [] 0) []):=S;refine B5 (lS I G H E F n 0 (by (first|lia|omega)) .none .none (di [] 0) [] (.a _) ⟨rfl,λj J=>absurd J (J7 j)⟩ s S) λr Z hz=> ?_;obtain⟨K,L,⟨M,b,N,O,P,oc,c,y,B,C⟩,Q,d⟩:=hz;rw[List.nil_append]at c C y;have i:=lT c;obtain⟨R,T,D⟩:=y.inv v;have U:n-1<b.length:=c.len.symm▸Nat.sub_lt v Nat.one_pos;rw[show(b.getD (n-1) hz).t=(b.map HE.t).getD (n-1) 0 by simp[List.getD,U]]at D;subst D;refine⟨K,L,⟨b.map HE.A,[N,O,P,Ac R,Ac T],by simp[Gu,c.len],by rw[B];simp[Gu,c.len],rfl,M,?_⟩,Q,d⟩;rw[C,B];have V:Au b=(List.range n).map λj=>.ref ((b.map HE.A).getD j 0):=by
  conv=>lhs;rw[i]
  unfold Au;rw[B0];rfl
 have W:HL b=BI (b.map HE.A) ((List.range n).map λj=>Bm ⟨(b.map HE.A).getD j 0,X.getD j hz.e,-(j:Int),(b.map HE.t).getD j 0⟩):=by
  have Y:b.map HE.A=(List.range n).map λj=>(b.map HE.A).getD j 0:=by
   conv=>lhs;rw[i]
   rw[B0];rfl
  conv=>rhs;arg 1;rw[Y]
  rw[Rj];conv=>lhs;rw[i]
  unfold HL;rw[B0];rfl
 rw[V,W];rfl
noncomputable def DJ(n p q:Nat)(X:List El)(a b:Nat→Nat):List HE:=(List.range n).map λj=>⟨a (p+j),X.getD j hz.e,-(j:Int),b (q+j)⟩
noncomputable def Fd(a:Nat)(b:List Value)(n:Nat)(i:Nat)(t:Nat)(v:Value):Ak:=IE (.call (.builtin Jz) ⟨[.ref a,.int i t],[]⟩) [(a,li b n)] v
theorem lV{e:Option Value}{w:Aa}{c:Code}{a:Ae}{v:Value}
  (h: ∀(A:Al) (s:Ab),A.depth≤900→A.units≤9000→An (kt w) s a→ ∀R:Result→Ab→Prop,(∀b,Ag (kt w) s b a a→R (.ok (.ret v)) b)→codeAny (model pw w) A c R s):Av w {IE c a v with h:=e}:=by
 intro A g i j s S _;refine h A s g i S _ λb d=>⟨[],[],[],rfl,rfl,rfl,rfl,?_,d.toks⟩
 refine (?_:Ag (kt w) s b a (Bk a (a.map (·.2))++BI [] []));rw[Ue];exact d
theorem Wx{hv:Option Value}{w:Aa}{a n i t:Nat}{b:List Value}{v:Value}(k:b[i]? =some v)(u:i<1000):Av w {Fd a b n i t v with h:=hv}:=by
 refine lV λA s y B S R l=> ?_;have g:=S.mem (a,li b n) (by (first|((repeat(first|exact .head _|apply List.mem_cons_of_mem));done)|simp));rw[BX]at g;refine (?_:codeAny _ _ (.call (.builtin Jz) _) _ s);rw[P5];have d:(0:Int)≤(i:Int):=Int.natCast_nonneg i;have m:(i:Int)<1000:=by (first|lia|omega)
 have e:(i:Int)<2^63:=Int.lt_trans m (by decide);have c:(⟨b⟩:Array Value)[(i:Int).toNat]? =some v:=by simpa using k
 clear m k u;revert d e c;generalize (i:Int)=z;intro d e c;refine DV slot_list_getitem.plain entry_list_getitem (slot_list_getitem.check _ _ _ _ _ _ _ _ ⟨_,g,rfl⟩ (args_list_getitem _ _) ?_);unfold Builtin.«list.__getitem__»;dsimp only;refine Af (GI (show selfAndOne "list.__getitem__" ⟨[.ref a,.int z t],[]⟩=pure (.ref a,.int z t)from rfl) ?_);dsimp only;refine Af (wpAny_listSubscript_int (fitsIndex_of d e) ?_);clear e;obtain⟨j,rfl⟩:=Int.eq_ofNat_of_zero_le d;have o:(⟨b⟩:Array Value)[j]? =some v:=c;dsimp only;refine Af ?_;refine (?_:wpAny _ _ (seqItemAt a j>>=λr=>pure (r.map (j,·))) _ _ s);refine Af (wpAny_seqItemAt g rfl (Ap ?_));rw[o]
 first
  |exact Af (Ap (Ap (l _ (.refl S))))
  |exact Ap (l _ (.refl S))
theorem FB{w:Aa}{a n i t:Nat}{b:List Value}{v:Value}(c:b[i]? =some v)(d:i<1000):Av w (Fd a b n i t v):=Wx (hv:=none) c d
noncomputable abbrev Gv:Stmt:=AF (AO BK) 0
noncomputable def trnFA(f c x:Nat):Sem AE:=assign (sT BK) (Cm f c) (.ref x)>>=λ_=>pure (.done .next)
noncomputable def trnFL(f c:Nat):Sem AE:=eval (A9 (Br (sT Gv)) 0) (Cm f c)>>=λv=>pure (.done (.ret v))
noncomputable def trnFR(f c:Nat):Sem AE:=eval (A9 (Br (sT Gv)) 1) (Cm f c)>>=λv=>pure (.done (.ret v))
noncomputable def trnFH(f c:Nat):Sem AE:=execs (AO Gv) (Cm f c)>>=λv=>pure (.done v)
lay_quick trnFA trnFL trnFR trnFH
noncomputable abbrev KR(P:Aj)(y b c d e a h:Nat):List DictEntry:=[Aq P Cj y (.int h b),Aq P DZ c (.ref e),Aq P D9 d (.ref a)]
noncomputable abbrev DK(P:Aj)(y b c d e a h g i j tp t:Nat)(o:Int):List DictEntry:=KR P y b c d e a h++[Aq P yU g (.ref tp),Aq P IC i (.int o t),Aq P xS j (.builtin Oi)]
noncomputable abbrev Cf(a:HE)(b:List HE)(c:Nat):=li (Au (a::b)) c
theorem lW(w:Aa)(f c l n g e o a k y r s t u h m:Nat)(x b:HE)(T i:List HE):
  AG w 74 (tw11464110794198561965 f c) ([(f,AQ w.2 l n g e o (KR w.2 y r s t u a h) 5),(a,Cf x T k),(b.A,Bm b)]) (dg 4 0x5a16affc54505) (AB [(0,[1]),(0,[1,2]),(0,[1])] ([λv j z=>OE a (Au (x::T)) k (m+1),λv j z=>Wp a k (x::T) (b::i) [(b.A,Bm b)],λv j z=>Fd a (Au (b::i)) k 0 (tk j 1) (.ref b.A)])) [] 490 2700 [0,1,2]
   (λA d B=>.done .next) (λA d B=>[(f,AQ w.2 l n g e o (DK w.2 y r s t u a h (d 3) (d 5) (d 6) b.e.T (d 4) (-(g:Int))) 8),(a,Cf b i k),(b.A,Bm b)]) 7:=by
 kernel_rfl
theorem lZ(w:Aa)(f c g j k e d a y l m n r s u tp t b h:Nat)(o:Int)(i:Nat):
  AG w 17 (tw7750963653130012630 f c) ([(f,AQ w.2 g j k e d (DK w.2 y l m n b a h r s u tp t o) 8),(b,liO d i)]) [1,2,2,1,2,2] [] [] 490 2700 [0,1]
   (λv z A=>.done (.ret (.ref b))) (λv z A=>[(f,AQ w.2 g j k e d (DK w.2 y l m n b a h r s u tp t o) 8),(b,liO d i)]) 0:=by
 kernel_rfl
theorem mA(w:Aa)(f c d e g b i a y j k l m n r tp t s h:Nat)(o:Int)(v:Nat):
  AG w 13 (tw1332294967873798157 f c v) ([(f,AQ w.2 d e g b i (DK w.2 y j k l s a h m n r tp t o) 8)]) [0,1,1] [] [] 520 3000 [0]
   (λz u A=>.done .next) (λz u A=>[(f,AQ w.2 d e g b i (DK w.2 y j k l s a h m n r tp t o++[Ad w Bt (u 0) (.ref v)]) 9)]) 1:=by
 kernel_rfl
theorem Wy(w:Aa)(f c d e g b i a y j k l n r s tp t u h:Nat)(o:Int)(v z m:Nat)(A:Value)(x:List DictEntry):
  AG w 13 (tw1332294967873798157 f c v) ([(f,AQ w.2 d e g b i (DK w.2 y j k l u a h n r s tp t o++Ad w Bt z A::x) m)]) [0,1,1] [] [] 520 3000 [0]
   (λB C D=>.done .next) (λB C D=>[(f,AQ w.2 d e g b i (DK w.2 y j k l u a h n r s tp t o++Ad w Bt z (.ref v)::x) m)]) 1:=by
 kernel_rfl
theorem mB(w:Aa)(f c d e g b i a y j k l n r s tp t u h:Nat)(o:Int)(m:Nat)(x:List DictEntry):
  AG w 8 (tw12783120001347113662 f c) ([(f,AQ w.2 d e g b i (DK w.2 y j k l u a h n r s tp t o++x) m)]) [1] [] [] 520 3000 [0]
   (λv z A=>.done (.ret (.ref tp))) (λv z A=>[(f,AQ w.2 d e g b i (DK w.2 y j k l u a h n r s tp t o++x) m)]) 0:=by
 kernel_rfl
theorem mC(w:Aa)(f c d e g b i a y j k l n r s tp t u h:Nat)(o:Int)(m z v:Nat)(x:List DictEntry):
  AG w 8 (tw1621527730693163039 f c) ([(f,AQ w.2 d e g b i (DK w.2 y j k l u a h n r s tp t o++Ad w Bt z (.ref v)::x) m)]) [1] [] [] 520 3000 [0]
   (λA B C=>.done (.ret (.ref v))) (λA B C=>[(f,AQ w.2 d e g b i (DK w.2 y j k l u a h n r s tp t o++Ad w Bt z (.ref v)::x) m)]) 0:=by
 kernel_rfl
noncomputable abbrev Wz(a b:Nat)(c:List HE)(d:El)(e:Int)(f:Nat)(g:Nat→List HE)(h:HE):=(AB [(0,[1,2]),(1,[1])] ([λi j k=>Rv a b c (⟨tk i 0,d,e,f⟩::g (tk i 0)) h ⟨tk i 0,d,e,f⟩ [(tk i 0,Bm ⟨tk i 0,d,e,f⟩)],λi j k=>Fd a (Au (⟨tk i 0,d,e,f⟩::g (tk i 0))) b 0 (tk j 0) (.ref (⟨tk i 0,d,e,f⟩:HE).A)]))
theorem mD(w:Aa)(f c g i j d l a y m n r s u z tp t A h:Nat)(o:Int)(k B E:Nat)(F:Value)(v:El)(x:HE)(T:List HE)(C:Nat→List HE):
  AG w 107 (tw10658043212670528822 f c) ([(f,AQ w.2 g i j d l (DK w.2 y m n r A a h s u z tp t o++[Ad w Bt B (.ref v.T)]) 9),(a,Cf x T k)]) (dg 7 0x2917278fc441f2d4e4d10856cac0db9a3) (Wz a k T v o t C x) [] 520 3000 [0,1,2]
   (λb e D=>.done .next) (λb e D=>[(f,AQ w.2 g i j d l (DK w.2 y m n r A a h s u z v.T (e 4) (o-1)++[Ad w Bt B (.ref v.T),Ad w EP (e 2) (.int o t)]) 10),(a,li (Au (⟨b 0,v,o,t⟩::C (b 0))) k),(b 0,Bm ⟨b 0,v,o,t⟩)]) 6:=by
 kernel_rfl
noncomputable abbrev WA(a b:Nat)(c:List HE)(d:HE)(e:Nat→List HE)(f:HE)(g:El)(h:Int)(i:Nat):=(AB [(0,[1,3,2]),(1,[1])] ([λj k l=>Rv a b c (d::e (tk j 0)) f ⟨tk j 0,g,h,i⟩ [(tk j 0,Bm ⟨tk j 0,g,h,i⟩),(d.A,Bm d)],λj k l=>Fd a (Au (d::e (tk j 0))) b 0 (tk k 0) (.ref (d:HE).A)]))
theorem mE(w:Aa)(f c i j l e m a y n r s u z A tp t B h:Nat)(o:Int)(k C F:Nat)(G:Value)(v:El)(x:HE)(b:HE)(T:List HE)(D:Nat→List HE):
  AG w 107 (tw10658043212670528822 f c) ([(f,AQ w.2 i j l e m (DK w.2 y n r s B a h u z A tp t o++[Ad w Bt C (.ref v.T)]) 9),(a,Cf x T k),(b.A,Bm b)]) (dg 8 0x4924a49b65db6d76db6bb6db5dbc1209209) (WA a k T b D x v o t) [] 520 3000 [0,1,2,3]
   (λd g E=>.done .next) (λd g E=>[(f,AQ w.2 i j l e m (DK w.2 y n r s B a h u z A b.e.T (g 4) (o-1)++[Ad w Bt C (.ref v.T),Ad w EP (g 2) (.int b.o b.t)]) 10),(a,li (Au (b::D (d 0))) k),(b.A,Bm b),(d 0,Bm ⟨d 0,v,o,t⟩)]) 6:=by
 kernel_rfl
theorem mF(w:Aa)(f c e g i d j a y l m n r s u tp t z h:Nat)(o:Int)(k A B:Nat)(E:Value)(v:El)(x:HE)(T:List HE)(C:Nat→List HE):
  AG w 107 (tw10658043212670528822 f c) ([(f,AQ w.2 e g i d j (DK w.2 y l m n z a h r s u tp t o++[Ad w Bt A (.ref v.T),Ad w EP B E]) 10),(a,Cf x T k)]) (dg 7 0x2917278fc441f2d4e4d10856cac0db9a3) (Wz a k T v o t C x) [] 520 3000 [0,1,2]
   (λb D F=>.done .next) (λb D F=>[(f,AQ w.2 e g i d j (DK w.2 y l m n z a h r s u v.T (D 4) (o-1)++[Ad w Bt A (.ref v.T),Ad w EP B (.int o t)]) 10),(a,li (Au (⟨b 0,v,o,t⟩::C (b 0))) k),(b 0,Bm ⟨b 0,v,o,t⟩)]) 6:=by
 kernel_rfl
theorem mG(w:Aa)(f c g i j e l a y m n r s u z tp t A h:Nat)(o:Int)(k B C:Nat)(F:Value)(v:El)(x:HE)(b:HE)(T:List HE)(D:Nat→List HE):
  AG w 107 (tw10658043212670528822 f c) ([(f,AQ w.2 g i j e l (DK w.2 y m n r A a h s u z tp t o++[Ad w Bt B (.ref v.T),Ad w EP C F]) 10),(a,Cf x T k),(b.A,Bm b)]) (dg 8 0x4924a49b65db6d76db6bb6db5dbc1209209) (WA a k T b D x v o t) [] 520 3000 [0,1,2,3]
   (λd E G=>.done .next) (λd E G=>[(f,AQ w.2 g i j e l (DK w.2 y m n r A a h s u z b.e.T (E 4) (o-1)++[Ad w Bt B (.ref v.T),Ad w EP C (.int b.o b.t)]) 10),(a,li (Au (b::D (d 0))) k),(b.A,Bm b),(d 0,Bm ⟨d 0,v,o,t⟩)]) 6:=by
 kernel_rfl
theorem mH(w:Aa)(f c:Nat):
  AD w 6 (.block [] (Cm f c)) ([]) [] [] [] 0 520 3000 []
   (λa b d=>.done .next) (λa b d=>[]) 0:=by
 kernel_rfl
theorem RC{a:HE→HE}(b:a hz=hz)(H:List HE)(i j:Nat):CN (H.map a) i j=(CN H i j).map a:=by
 have e: ∀i,(H.map a).getD i hz=a (H.getD i hz):=λi=>by
  simp only[List.getD,Jh];cases H[i]? with
  |none=>exact b.symm
  |some x=>rfl
 unfold CN;rw[e,e,List.map_set,List.map_set]
theorem Sft.map{g:HE→Nat}{b:HE→HE}(n: ∀h,g (b h)=g h)(c:b hz=hz){H j:List HE}{k:Bool}{d top m:Nat}(z:Sft g H k d top m j):Sft g (H.map b) k d top m (j.map b):=by
 have e: ∀(H:List HE) i,g ((H.map b).getD i hz)=g (H.getD i hz):=λH i=>by
  have:(H.map b).getD i hz=b (H.getD i hz):=by
   simp only[List.getD,Jh];cases H[i]? with
   |none=>exact c.symm
   |some x=>rfl
  rw[this,n]
 induction z with
 |two h x a=>refine .two (by simpa using h) ?_;rw[RC c];simpa only[e]using a
 |one h x a=>refine .one (by simpa using h) ?_;rw[RC c];exact a
 |leaf h x a=>exact .leaf (by simpa using h) a
 |up h l x a=>refine .up h (by simpa only[e]using l) ?_;rw[RC c];exact a
 |stop h=>exact .stop (by simpa only[e]using h)
 |next h x a=>exact .next (by simpa only[e]using h) a
theorem Ee.ne{Y:List El}{c:El→Nat}(K:Ee Y c){x y:El}(d:x∈Y)(e:y∈Y)(h:x≠y):c x≠c y:=
 O2 (R:=λa b=>c a≠c b) (λh=>Ne.symm h) (K.down.imp λh=>Ne.symm (CS h)) d e h
noncomputable abbrev gH(a:El→Nat):HE→Nat:=λh=>a h.e
structure Dq(φ:El→Nat)(X:List El)(i:Nat)(H:List HE):Prop where
 sub: ∀h∈H,h.e∈X.take i
 out: ∀u∈X.take i,(∀h∈H,h.e≠u)→ ∀h∈H,φ u<φ h.e
 nd:(H.map HE.e).Nodup
theorem Dq.perm{b:El→Nat}{X:List El}{i:Nat}{H c:List HE}(h:Dq b X i H)(p:c.Perm H):Dq b X i c:=
 ⟨λx a=>h.sub x (p.mem_iff.mp a),λu d e x a=>h.out u d (λy g=>e y (p.mem_iff.mpr g)) x (p.mem_iff.mp a),(p.map _).nodup_iff.mpr h.nd⟩
theorem Dq.ne{c:El→Nat}{X:List El}{i:Nat}{H:List HE}(h:Dq c X i H){x y:HE}(d:x∈H)(g:y∈H)(e:x≠y):x.e≠y.e:=by
 have:=h.nd;rw[GC,GE]at this;exact O2 (R:=λa b:HE=>a.e≠b.e) (λh=>Ne.symm h) this d g e
theorem Dq.hfact{d:El→Nat}{X Y:List El}{i:Nat}{H:List HE}{F:Ae}(h:Dq d X i H)(j:X.Perm Y)(K:Ee Y d)(k: ∀x∈Y,∀y∈Y,x≠y→x.T≠y.T)(l: ∀x∈H,(x.A,Bm x)∈F)(m: ∀e∈Y,(e.T,BO e)∈F):EV F H (gH d):=by
 have a: ∀x∈H,x.e∈Y:=λx b=>j.mem_iff.mp (Hm (h.sub x b));refine⟨l,λx b=>m _ (a x b),λx b y c e=> ?_,?_⟩
 ·have g:=h.ne b c e
  exact⟨K.apart (a x b) (a y c) g,k _ (a x b) _ (a y c) g,K.gt _ (a x b) _ (a y c) (K.ne (a x b) (a y c) g)⟩
 ·have:=h.nd
  rw[GC,GE]at this;rw[GC];exact this.imp λh e=>h (by rw[e])
theorem MM{X:List El}{i:Nat}(a:i<X.length){u:El}:u∈X.take (i+1)↔u∈X.take i∨u=X[i]:=by
 rw[Jg,Eu a,List.mem_append];exact or_congr Iff.rfl Io
theorem Dq.miss{b:El→Nat}{X:List El}{i:Nat}{a:HE}{T:List HE}(h:Dq b X i (a::T))(g:i<X.length)(l:DQ (BA (gH b) (a::T)) (a::T).length 0)(m:b X[i]<b a.e):Dq b X (i+1) (a::T):=by
 refine⟨λx c=>(MM g).mpr (.inl (h.sub x c)),λu d n x c=> ?_,h.nd⟩;rcases(MM g).mp d with d|rfl
 ·exact h.out u d n x c
 ·obtain⟨j,k,e⟩:=Ga c
  have:=Wf l j k;have o:BA (gH b) (a::T) j=b x.e:=by refine (?_:b ((a::T).getD j hz).e=_);rw[show(a::T).getD j hz=(a::T)[j] by simp only[List.getD,Eu k];rfl,e]
  rw[o]at this;exact Eh m this
theorem Dq.hit{c:El→Nat}{X Y:List El}{i:Nat}{b y:HE}{T:List HE}(h:Dq c X i (b::T))(r:X.Perm Y)(K:Ee Y c)(k:i<X.length)(s:X.Nodup)(B:DQ (BA (gH c) (b::T)) (b::T).length 0)(d:y.e=X[i])(t:c b.e<c X[i]):Dq c X (i+1) (y::T):=by
 have fresh:X[i] ∉ X.take i:=λm=>by
  obtain⟨j,l,e⟩:=Ga m;have E:j<i:=by simp at l;(first|lia|omega)
  rw[Ll]at e;have:=(Lp (h₀:=by (first|lia|omega)) (h₁:=k) s).mp e;(first|lia|omega)
 have v: ∀x∈T,c b.e<c x.e:=λx a=>by
  obtain⟨j,l,e⟩:=Ga (BB b a);have:=Wf B j l;have C:BA (gH c) (b::T) j=c x.e:=by refine (?_:c ((b::T).getD j hz).e=_);rw[show(b::T).getD j hz=(b::T)[j] by simp only[List.getD,Eu l];rfl,e]
  rw[C]at this;have g:=h.nd;rw[Ej,Lq]at g;have D:b.e≠x.e:=λe=>g.1 (e▸B7 a);have:=K.ne (r.mem_iff.mp (Hm (h.sub b Bj))) (r.mem_iff.mp (Hm (h.sub x (BB _ a)))) D;have F:c b.e≤c x.e:=by assumption
  (first|lia|omega)
 refine⟨λx a=> ?_,λu n w x a=> ?_,?_⟩
 ·rcases List.mem_cons.mp a with rfl|a
  ·exact(MM k).mpr (.inr d)
  ·exact(MM k).mpr (.inl (h.sub x (BB _ a)))
 ·have A:u∈X.take i:=by
   rcases(MM k).mp n with n|e
   ·exact n
   ·exact absurd (d.trans e.symm) (w y Bj)
  by_cases q:u=b.e
  ·subst q
   rcases List.mem_cons.mp a with rfl|a
   ·rw[d];exact t
   ·exact v x a
  ·have o:=h.out u A λz hz=>by
    rcases List.mem_cons.mp hz with rfl|hz
    ·exact λe=>q e.symm
    ·exact w z (BB _ hz)
   rcases List.mem_cons.mp a with rfl|a
   ·rw[d];exact DC (o b Bj) t
   ·exact o x (BB _ a)
 ·have g:=h.nd
  rw[Ej,Lq]at g⊢;refine⟨λm=> ?_,g.2⟩;obtain⟨x,a,e⟩:=List.mem_map.mp m;exact fresh (d▸e▸h.sub x (BB _ a))
theorem Dq.best{d:El→Nat}{X Y:List El}{S:List HE}(h:Dq d X X.length S)(l:X.Perm Y)(K:Ee Y d)(o:S.Pairwise λa b=>gH d b<gH d a):S.map HE.e=Y.take S.length:=by
 classical
 have m:Y.Nodup:=K.down.imp λh e=>by rw[e]at h;exact Iq _ h
 let R:=Y.filter λu=>decide (u ∉ S.map HE.e);have n: ∀u∈S.map HE.e,u∈Y:=λu c=>by
  obtain⟨x,i,rfl⟩:=List.mem_map.mp c;exact l.mem_iff.mp (Hm (h.sub x i))
 have r:(S.map HE.e++R).Perm Y:=by
  refine(Nu ?_ m).mpr λu=> ?_
  ·rw[Fm]
   refine⟨h.nd,m.filter _,λa j b k e=> ?_⟩;subst e;have:=(List.mem_filter.mp k).2;exact(of_decide_eq_true this) j
  ·rw[List.mem_append,List.mem_filter]
   constructor
   ·rintro(c|c)
    ·exact n u c
    ·exact c.1
   ·intro c
    by_cases q:u∈S.map HE.e
    ·exact .inl q
    ·exact .inr ⟨c,by simpa using q⟩
 have s:(S.map HE.e++R).Pairwise λa b=>d b<d a:=by
  rw[List.pairwise_append];refine⟨List.pairwise_map.mpr o,K.down.filter _,λa j b k=> ?_⟩;obtain⟨x,i,rfl⟩:=List.mem_map.mp j;have g:=List.mem_filter.mp k;have t:b ∉ S.map HE.e:=of_decide_eq_true g.2;refine h.out b ?_ (λz hz e=>t (e▸B7 hz)) x i;rw[NA (A8 _)];exact l.mem_iff.mpr g.1
 have v:S.map HE.e++R=Y:=r.eq_of_pairwise (λa b _ _ w y=>absurd w (Nat.lt_asymm y)) s K.down;rw[←v,show S.length=(S.map HE.e).length by (first|((repeat(first|exact .head _|apply List.mem_cons_of_mem));done)|simp),List.take_left]
section
theorem mI:sT BK= .Name (PD (sT BK)) (gP (sT BK)):=by kernel_rfl
theorem mJ:Dv BK=[]:=by kernel_rfl
theorem mK:AO BK=[Gv]:=by kernel_rfl
theorem mL:Gv= .If (.Compare (A9 (Br (sT Gv)) 0) [.Lt] [A9 (Br (sT Gv)) 1] (gP (sT Gv))) (AO Gv) [] (sP Gv):=by kernel_rfl
theorem mM{w:Aa}{B:Al}{s:Ab}{i:Stmt}{l r:Expr}{m p:Pos}{e:List Stmt}{d:Env}{v1 v2:Value}{b:Bool}{I:Ab→Prop}(j:i= .If (.Compare l [.Lt] [r] m) e [] p)(n:markedBehindIn .Lt r (eval r d)=eval r d)
  (o: ∀s Q E,I s→(∀g,I g→Q v1 g)→wpAny (model pw w) B (eval l d) Q E s)
  (t: ∀s Q E,I s→(∀g,I g→Q v2 g)→wpAny (model pw w) B (eval r d) Q E s)
  (u: ∀s,I s→CI .Lt B s v1 v2 b) {Q:Flow→Ab→Prop} {E:Value→Ab→Prop}
  (v: ∀s,I s→if b=true then wpAny (model pw w) B (execs e d) Q E s else Q .next s) (z:I s):wpAny (model pw w) B (exec i d) Q E s:=by
 rw[j,exec_If];refine Af (Du ?_);rw[isTrue_Compare1];refine Af (Af (o s _ _ z λs2 C=> ?_));refine Af (Dl ?_);rw[n];refine t s2 _ _ C λs3 k=> ?_;refine Af (Du ?_);refine Af ?_;refine (?_:wpAny _ _ (holding [v1,v2] (compareOp .Lt v1 v2)>>=λr=>release [v1,v2] [r]>>=λ_=>pure r) _ _ _);refine Af (Dl (u s3 k pw w _ _ ?_));refine Af (wpAny_release (Ap ?_));refine (?_:wpAny _ _ (holding [.bool b] (truthy (.bool b))) _ _ _);refine Dl (wpAny_truthy_bool ?_);have:=v s3 k;cases b with
 |true=>simpa using this
 |false=>
  simp only[CR,if_false]at this⊢;exact Ap this
inductive JQ (P:Aj):Nat→List DictEntry→Prop
 |a:JQ P 8 []
 |b (y8:Nat) (v8:Value):JQ P 9 [Aq P Bt y8 v8]
 |c (y8:Nat) (v8:Value) (y9:Nat) (v9:Value):JQ P 10 [Aq P Bt y8 v8,Aq P EP y9 v9]
noncomputable abbrev mN(f c it:Nat):Code:=.forLoop (sT BK) (.ref it) (AO BK) (Dv BK) (Cm f c)
noncomputable abbrev BP(P:Aj)(e0 e1 nw tk0 rs a y y2 y3 y4 y5 y6 y7 it h tp t:Nat)(o:Int)(x:List DictEntry)(m:Nat):Obj:=AQ P e0 e1 nw tk0 rs (DK P y y2 y3 y4 it a h y5 y6 y7 tp t o++x) m
theorem O6{H:List HE}{x:HE}(h:x∈H):(x.A,Bm x)∈HL H:=B7 h
section
variable {w:Aa}{A:Al}{f c e0 e1 nw tk0 rs a y y2 y3 y4 y5 y6 y7 it h nr kk:Nat}{X Y:List El}{φ:El→Nat}
theorem mP{g:HE→Nat}{b:HE→HE}(e: ∀h,g (b h)=g h)(d:b hz=hz)(H:List HE):BA g (H.map b)=BA g H:=by
 funext i;refine (?_:g ((H.map b).getD i hz)=g (H.getD i hz));have:(H.map b).getD i hz=b (H.getD i hz):=by
  simp only[List.getD,Jh];cases H[i]? with
  |none=>exact d.symm
  |some x=>rfl
 rw[this,e]
theorem mQ(v:X.Perm Y)(K:Ee Y φ)(G:X.Nodup){i:Nat}(B:i<X.length){t:Nat}{o:Int}{g:HE}{T:List HE}(H:DQ (BA (gH φ) (g::T)) (g::T).length 0)(r:Dq φ X i (g::T))(N:φ g.e<φ X[i]):
  ∃(k:Nat→List HE),(∀A,Sft (gH φ) (⟨A,X[i],o,t⟩::T) true 0 0 0 (⟨A,X[i],o,t⟩::k A)∧(⟨A,X[i],o,t⟩::k A).Perm (⟨A,X[i],o,t⟩::T)∧DQ (BA (gH φ) (⟨A,X[i],o,t⟩::k A)) (⟨A,X[i],o,t⟩::k A).length 0)∨
   ∃b∈T,∀A,Sft (gH φ) (⟨A,X[i],o,t⟩::T) true 0 0 0 (b::k A)∧(b::k A).Perm (⟨A,X[i],o,t⟩::T)∧DQ (BA (gH φ) (b::k A)) (b::k A).length 0:=by
 classical
 have I:X[i]∈Y:=v.mem_iff.mp (Db B);have J: ∀x∈g::T,x.e∈Y:=λx m=>v.mem_iff.mp (Hm (r.sub x m));have C: ∀x∈g::T,x.e≠X[i]:=λx m e=>by
  obtain⟨j,L,D⟩:=Ga (r.sub x m);rw[Ll]at D;have O:j<i:=by simp at L;(first|lia|omega)
  have:=(Lp (h₀:=by (first|lia|omega)) (h₁:=B) G).mp (D.trans e);(first|lia|omega)
 have E:(hz:HE).e≠X[i]:=λe=>by
  have:=(K.apart (J g Bj) I (C g Bj)).y0;rw[←e]at this;exact this rfl
 let l:Nat→HE:=λA=>⟨A,X[i],o,t⟩
 let d:Nat→HE→HE:=λA h=>if h.e=X[i]then l A else h
 have F: ∀A h,gH φ (d A h)=gH φ h:=λA h=>by
  refine (?_:φ (if h.e=X[i]then l A else h).e=φ h.e)
  split
  ·rename_i e;rw[e]
  ·rfl
 have s: ∀A,d A hz=hz:=λA=>AI E;have e1: ∀A,(l 0::T).map (d A)=l A::T:=λA=>by
  rw[Ej];congr 1
  ·exact AS rfl
  ·conv=>rhs;rw[←List.map_id T]
   exact DW λx m=>AI (C x (BB _ m))
 obtain⟨n,z,p,q⟩:=hW (gH φ) g (l 0) T H;have u: ∀A,Sft (gH φ) (l A::T) true 0 0 0 (n.map (d A))∧(n.map (d A)).Perm (l A::T)∧DQ (BA (gH φ) (n.map (d A))) (n.map (d A)).length 0:=λA=>by
  refine⟨e1 A▸z.map (F A) (s A),e1 A▸p.map (d A),?_⟩;rw[mP (F A) (s A),BZ];exact q
 cases n with
 |nil=>exact absurd p.length_eq (by (first|((repeat(first|exact .head _|apply List.mem_cons_of_mem));done)|simp))
 |cons b M=>
  refine⟨λA=>M.map (d A),?_⟩
  by_cases e:b.e=X[i]
  ·refine .inl λA=> ?_
   have:=u A;rw[Ej,show d A b=l A from AS e]at this;exact this
  ·refine .inr ⟨b,?_,λA=> ?_⟩
   ·rcases List.mem_cons.mp (p.mem_iff.mp Bj)with rfl|h
    ·exact absurd rfl e
    ·exact h
   ·have:=u A
    rw[Ej,show d A b=b from AI e]at this;exact this
theorem mR{B:Al}(j:B.handled=none)(k:B.depth≤520)(uB:B.units≤3000){p t v m:Nat}{o:Int}{x:List DictEntry}{R:Ae}(H:JQ w.2 m x){s:Ab}(S:An (kt w) s ([(f,BP w.2 e0 e1 nw tk0 rs a y y2 y3 y4 y5 y6 y7 it h p t o x m)]++R)){Q:Unit→Ab→Prop}{E:Value→Ab→Prop}
  (l: ∀C e n r,((r=9∧n=[])∨(r=10∧B6 λg i=>n=[Ad w EP g i]))→Ag (kt w) s C ([(f,BP w.2 e0 e1 nw tk0 rs a y y2 y3 y4 y5 y6 y7 it h p t o x m)]++R) ([(f,BP w.2 e0 e1 nw tk0 rs a y y2 y3 y4 y5 y6 y7 it h p t o (Ad w Bt e (.ref v)::n) r)]++R)→Q () C):wpAny (model pw w) B (assign (sT BK) (Cm f c) (.ref v)) Q E s:=by
 have u:=S.part R (La:=[(f,BP w.2 e0 e1 nw tk0 rs a y y2 y3 y4 y5 y6 y7 it h p t o x m)]) (AX _);cases H with
 |a=>exact Bq (mA w f c e0 e1 nw tk0 rs a y y2 y3 y4 y5 y6 y7 p t it h o v) (λ_:Unit=>Flow.next) (Ai (Ai (Ai te1332294967873798157 f) c) v) [] j k uB AR Ar u λD F G s1 _ d _ _=>l s1 _ [] 9 (.inl ⟨rfl,rfl⟩) (Ag.part R S (La:=[(f,BP w.2 e0 e1 nw tk0 rs a y y2 y3 y4 y5 y6 y7 it h p t o _ _)]) (AX _) d)
 |b e z=>exact Bq (Wy w f c e0 e1 nw tk0 rs a y y2 y3 y4 y5 y6 y7 p t it h o v e 9 z []) (λ_:Unit=>Flow.next) (Ai (Ai (Ai te1332294967873798157 f) c) v) [] j k uB AR Ar u λD F G s1 _ d _ _=>l s1 _ [] 9 (.inl ⟨rfl,rfl⟩) (Ag.part R S (La:=[(f,BP w.2 e0 e1 nw tk0 rs a y y2 y3 y4 y5 y6 y7 it h p t o _ _)]) (AX _) d)
 |c e z g i=>exact Bq (Wy w f c e0 e1 nw tk0 rs a y y2 y3 y4 y5 y6 y7 p t it h o v e 10 z [Ad w EP g i]) (λ_:Unit=>Flow.next) (Ai (Ai (Ai te1332294967873798157 f) c) v) [] j k uB AR Ar u λD F G s1 _ d _ _=>l s1 _ _ 10 (.inr ⟨rfl,g,i,rfl⟩) (Ag.part R S (La:=[(f,BP w.2 e0 e1 nw tk0 rs a y y2 y3 y4 y5 y6 y7 it h p t o _ _)]) (AX _) d)
theorem mT{B:Al}(Z:B.handled=none)(dB:B.depth≤520)(uB:B.units≤3000)(hp:X.Perm Y)(K:Ee Y φ)(hT: ∀x∈Y,∀y∈Y,x≠y→x.T≠y.T)(hX:X.Nodup){i:Nat}(hi:i<X.length)(hx:X.length≤900)
  {t:Nat} {o:Int} {m:Nat} {x:List DictEntry} {k:HE} {T:List HE} (hf:JQ w.2 m x) (hq:DQ (BA (gH φ) (k::T)) (k::T).length 0) (U:Dq φ X i (k::T)) (aq:T.length≤900)
  {s:Ab} (S:An (kt w) s ([(f,BP w.2 e0 e1 nw tk0 rs a y y2 y3 y4 y5 y6 y7 it h k.e.T t o x m),(a,Cf k T kk)]++HL (k::T)++EL Y)) {Q:Flow→Ab→Prop} {E:Value→Ab→Prop}
  (hR: ∀s' t' o' m' x' d D,JQ w.2 m' x'→DQ (BA (gH φ) (d::D)) (d::D).length 0→Dq φ X (i+1) (d::D)→D.length=T.length→
   Ag (kt w) s s' ([(f,BP w.2 e0 e1 nw tk0 rs a y y2 y3 y4 y5 y6 y7 it h k.e.T t o x m),(a,Cf k T kk)]++HL (k::T)++EL Y) ([(f,BP w.2 e0 e1 nw tk0 rs a y y2 y3 y4 y5 y6 y7 it h d.e.T t' o' x' m'),(a,Cf d D kk)]++HL (d::D)++EL Y)→Q .next s'):
  wpAny (model pw w) B (assign (sT BK) (Cm f c) (.ref X[i].T)>>=λ_=>execs (AO BK) (Cm f c)) Q E s:=by
 have vY:X[i]∈Y:=hp.mem_iff.mp (Db hi);have V:k.e∈Y:=hp.mem_iff.mp (Hm (U.sub k Bj));have vx: ∀x∈k::T,x.e≠X[i]:=λx hx e=>by
  obtain⟨j,hj,e2⟩:=Ga (U.sub x hx);rw[Ll]at e2;have ar:j<i:=by simp at hj;(first|lia|omega)
  have:=(Lp (h₀:=by (first|lia|omega)) (h₁:=hi) hX).mp (e2.trans e);(first|lia|omega)
 have ae:=vx k Bj;refine Af (mR Z dB uB hf (R:=[(a,Cf k T kk)]++HL (k::T)++EL Y) S λs1 r xr m1 ai ao=> ?_);rw[mK];refine (?_:wpAny _ _ (exec Gv (Cm f c)>>=_) _ _ _);refine Af ?_;have aj: ∀{e:El},e∈Y→ ∀L:Ae,(e.T,BO e)∈L++EL Y:=λhe L=>BG _ (HZ he);refine mM (v1:=.ref k.e.T) (v2:=.ref X[i].T) (b:=decide (φ k.e<φ X[i])) (I:=λs'=>Ag (kt w) s s' ([(f,BP w.2 e0 e1 nw tk0 rs a y y2 y3 y4 y5 y6 y7 it h k.e.T t o x m),(a,Cf k T kk)]++HL (k::T)++EL Y) ([(f,BP w.2 e0 e1 nw tk0 rs a y y2 y3 y4 y5 y6 y7 it h k.e.T t o (Ad w Bt r (.ref X[i].T)::xr) m1),(a,Cf k T kk)]++HL (k::T)++EL Y)) mL (by rfl) (λs2 Q E l hQ=> ?_) (λs2 Q E l hQ=> ?_) (λs2 l=> ?_) (λs2 l=> ?_) ao
 ·refine Bq (mB w f c e0 e1 nw tk0 rs a y y2 y3 y4 y5 y6 y7 k.e.T t it h o m1 _) Flow.ret (Ai (Ai te12783120001347113662 f) c) [] Z dB uB AR Ar (l.sat.part ([(a,Cf k T kk)]++HL (k::T)++EL Y) (AX _)) λn G ω s3 v u _ hv=> ?_
  obtain rfl:v= .ref k.e.T:=CZ hv;exact hQ s3 (l.trans (Ag.part ([(a,Cf k T kk)]++HL (k::T)++EL Y) l.sat (La:=[(f,BP w.2 e0 e1 nw tk0 rs a y y2 y3 y4 y5 y6 y7 it h k.e.T t o _ _)]) (AX _) u))
 ·refine Bq (mC w f c e0 e1 nw tk0 rs a y y2 y3 y4 y5 y6 y7 k.e.T t it h o m1 r X[i].T xr) Flow.ret (Ai (Ai te1621527730693163039 f) c) [] Z dB uB AR Ar (l.sat.part ([(a,Cf k T kk)]++HL (k::T)++EL Y) (AX _)) λn G ω s3 v u _ hv=> ?_
  obtain rfl:v= .ref X[i].T:=CZ hv;exact hQ s3 (l.trans (Ag.part ([(a,Cf k T kk)]++HL (k::T)++EL Y) l.sat (La:=[(f,BP w.2 e0 e1 nw tk0 rs a y y2 y3 y4 y5 y6 y7 it h k.e.T t o _ _)]) (AX _) u))
 ·have ap:=K.apart V vY ae
  have:=CI.tuple_lt (A:=B) (CQ uB (by decide)) (l.sat.mem _ (aj V _)) (l.sat.mem _ (aj vY _)) (Rm (Mu l.sat) ap);rwa[K.gt _ V _ vY (K.ne V vY ae)]at this
 ·by_cases aa:φ k.e<φ X[i]
  ·rw[AS (by simpa using aa)]
   classical
   obtain⟨D,H⟩:=mQ (t:=t) (o:=o) hp K hX hi hq U aa;have hn: ∀A:Nat,Dq φ X (i+1) (⟨A,X[i],o,t⟩::T):=λA=>U.hit hp K hi hX hq rfl aa;rcases H with H|⟨d,ak,H⟩
   ·have al: ∀A:Nat,EV ([(A,Bm ⟨A,X[i],o,t⟩)]++(HL (k::T)++EL Y)) (⟨A,X[i],o,t⟩::T) (gH φ):=λA=>(hn A).hfact hp K hT (λz hz=>by
      rcases List.mem_cons.mp hz with rfl|hz
      ·exact Bj
      ·exact BG _ (Dk _ (O6 (BB _ hz)))) λe he=>BG _ (BG _ (HZ he))
    have ac: ∀{s3:Ab} {L0:Ae} {o1 o2 o3:Obj} {A:Nat} {C:List HE},Ag (kt w) s s2 L0 ([(f,o1),(a,o2)]++HL (k::T)++EL Y)→Ag (kt w) s2 s3 ([(f,o1),(a,o2)]++(HL (k::T)++EL Y)) ([(f,o3),(a,li (Au (⟨A,X[i],o,t⟩::C)) kk),(A,Bm ⟨A,X[i],o,t⟩)]++(HL (k::T)++EL Y))→(⟨A,X[i],o,t⟩::C).Perm (⟨A,X[i],o,t⟩::T)→
      Ag (kt w) s s3 L0 ([(f,o3),(a,li (Au (⟨A,X[i],o,t⟩::C)) kk)]++HL (⟨A,X[i],o,t⟩::C)++EL Y):=λ {s3 L0 o1 o2 o3 A C} s1 s2 p=>by
     have pm:(HL (⟨A,X[i],o,t⟩::C)).Perm ((A,Bm ⟨A,X[i],o,t⟩)::HL T):=p.map _;have l:=s1.trans s2;refine(l.permR (L'':=([(f,o3),(a,li (Au (⟨A,X[i],o,t⟩::C)) kk)]++HL (⟨A,X[i],o,t⟩::C)++EL Y)++[(k.A,Bm k)]) ?_).subs (EY _ _);exact(AM [_,_] [_,_,_,_] [0,3,1,3,5,0,2,7,2,4] [0,2,5,2,1,3,7,0,1,4]).trans ((FD _ pm.symm).trans (AM [_,_] [_,_,_,_] [0,2,1,2,3,5,7,0,1,4] [0,9,0,6,0,2,3,5,1,2,4,7]))
    rcases ai with⟨J,M⟩|⟨J,W,v9,M⟩
    ·rw[J,M]at l
     have N:An (kt w) s2 ([(f,BP w.2 e0 e1 nw tk0 rs a y y2 y3 y4 y5 y6 y7 it h k.e.T t o (Ad w Bt r (.ref X[i].T)::[]) 9),(a,Cf k T kk)]++(HL (k::T)++EL Y)):=l.sat;refine H3 (mD w f c e0 e1 nw tk0 rs a y y2 y3 y4 y5 y6 y7 k.e.T t it h o kk r 0 .none X[i] k T D) id (Ai (Ai te10658043212670528822 f) c) (HL (k::T)++EL Y) [] Z dB uB (G8 _ _ (FW (λO ts gh _ _ _=>O4 (g:=gH φ) (by (first|lia|omega)) (H (tk O 0)).1 (al (tk O 0))) (FX (λ_ _ _=>FB rfl (by decide)) G7))) Ar N λn G ω s3 fl u _ P=> ?_;obtain rfl:fl= .next:=P;obtain⟨-,F,qA⟩:=H (n 0);refine Ap (hR s3 (G 4) (o-1) 10 [Ad w Bt r (.ref X[i].T),Ad w EP (G 2) (.int o t)] ⟨n 0,X[i],o,t⟩ (D (n 0)) (.c r _ _ _) qA ((hn (n 0)).perm F) (by simpa using F.length_eq) ?_);exact ac l u F
    ·rw[J,M]at l
     have N:An (kt w) s2 ([(f,BP w.2 e0 e1 nw tk0 rs a y y2 y3 y4 y5 y6 y7 it h k.e.T t o (Ad w Bt r (.ref X[i].T)::[Ad w EP W v9]) 10),(a,Cf k T kk)]++(HL (k::T)++EL Y)):=l.sat;refine H3 (mF w f c e0 e1 nw tk0 rs a y y2 y3 y4 y5 y6 y7 k.e.T t it h o kk r W v9 X[i] k T D) id (Ai (Ai te10658043212670528822 f) c) (HL (k::T)++EL Y) [] Z dB uB (G8 _ _ (FW (λO ts gh _ _ _=>O4 (g:=gH φ) (by (first|lia|omega)) (H (tk O 0)).1 (al (tk O 0))) (FX (λ_ _ _=>FB rfl (by decide)) G7))) Ar N λn G ω s3 fl u _ P=> ?_;obtain rfl:fl= .next:=P;obtain⟨-,F,qA⟩:=H (n 0);refine Ap (hR s3 (G 4) (o-1) 10 [Ad w Bt r (.ref X[i].T),Ad w EP W (.int o t)] ⟨n 0,X[i],o,t⟩ (D (n 0)) (.c r _ _ _) qA ((hn (n 0)).perm F) (by simpa using F.length_eq) ?_);exact ac l u F
   ·have po: ∀o1 o2:Obj,([(f,o1),(a,o2)]++HL (k::T)++EL Y).Perm ([(f,o1),(a,o2),(d.A,Bm d)]++(HL (k::T.erase d)++EL Y)):=λo1 o2=>by
     have pe:(HL T).Perm ((d.A,Bm d)::HL (T.erase d)):=(List.perm_cons_erase ak).map _;exact(AM [_,_] [_,_,_] [0,6,0,2,1,3,5,2,4] [0,1,2,1,3,5,0,1,4]).trans ((FD _ pe).trans (AM [_,_] [_,_,_,_] [0,2,1,2,3,5,7,0,1,4] [0,3,3,5,1,0,2,7,2,4]))
    have am: ∀A:Nat,EV ([(A,Bm ⟨A,X[i],o,t⟩),(d.A,Bm d)]++(HL (k::T.erase d)++EL Y)) (⟨A,X[i],o,t⟩::T) (gH φ):=λA=>(hn A).hfact hp K hT (λz hz=>by
      rcases List.mem_cons.mp hz with rfl|hz
      ·exact Bj
      ·by_cases e:z=d
       ·rw[e];exact BB _ Bj
       ·exact BG _ (Dk _ (O6 (BB _ ((List.mem_erase_of_ne e).mpr hz))))) λe he=>BG _ (BG _ (HZ he))
    have ad: ∀{s3:Ab} {L0:Ae} {o1 o2 o3:Obj} {A:Nat} {C:List HE},Ag (kt w) s s2 L0 ([(f,o1),(a,o2),(d.A,Bm d)]++(HL (k::T.erase d)++EL Y))→Ag (kt w) s2 s3 ([(f,o1),(a,o2),(d.A,Bm d)]++(HL (k::T.erase d)++EL Y)) ([(f,o3),(a,li (Au (d::C)) kk),(d.A,Bm d),(A,Bm ⟨A,X[i],o,t⟩)]++(HL (k::T.erase d)++EL Y))→(d::C).Perm (⟨A,X[i],o,t⟩::T)→
      Ag (kt w) s s3 L0 ([(f,o3),(a,li (Au (d::C)) kk)]++HL (d::C)++EL Y):=λ {s3 L0 o1 o2 o3 A C} s1 s2 p=>by
     have pm:(HL (d::C)).Perm ((A,Bm ⟨A,X[i],o,t⟩)::HL T):=p.map _;have pe:(HL T).Perm ((d.A,Bm d)::HL (T.erase d)):=(List.perm_cons_erase ak).map _;have l:=s1.trans s2;refine(l.permR (L'':=([(f,o3),(a,li (Au (d::C)) kk)]++HL (d::C)++EL Y)++[(k.A,Bm k)]) ?_).subs (EY _ _);refine List.perm_iff_count.mpr λq=> ?_;have c:=List.perm_iff_count.mp pm q;have c2:=List.perm_iff_count.mp pe q;have e1:HL (k::T.erase d)=(k.A,Bm k)::HL (T.erase d):=rfl;rw[e1];simp only[NG,List.count_cons,List.count_nil]at c c2⊢;(first|lia|omega)
    rcases ai with⟨J,M⟩|⟨J,W,v9,M⟩
    ·rw[J,M]at l
     have N:An (kt w) s2 ([(f,BP w.2 e0 e1 nw tk0 rs a y y2 y3 y4 y5 y6 y7 it h k.e.T t o (Ad w Bt r (.ref X[i].T)::[]) 9),(a,Cf k T kk),(d.A,Bm d)]++(HL (k::T.erase d)++EL Y)):=l.sat.perm (po _ _);refine H3 (mE w f c e0 e1 nw tk0 rs a y y2 y3 y4 y5 y6 y7 k.e.T t it h o kk r 0 .none X[i] k d T D) id (Ai (Ai te10658043212670528822 f) c) (HL (k::T.erase d)++EL Y) [] Z dB uB (G8 _ _ (FW (λO ts gh _ _ _=>O4 (g:=gH φ) (by (first|lia|omega)) (H (tk O 0)).1 (am (tk O 0))) (FX (λ_ _ _=>FB rfl (by decide)) G7))) Ar N λn G ω s3 fl u _ P=> ?_;obtain rfl:fl= .next:=P;obtain⟨-,F,qA⟩:=H (n 0);refine Ap (hR s3 (G 4) (o-1) 10 [Ad w Bt r (.ref X[i].T),Ad w EP (G 2) (.int d.o d.t)] d (D (n 0)) (.c r _ _ _) qA ((hn (n 0)).perm F) (by simpa using F.length_eq) ?_);exact ad (l.permR (po _ _)) u F
    ·rw[J,M]at l
     have N:An (kt w) s2 ([(f,BP w.2 e0 e1 nw tk0 rs a y y2 y3 y4 y5 y6 y7 it h k.e.T t o (Ad w Bt r (.ref X[i].T)::[Ad w EP W v9]) 10),(a,Cf k T kk),(d.A,Bm d)]++(HL (k::T.erase d)++EL Y)):=l.sat.perm (po _ _);refine H3 (mG w f c e0 e1 nw tk0 rs a y y2 y3 y4 y5 y6 y7 k.e.T t it h o kk r W v9 X[i] k d T D) id (Ai (Ai te10658043212670528822 f) c) (HL (k::T.erase d)++EL Y) [] Z dB uB (G8 _ _ (FW (λO ts gh _ _ _=>O4 (g:=gH φ) (by (first|lia|omega)) (H (tk O 0)).1 (am (tk O 0))) (FX (λ_ _ _=>FB rfl (by decide)) G7))) Ar N λn G ω s3 fl u _ P=> ?_;obtain rfl:fl= .next:=P;obtain⟨-,F,qA⟩:=H (n 0);refine Ap (hR s3 (G 4) (o-1) 10 [Ad w Bt r (.ref X[i].T),Ad w EP W (.int d.o d.t)] d (D (n 0)) (.c r _ _ _) qA ((hn (n 0)).perm F) (by simpa using F.length_eq) ?_);exact ad (l.permR (po _ _)) u F
  ·rw[AI (by simpa using aa)]
   have an:φ X[i]<φ k.e:=by
    have:=K.ne V vY ae;(first|lia|omega)
   refine Ap (hR s2 t o m1 _ k T ?_ hq (U.miss hi hq an) rfl l);rcases ai with⟨J,M⟩|⟨J,W,v9,M⟩
   ·rw[J,M];exact .b _ _
   ·rw[J,M];exact .c _ _ _ _
end
end
section
inductive mU (w:Aa) (f e0 e1 nw tk0 rs a y y2 y3 y4 y5 y6 y7 it h nr kk:Nat) (X Y:List El) (φ:El→Nat) (k:Nat) (r:Result) (L':Ae) (ts:List Nat):Prop
 |mk (hr:r= .ok .next) (ht:ts=[]) (t':Nat) (o':Int) (m':Nat) (x':List DictEntry) (x0':HE) (T':List HE) (oi:Obj) (hi:Dq φ X X.length (x0'::T')) (hl:T'.length=k) (hL:L'=[(f,BP w.2 e0 e1 nw tk0 rs a y y2 y3 y4 y5 y6 y7 it h x0'.e.T t' o' x' m'),(it,oi),(rs,li (Ax X) nr),(a,li (Au (x0'::T')) kk)]++HL (x0'::T')++EL Y)
section
variable {w:Aa}{A:Al}{f c e0 e1 nw tk0 rs a y y2 y3 y4 y5 y6 y7 it h nr kk:Nat}{X Y:List El}{φ:El→Nat}
theorem mV(l:A.handled=none)(H:A.depth≤510)(I:A.units≤2900)(hp:X.Perm Y)(K:Ee Y φ)(hT: ∀x∈Y,∀y∈Y,x≠y→x.T≠y.T)(hX:X.Nodup)(hx:X.length≤900):
  ∀(n i:Nat),i+n=X.length→ ∀(t:Nat) (o:Int) (m:Nat) (x:List DictEntry) (b:HE) (T:List HE),JQ w.2 m x→DQ (BA (gH φ) (b::T)) (b::T).length 0→Dq φ X i (b::T)→T.length≤900→
  RunsW w A (mN f c it) ([(f,BP w.2 e0 e1 nw tk0 rs a y y2 y3 y4 y5 y6 y7 it h b.e.T t o x m),(it,liO rs i),AJ rs X nr,(a,Cf b T kk)]++HL (b::T)++EL Y)
   (mU w f e0 e1 nw tk0 rs a y y2 y3 y4 y5 y6 y7 it h nr kk X Y φ T.length):=by
 intro n
 induction n with
 |zero=>
  intro i hi t o m x b T J L j M s S;obtain rfl:i=X.length:=by (first|lia|omega)
  have C:([(it,liO rs X.length),AJ rs X nr]++([(f,BP w.2 e0 e1 nw tk0 rs a y y2 y3 y4 y5 y6 y7 it h b.e.T t o x m),(a,Cf b T kk)]++HL (b::T)++EL Y)).Perm ([(f,BP w.2 e0 e1 nw tk0 rs a y y2 y3 y4 y5 y6 y7 it h b.e.T t o x m),(it,liO rs X.length),AJ rs X nr,(a,Cf b T kk)]++HL (b::T)++EL Y):=by
   exact AM [_,_] [_,_,_,_,_] [0,2,1,3,0,6,0,2,5,7,9,2,4] [0,8,0,4,5,1,3,7,9,2,4]
  refine Uc (O1 l (by (first|lia|omega)) (by (first|lia|omega)) (by (first|((repeat(first|exact .head _|apply List.mem_cons_of_mem));done)|simp)) C S λs1 d=>⟨rfl,?_⟩);rw[mJ];refine B5 ((Bc (mH w f c) [] l (AC H (by (first|lia|omega))) (AC I (by (first|lia|omega))) AR Ar (Φ:=λr u N=>r= .ok .next∧u=[]) λα τ ω=>⟨rfl,rfl⟩) s1 (d.sat.part _ (La:=[]) (AX _))) λr s2 hz=> ?_;obtain⟨u,N,⟨D,E⟩,st,ri⟩:=hz;subst E;have e:Ag (kt w) s s2 ([(f,BP w.2 e0 e1 nw tk0 rs a y y2 y3 y4 y5 y6 y7 it h b.e.T t o x m),(it,liO rs X.length),AJ rs X nr,(a,Cf b T kk)]++HL (b::T)++EL Y) ([(it,fi Bo [.none,.int (X.length:Int) 0]),AJ rs X nr]++([(f,BP w.2 e0 e1 nw tk0 rs a y y2 y3 y4 y5 y6 y7 it h b.e.T t o x m),(a,Cf b T kk)]++HL (b::T)++EL Y)):=by
   have z:=Ag.part _ d.sat (La:=[]) (AX _) st;exact d.trans z
  refine⟨_,[],⟨D,rfl,t,o,m,x,b,T,fi Bo [.none,.int (X.length:Int) 0],j,rfl,rfl⟩,e.permR ?_,e.toks⟩;exact AM [_,_] [_,_,_,_,_] [0,2,1,3,0,6,0,2,5,7,9,2,4] [0,8,0,4,5,1,3,7,9,2,4]
 |succ n ih=>
  intro i hi t o m x b T J L j M s S;have O:i<X.length:=by (first|lia|omega)
  have P:A.depth≤520:=AC H (by decide);have uB:A.units≤3000:=AC I (by decide);have C:([(it,liO rs i),AJ rs X nr]++([(f,BP w.2 e0 e1 nw tk0 rs a y y2 y3 y4 y5 y6 y7 it h b.e.T t o x m),(a,Cf b T kk)]++HL (b::T)++EL Y)).Perm ([(f,BP w.2 e0 e1 nw tk0 rs a y y2 y3 y4 y5 y6 y7 it h b.e.T t o x m),(it,liO rs i),AJ rs X nr,(a,Cf b T kk)]++HL (b::T)++EL Y):=by
   exact AM [_,_] [_,_,_,_,_] [0,2,1,3,0,6,0,2,5,7,9,2,4] [0,8,0,4,5,1,3,7,9,2,4]
  refine Ud (MH l P uB (v:=.ref X[i].T) (by simp[Ax,O]) C S λs1 d=>⟨_,rfl,?_⟩);have Q:letOwnedTupleGo (sT BK) (.ref it) (.ref X[i].T)=pure ():=by rw[mI];rfl
  rw[Q];refine Ap ?_;have p2:([(it,liO rs (i+1)),AJ rs X nr]++([(f,BP w.2 e0 e1 nw tk0 rs a y y2 y3 y4 y5 y6 y7 it h b.e.T t o x m),(a,Cf b T kk)]++HL (b::T)++EL Y)).Perm (([(f,BP w.2 e0 e1 nw tk0 rs a y y2 y3 y4 y5 y6 y7 it h b.e.T t o x m),(a,Cf b T kk)]++HL (b::T)++EL Y)++[(it,liO rs (i+1)),AJ rs X nr]):=EF;have d:=d.permR p2;refine mT l P uB hp K hT hX O hx J L j M d.sat.left λs2 R U V W g F Z aa G ac e=>⟨rfl,?_⟩
  have ad:=d.trans (Ag.part _ d.sat (AX _) e);have k:Ag (kt w) s s2 ([(f,BP w.2 e0 e1 nw tk0 rs a y y2 y3 y4 y5 y6 y7 it h b.e.T t o x m),(it,liO rs i),AJ rs X nr,(a,Cf b T kk)]++HL (b::T)++EL Y) ([(f,BP w.2 e0 e1 nw tk0 rs a y y2 y3 y4 y5 y6 y7 it h g.e.T R U W V),(it,liO rs (i+1)),AJ rs X nr,(a,Cf g F kk)]++HL (g::F)++EL Y):=by
   refine ad.permR ?_;exact AM [_,_] [_,_,_,_,_] [0,9,0,6,0,2,1,3,5,2,4,7,9] [0,8,0,4,1,7,9,3,5,2,4]
  refine B5 (ih (i+1) (by (first|lia|omega)) R U V W g F Z aa G (by (first|lia|omega)) s2 k.sat) λr s3 hz=> ?_;obtain⟨u,N,⟨D,E,t2,o2,m2,x2,ae,T2,oi,h3,h4,h5⟩,B,ri⟩:=hz;subst E;exact⟨u,[],⟨D,rfl,t2,o2,m2,x2,ae,T2,oi,h3,h4.trans ac,h5⟩,k.trans B,(k.trans B).toks⟩
end
end
noncomputable abbrev MN:Expr:=sT (Cc 9)
noncomputable abbrev RD(f a:Nat):Env:={scope:={Fp MN with names:=[(Hy,.local),(Bt,.local),(IC,.local)]},locals:=a,globals:=3,cells:=[],qual:=⟨⟨[110,108,97,114,103,101,115,116,46,60,108,111,99,97,108,115,62,46]⟩⟩,func:=none,code:=.ref 279,frame:=some f,builtins:=0}
noncomputable abbrev MO(f b c a:Nat):Code:=.compLoop MN 0 (.ref c) (.ref a) (RD f b)
noncomputable abbrev WB(P:Aj)(a c:Nat)(d e:Value)(b:Bool):Obj:=di (cond b [Aq P Bt a d,Aq P IC c e] []) (cond b 2 0)
theorem mW(w:Aa)(f g d c a i n k T e t m r:Nat)(o:Int)(s u:Value)(h j:List Value)(b:Bool):
  AD w 73 (MO f g d c) ([(d,liO a i),(a,li h n),(c,li j k),(g,WB w.2 m r s u b),(T,tu [.ref e,.int o t] 0)]) (dg 9 0x2c2bd545110019fe339236ff1167ed) (AB [(0,[0,1]),(4,[2])] ([λv y z=>CW d a i h n (.ref T),λv y z=>Ck c j k (.ref e)])) [] 0 500 2800 (.range 5)
   (λA l B=>.again (MO f g d c)) (λA l B=>[(d,liO a (i+1)),(a,li h n),(c,li (j++[.ref e]) (k+1)),(g,di [Ad w Bt (cond b m (l 0)) (.ref e),Ad w IC (cond b r (l 1)) (.int o t)] 2),(T,tu [.ref e,.int o t] 0)]) 2:=by
 cases b <;> kernel_rfl
theorem mX(w:Aa)(f e b d a i n:Nat)(c:List Value):
  AD w 10 (MO f e b d) (FP b a i c n) [1,4] (IZ b a i c n) [] 0 500 2800 [0,1]
   (λg h j=>.done .next) (λg h j=>(I0 b i a c n)) 0:=by
 kernel_rfl
theorem MP{c:Type}: ∀(l:List c) (i:Nat) (b:i<l.length),(l[i]::l.eraseIdx i).Perm l
 |a::l,0,_=>AX _
 |a::l,i+1,b=>(List.Perm.swap a _ _).trans ((MP l i (by simpa using b)).cons a)
inductive Hc (P:Aj) (S:List HE):Nat→Obj→Prop
 |a:Hc P S 0 (di [] 0)
 |b (i y0 y1:Nat):Hc P S (i+1) (di [Aq P Bt y0 (.ref (S.getD i hz).e.T),Aq P IC y1 (.int (S.getD i hz).o (S.getD i hz).t)] 2)
theorem Hc.shape{P:Aj}{S:List HE}{i:Nat}{d:Obj}(h:Hc P S i d):Ly λc e g j b=>d=WB P c e g j b:=by
 cases h with
 |a=>exact⟨0,0,.none,.none,false,rfl⟩
 |b i c e=>exact⟨c,e,_,_,true,rfl⟩
theorem mZ{w:Aa}{A:Al}(v:A.handled=none)(y:A.depth≤500)(z:A.units≤2800){f cl it acc a n:Nat}{S:List HE}(hS:S.length≤900): ∀(k i:Nat),i+k=S.length→ ∀(d:Obj),Hc w.2 S i d→
  RunsW w A (MO f cl it acc) ([(it,liO a i),(a,li (Au S) n),(acc,li (Ax ((S.take i).map HE.e)) i),(cl,d)]++HL S)
   λr g c=>r= .ok .next∧c=[]∧ ∃j,Hc w.2 S S.length j∧g=[(it,fi Bo [.none,.int (S.length:Int) 0]),(a,li (Au S) n),(acc,li (Ax (S.map HE.e)) S.length),(cl,j)]++HL S:=by
 intro k
 induction k with
 |zero=>
  intro i D d u;obtain rfl:i=S.length:=by (first|lia|omega)
  rw[Lo];refine FN ([(acc,li (Ax (S.map HE.e)) S.length),(cl,d)]++HL S) (L1:=[(it,liO a S.length),(a,li (Au S) n)]) (AX _) (Φ:=λr g c=>c=[]∧r= .ok .next∧g=[(it,fi Bo [.none,.int (S.length:Int) 0]),(a,li (Au S) n)]) ?_ λr g c ⟨E,h1,h2⟩=>⟨_,by rw[h2];exact AX _,h1,E,d,u,rfl⟩
  exact Bc (mX w f cl it acc a S.length n (Au S)) [] v y z (Az _ _ (Ah (λ_ _ _=>HK (by simp[Au])) Ay)) Ar λF G H=>⟨rfl,rfl,rfl⟩
 |succ k I=>
  intro i D d u;have s:i<S.length:=by (first|lia|omega)
  have J:(Au S)[i]? =some (.ref S[i].A):=by simp[Au,s]
  have K:(Ax ((S.take i).map HE.e)).length≤1000:=by simp[Ax];(first|lia|omega)
  have L: ∀Y:Nat×Nat,Ax ((S.take i).map HE.e)++[.ref S[i].e.T]=Ax ((S.take (i+1)).map HE.e):=λ_=>by
   rw[Jg,Eu s];unfold Ax;rw[BC,BC];rfl
  have X:DF w [λM c N=>CW it a i (Au S) n (.ref S[i].A),λM c N=>Ck acc (Ax ((S.take i).map HE.e)) i (.ref S[i].e.T)]:=Ah (λ_ _ _=>G2 J) (Ah (λ_ _ _=>EB K) Ay);have B: ∀o1 o2 o3 o4:Obj,([(it,o1),(a,o2),(acc,o3),(cl,o4),(S[i].A,Bm S[i])]++HL (S.eraseIdx i)).Perm ([(it,o1),(a,o2),(acc,o3),(cl,o4)]++HL S):=λo1 o2 o3 o4=>by
   have O:(HL S).Perm ((S[i].A,Bm S[i])::HL (S.eraseIdx i)):=by
    have:=(MP S i s).symm.map λh:HE=>(h.A,Bm h)
    exact this
   exact(AM [_] [_,_,_,_,_] [0,5,1,3,5,7,9,2] [0,2,9,2,1,3,5,7]).trans ((FD _ O.symm).trans (AM [_] [_,_,_,_] [0,1,2,1,3,5,7] [0,4,1,3,5,7,2]))
  have fin: ∀{o4:Obj},Hc w.2 S (i+1) o4→ ∃C,([(it,liO a (i+1)),(a,li (Au S) n),(acc,li (Ax ((S.take i).map HE.e)++[.ref S[i].e.T]) (i+1)),(cl,o4),(S[i].A,Bm S[i])]++HL (S.eraseIdx i)).Perm C∧
    RunsW w A (MO f cl it acc) C λr g c=>r= .ok .next∧[]++c=[]∧ ∃j,Hc w.2 S S.length j∧g=[(it,fi Bo [.none,.int (S.length:Int) 0]),(a,li (Au S) n),(acc,li (Ax (S.map HE.e)) S.length),(cl,j)]++HL S:=λ {o4} Q=>by
   refine⟨_,B _ _ _ _,?_⟩;rw[L (0,0)];exact I (i+1) (by (first|lia|omega)) _ Q
  have R:S.getD i hz=S[i]:=by simp[List.getD,s]
  have U: ∀l m,Hc w.2 S (i+1) (di [Ad w Bt l (.ref S[i].e.T),Ad w IC m (.int S[i].o S[i].t)] 2):=λl m=>by
   have:=Hc.b (P:=w.2) (S:=S) i l m;rwa[R]at this
  obtain⟨l,m,V,W,b,rfl⟩:=u.shape;exact ER (mW w f cl it acc a i n i S[i].A S[i].e.T S[i].t l m S[i].o V W (Au S) (Ax ((S.take i).map HE.e)) b) (HL (S.eraseIdx i)) (B _ _ _ _) [] v y z (Az _ _ X) Ar λF G H=>fin (U _ _)
noncomputable def H9(P:Aj)(f g i b a n:Nat)(S:List HE):Ak:=
 {d:=500,u:=2800,h:=none,c:=.compStart MN 0 (.ref i) (.ref b) (RD f g),idx:=[],pre:=[(i,liO a 0),(a,li (Au S) n),(b,li [] 0),(g,di [] 0)],na:=0,nt:=0,no:=2,r:=λ_ _=>.ok .next,
  outs:=λ_ _ o=>[fi Bo [.none,.int (S.length:Int) 0],li (Au S) n,li (Ax (S.map HE.e)) S.length,di [Aq P Bt (Ao o 0) (.ref (S.getD (S.length-1) hz).e.T),Aq P IC (Ao o 1) (.int (S.getD (S.length-1) hz).o (S.getD (S.length-1) hz).t)] 2],news:=λ_ _ _=>[]}
theorem nA{w:Aa}{f g d c a n:Nat}{S:List HE}(J:0<S.length)(hS:S.length≤900):Cb w (HL S) (H9 w.2 f g d c a n S):=by
 intro A u v y s St _;have z:Iv MN 0=true:=by kernel_rfl
 have key:=FK pw w 1 Bo (by kernel_rfl) A MN 0 (.ref c) (RD f g) (λB l=>Ew λh t o=>h.length=0∧t.length=0∧o.length=2∧B=(H9 w.2 f g d c a n S).rx o ((H9 w.2 f g d c a n S).r h t)∧Js (kt w) none s l (H9 w.2 f g d c a n S).pre (Bk (H9 w.2 f g d c a n S).pre ((H9 w.2 f g d c a n S).outs h t o)++BI h ((H9 w.2 f g d c a n S).news h t o))∧AY s.toks l.toks t) s d (liO a 0) (St.mem (d,liO a 0) (by simp[H9])) rfl z;refine key ?_;refine B5 (mZ (w:=w) (f:=f) (cl:=g) (it:=d) (acc:=c) (a:=a) (n:=n) y u v hS S.length 0 (by (first|lia|omega)) (di [] 0) .a s St) λr l hz=> ?_;obtain⟨K,L,⟨C,D,E,m,G⟩,H,I⟩:=hz;subst D;obtain⟨j,k,rfl⟩:B6 λj k=>E=di [Ad w Bt j (.ref (S.getD (S.length-1) hz).e.T),Ad w IC k (.int (S.getD (S.length-1) hz).o (S.getD (S.length-1) hz).t)] 2:=by
  generalize M:S.length=q at m;cases m with
  |a=>(first|lia|omega)
  |b i j k=>exact⟨j,k,by rw[NE]⟩
 subst G;exact⟨[],[],[Ac j,Ac k],rfl,rfl,rfl,C,Ag.hide (F:=HL S) St H,I⟩
noncomputable abbrev KS:=(dg 11 0xed7e4e03bbd45140943d560036f5b82e7a33126ae1ca6)
theorem nB(w:Aa)(f c j k g d i h y l:Nat)(X:List El):
  AG w 141 (tw10118331618086869758 f c) ([(f,AQ w.2 j k 2 g d [Ad w Cj y (.int h l)] 3),AJ d X i]) KS (AB [(13,[7,5,6,4,2,1,9,8])] ([λa n o=>Gu w.2 f (tk a 7) (tk a 5) (tk a 3) (tk a 4) (tk a 2) (tk a 0) d (tk a 6) i 2 X])) [] 490 2700 [0,1,2,8,10,11]
   (λb e m=>.done .next) (λb e m=>[(f,AQ w.2 j k 2 g d [Ad w Cj y (.int h l),Ad w DZ (e 0) (.ref (b 0)),Ad w D9 (e 7) (.ref (b 6))] 5),AJ d X i,(b 0,liO d 2),(b 6,li (Au (DJ 2 8 5 X b e)) 2)]++HL (DJ 2 8 5 X b e)) 8:=by
 kernel_rfl
theorem nC(w:Aa)(f c j k g d i h y l:Nat)(X:List El):
  AG w 141 (tw10118331618086869758 f c) ([(f,AQ w.2 j k 3 g d [Ad w Cj y (.int h l)] 3),AJ d X i]) KS (AB [(13,[7,5,6,4,2,1,9,8])] ([λa n o=>Gu w.2 f (tk a 7) (tk a 5) (tk a 3) (tk a 4) (tk a 2) (tk a 0) d (tk a 6) i 3 X])) [] 490 2700 [0,1,2,8,10,11,12]
   (λb e m=>.done .next) (λb e m=>[(f,AQ w.2 j k 3 g d [Ad w Cj y (.int h l),Ad w DZ (e 0) (.ref (b 0)),Ad w D9 (e 8) (.ref (b 6))] 5),AJ d X i,(b 0,liO d 3),(b 6,li (Au (DJ 3 8 5 X b e)) 3)]++HL (DJ 3 8 5 X b e)) 9:=by
 kernel_rfl
theorem nD(w:Aa)(f c j k g d i h y l:Nat)(X:List El):
  AG w 141 (tw10118331618086869758 f c) ([(f,AQ w.2 j k 4 g d [Ad w Cj y (.int h l)] 3),AJ d X i]) KS (AB [(13,[7,5,6,4,2,1,9,8])] ([λa n o=>Gu w.2 f (tk a 7) (tk a 5) (tk a 3) (tk a 4) (tk a 2) (tk a 0) d (tk a 6) i 4 X])) [] 490 2700 [0,1,2,8,10,11,12,13]
   (λb e m=>.done .next) (λb e m=>[(f,AQ w.2 j k 4 g d [Ad w Cj y (.int h l),Ad w DZ (e 0) (.ref (b 0)),Ad w D9 (e 9) (.ref (b 6))] 5),AJ d X i,(b 0,liO d 4),(b 6,li (Au (DJ 4 8 5 X b e)) 4)]++HL (DJ 4 8 5 X b e)) 10:=by
 kernel_rfl
theorem nF(w:Aa)(f c j k g d i h y l:Nat)(X:List El):
  AG w 141 (tw10118331618086869758 f c) ([(f,AQ w.2 j k 5 g d [Ad w Cj y (.int h l)] 3),AJ d X i]) KS (AB [(13,[7,5,6,4,2,1,9,8])] ([λa n o=>Gu w.2 f (tk a 7) (tk a 5) (tk a 3) (tk a 4) (tk a 2) (tk a 0) d (tk a 6) i 5 X])) [] 490 2700 [0,1,2,8,10,11,12,13,14]
   (λb e m=>.done .next) (λb e m=>[(f,AQ w.2 j k 5 g d [Ad w Cj y (.int h l),Ad w DZ (e 0) (.ref (b 0)),Ad w D9 (e 10) (.ref (b 6))] 5),AJ d X i,(b 0,liO d 5),(b 6,li (Au (DJ 5 8 5 X b e)) 5)]++HL (DJ 5 8 5 X b e)) 11:=by
 kernel_rfl
theorem nG(w:Aa)(f c j k g d i h y l:Nat)(X:List El):
  AG w 141 (tw10118331618086869758 f c) ([(f,AQ w.2 j k 6 g d [Ad w Cj y (.int h l)] 3),AJ d X i]) KS (AB [(13,[7,5,6,4,2,1,9,8])] ([λa n o=>Gu w.2 f (tk a 7) (tk a 5) (tk a 3) (tk a 4) (tk a 2) (tk a 0) d (tk a 6) i 6 X])) [] 490 2700 [0,1,2,8,10,11,12,13,14,15]
   (λb e m=>.done .next) (λb e m=>[(f,AQ w.2 j k 6 g d [Ad w Cj y (.int h l),Ad w DZ (e 0) (.ref (b 0)),Ad w D9 (e 11) (.ref (b 6))] 5),AJ d X i,(b 0,liO d 6),(b 6,li (Au (DJ 6 8 5 X b e)) 6)]++HL (DJ 6 8 5 X b e)) 12:=by
 kernel_rfl
theorem nH(w:Aa)(f c j k g d i h y l:Nat)(X:List El):
  AG w 141 (tw10118331618086869758 f c) ([(f,AQ w.2 j k 7 g d [Ad w Cj y (.int h l)] 3),AJ d X i]) KS (AB [(13,[7,5,6,4,2,1,9,8])] ([λa n o=>Gu w.2 f (tk a 7) (tk a 5) (tk a 3) (tk a 4) (tk a 2) (tk a 0) d (tk a 6) i 7 X])) [] 490 2700 [0,1,2,8,10,11,12,13,14,15,16]
   (λb e m=>.done .next) (λb e m=>[(f,AQ w.2 j k 7 g d [Ad w Cj y (.int h l),Ad w DZ (e 0) (.ref (b 0)),Ad w D9 (e 12) (.ref (b 6))] 5),AJ d X i,(b 0,liO d 7),(b 6,li (Au (DJ 7 8 5 X b e)) 7)]++HL (DJ 7 8 5 X b e)) 13:=by
 kernel_rfl
theorem nJ(w:Aa)(f c g i j e l a y n r s u v z tp t A h:Nat)(o:Int)(k m:Nat)(x:List DictEntry)(H S:List HE):
  AG w 45 (tw783827001865659065 f c) ([(f,BP w.2 g i j e l a y n r s u v z A h tp t o x m),(a,li (Au H) k)]) (dg 6 20875848913151) (AB [(0,[1]),(1,[2,1,3,4])] ([λb B C=>Wu a k H S [],λb B C=>H9 w.2 f (tk b 2) (tk b 0) (tk b 1) a (k+2) S])) [] 490 2700 [3]
   (λd D E=>.done (.ret (.ref (d 1)))) (λd D E=>[(d 1,li (Ax (S.map HE.e)) S.length)]) 0:=by
 kernel_rfl
set_option maxHeartbeats 4000000
noncomputable def MQ:AE→Flow
 | .done f=>f
 | .again _=>.next
noncomputable def trS1(a:Nat):Sem AE:=Builtin.«list.sort» ⟨[.ref a],[(Str.ofString "reverse",.bool true)]⟩>>=λv=>pure (.done (MQ v))
lay_quick trS1
set_option maxHeartbeats 400000
theorem WC(w:Aa)(a e:Nat):
  AG w 18 (tw8237150286054735562 a) ([(a,li [.ref e] 0)]) [1,1,1,1,1,1,1,1,1] [] [] 590 3700 [0]
   (λb c d=>.done (.ret .none)) (λb c d=>[(a,li [.ref e] 2)]) 0:=by
 kernel_rfl
theorem nK{w:Aa}{F:Ae}{k n:Nat}{e:El}:Cb w F (MK k n [e] [e]):=by
 refine Cb.of ?_;intro A l m o s S _;have r:A.in1.in1.handled=none:=o;have d:A.in1.units≤2801:=CC m 1;refine Rp (ws:=Ax [e]) (G:=[]) (V7 _) (λD=>V8 _) (λD=>U3 D true) (by simp[Ax]) S (λ {D b P E} S h=> ?_) λb D g=>⟨[D],[],[],rfl,rfl,rfl,rfl,g,g.toks⟩
 refine Bq (WC w _ e.T) MQ (Ai te8237150286054735562 _) [] r (AC (show A.in1.in1.depth≤500 from l) (by decide)) (AC (CC d 1) (by decide)) AR Ar S λt u v b i j _ a=> ?_;have a:MQ i= .ret .none:=a;cases i with
 |again c=>cases a
 |done f=>
  obtain rfl:f= .ret .none:=a;exact h b j
section
theorem nM(l r:List Stmt)(b:Env):execs (l++r) b=execs l b>>=λd=>match d with| .next=>execs r b|f=>pure f:=by
 induction l with
 |nil=>show execs r b=pure Flow.next>>=_;rw[pure_bind]
 |cons a l e=>
  show(exec a b>>=λd=>match d with| .next=>execs (l++r) b|f=>pure f)=((exec a b>>=λd=>match d with| .next=>execs l b|f=>pure f)>>=_);rw[bind_assoc];congr 1;funext d;cases d <;> first|exact e|(first|((repeat(first|exact .head _|apply List.mem_cons_of_mem));done)|simp)
theorem CX{w:Aa}{B:Al}{s:Ab}{a:Stmt}{l:List Stmt}{b:Env}{Q:Flow→Ab→Prop}{E:Value→Ab→Prop}(h:wpAny (model pw w) B (exec a b) (λd e=>match d with| .next=>wpAny (model pw w) B (execs l b) Q E e|f=>Q f e) E s):wpAny (model pw w) B (execs (a::l) b) Q E s:=by
 refine (?_:wpAny _ _ (exec a b>>=λd=>match d with| .next=>execs l b|f=>pure f) _ _ _);refine Af (CE h (λd e h=> ?_) λ_ _ h=>h);cases d <;> first|exact h|exact Ap h
theorem Hd{w:Aa}{B:Al}{s:Ab}{a l:List Stmt}{b:Env}{Q:Flow→Ab→Prop}{E:Value→Ab→Prop}(h:wpAny (model pw w) B (execs a b) (λd e=>match d with| .next=>wpAny (model pw w) B (execs l b) Q E e|f=>Q f e) E s):wpAny (model pw w) B (execs (a++l) b) Q E s:=by
 rw[nM];refine Af (CE h (λd e h=> ?_) λ_ _ h=>h);cases d <;> first|exact h|exact Ap h
theorem Cb.perm{w:Aa}{F d:Ae}{e:Ak}(p:F.Perm d)(x:Cb w F e):Cb w d e:=λA a b c s S G=>x A a b c s (S.perm (List.Perm.append_left _ p.symm)) G
theorem Ba.extH{w:Aa}{F:Ae}{e:Ak}(h: ∀A:Al,A.depth≤e.d→A.units≤e.u→A.handled=e.h→
  RunsW w A e.c (e.pre++F) λr d b=>B6 λa o=>a.length=e.na∧b.length=e.nt∧o.length=e.no∧r=e.rx o (e.r a b)∧d=(Bk e.pre (e.outs a b o)++BI a (e.news a b o))++F)(g:e.gn=none:=by rfl):Cb w F e:=λA i j k s S _=>
 B5 (h A i j k s S) (by rintro r z ⟨d,b,⟨a,o,l,m,n,t,u⟩,v,y⟩;exact⟨a,b,o,l,m,n,t,by rw[g];exact Ag.hide S (u▸v),y⟩)
theorem nN:KQ=JO::Rz::JP::KQ.drop 3:=by kernel_rfl
theorem nO:JO= .If (sT JO) ([Fb 0,Fb 1,Fb 2]++[Fb 3]) [] (sP JO):=by kernel_rfl
theorem nP:JP= .If (sT JP) ([Cc 0,Cc 1]++([Cc 2,Cc 3,Cc 4,Cc 5,Cc 6]++(BK::[Cc 8,Cc 9]))) [] (sP JP):=by kernel_rfl
theorem nQ:Fb 3= .Return (some FY) (sP (Fb 3)):=by kernel_rfl
theorem nR:FY= .IfExp (.Compare (A9 (Br (eE FY 0)) 0) [.Is] [A9 (Br (eE FY 0)) 1] (gP (eE FY 0))) (eE FY 1) (eE FY 2) (gP FY):=by kernel_rfl
theorem nS:BK= .For (sT BK) (Ex BK) (AO BK) (Dv BK) (sP BK):=by kernel_rfl
theorem nU{w:Aa}{B:Al}{s:Ab}{x y:Nat}{g d:Obj}(i:s.heap.get? x=some g)(j:s.heap.get? y=some d)(k:d.cls= .type "object")(h:x≠y){Q:Value→Ab→Prop}{E:Value→Ab→Prop}(a:Q DG s):wpAny (model pw w) B (operate [.ref x,.ref y] (compareOp .Is (.ref x) (.ref y))) Q E s:=by
 refine (?_:wpAny _ _ (holding [.ref x,.ref y] (isSame (.ref x) (.ref y)>>=λb=>pure (.bool b))>>=λr=>release [.ref x,.ref y] [r]>>=λ_=>pure r) _ _ _);have e: ∀{Q:Bool→Ab→Prop} {E:Value→Ab→Prop},Q false s→wpAny (model pw w) B (isSame (.ref x) (.ref y)) Q E s:=λ {Q E} a=>by
  unfold isSame;dsimp only;rw[AI (by simpa using h)];refine Af (Jo i (Af (Jo j ?_)));rw[k]
  split
  ·rename_i l _ _
   have:("object":String)="tuple":=by injection l
   exact absurd this (by decide)
  ·exact Ap a
 refine Af (Dl (Af (e (Ap ?_))));exact Af (wpAny_release (Ap a))
section
variable {w:Aa}{B:Al}{f c e0 e1 nw tk0 rs nr:Nat}{X Y:List El}{φ:El→Nat}
theorem WD:Kk= .type "object":=by
 refine (?_:Value.type s2742458400755230247x6=_);rw[←e2742458400755230247x6]
theorem nV(I:B.handled=none)(dB:B.depth≤480)(uB:B.units≤2600){m:El}(M:m∈X)(J:X.Perm Y)(K:Ee Y φ)(T: ∀y∈X,y≠m→Cs m y=true∧Cs y m=false){s:Ab}(S:An (kt w) s ([(f,AQ w.2 e0 e1 nw tk0 rs [] 2),AJ rs X nr,(c,Cn)]++EL Y)){Q:Flow→Ab→Prop}{E:Value→Ab→Prop}
  (h: ∀N D,Ag (kt w) s N ([(f,AQ w.2 e0 e1 nw tk0 rs [] 2),AJ rs X nr,(c,Cn)]++EL Y) ([AJ rs X nr,(D,li [.ref m.T] 0)]++EL Y)→Q (.ret (.ref D)) N):wpAny (model pw w) B (execs ([Fb 0,Fb 1,Fb 2]++[Fb 3]) (Cm f c)) Q E s:=by
 have n:B.depth≤490:=by (first|lia|omega)
 have r:B.units≤2700:=by (first|lia|omega)
 have O:X.Pairwise C3:=(J.pairwise_iff λ {a b} h=>C3.symm h).mpr K.ap;refine Hd ?_;refine H3 (iY w f c e0 e1 nw tk0 rs nr X m) id (Ai (Ai te16727612240851387441 f) c) (EL Y) [] I n r (G8 _ _ (FW (λ_ _ _ _ _ _=>(iN O M T).perm (J.map _)) G7)) Ar S λk u L s1 U d _ P=> ?_;obtain rfl:U= .next:=P;have V:m∈Y:=J.mem_iff.mp M;generalize k 0=z at d;generalize k 1=g at d;generalize u 0=A at d;generalize u 1=C at d;generalize u 2=F at d;have d:Ag (kt w) s s1 ([(f,AQ w.2 e0 e1 nw tk0 rs [] 2),AJ rs X nr,(c,Cn)]++EL Y) ([(f,AQ w.2 e0 e1 nw tk0 rs [Ad w DZ A (.ref z),Ad w GQ C (.ref g),Ad w D9 F (.ref m.T)] 5)]++([AJ rs X nr,(g,⟨Kk,none,.plain,⟨[]⟩⟩)]++EL Y)):=d;dsimp only;refine CX ?_;rw[nQ,exec_Return_some];refine Af (Du (Af ?_));rw[nR];refine wpAny_IfExp ?_;rw[isTrue_Compare1];refine Af (Bq (iZ w f c e0 e1 nw tk0 rs A C F z g m.T) Flow.ret (Ai (Ai te4840358309800446347 f) c) [] I n r AR Ar d.sat.left λk u L s2 v l _ G=> ?_);obtain rfl:v= .ref m.T:=CZ G;have l:=d.trans (l.frame d.sat);refine Af (Dl ?_);refine (?_:wpAny _ _ (eval (A9 (Br (eE FY 0)) 1) (Cm f c)) _ _ _);refine Bq (lA w f c e0 e1 nw tk0 rs A C F z g m.T) Flow.ret (Ai (Ai te13090034962049717353 f) c) [] I n r AR Ar l.sat.left λk u L s3 v i _ G=> ?_;obtain rfl:v= .ref g:=CZ G;have i:=l.trans (i.frame l.sat);refine Af (Du (Af ?_));have t:=i.sat.mem (m.T,BO m) (BG _ (BG _ (HZ V)));have H:=i.sat.mem (g,⟨Kk,none,.plain,⟨[]⟩⟩) (by (first|((repeat(first|exact .head _|apply List.mem_cons_of_mem));done)|simp));have W:m.T≠g:=λe=>by
  dsimp only at t H;rw[e,H]at t;have:=Am (λo:Option Obj=>o.map Obj.cls) t;have Z:(BO m).cls= .type "tuple":=by unfold BO;rw[JF]
  simp only[Option.map_some]at this;rw[Z,WD]at this;injection this with this
  injection this with this
  exact absurd this (by decide)
 refine nU t H WD W ?_;refine (?_:wpAny _ _ (holding [.bool false] (truthy DG)) _ _ _);refine Dl (wpAny_truthy_bool ?_);simp only[CR,if_false];refine Bq (lB w f c e0 e1 nw tk0 rs A C F z g m.T) Flow.ret (Ai (Ai te12698246169658312150 f) c) [] I n r AR Ar i.sat.left λk u L R v j _ G=> ?_;obtain rfl:v= .ref (k 0):=CZ G;have j:=i.trans (j.frame i.sat);refine Ap (h R (k 0) ?_);generalize k 0=D at j;have j:Ag (kt w) s R ([(f,AQ w.2 e0 e1 nw tk0 rs [] 2),AJ rs X nr,(c,Cn)]++EL Y) ([(f,AQ w.2 e0 e1 nw tk0 rs [Ad w DZ A (.ref z),Ad w GQ C (.ref g),Ad w D9 F (.ref m.T)] 5),(D,li [.ref m.T] 0)]++([AJ rs X nr,(g,⟨Kk,none,.plain,⟨[]⟩⟩)]++EL Y)):=j;refine(j.permR (L'':=([AJ rs X nr,(D,li [.ref m.T] 0)]++EL Y)++[(f,AQ w.2 e0 e1 nw tk0 rs [Ad w DZ A (.ref z),Ad w GQ C (.ref g),Ad w D9 F (.ref m.T)] 5),(g,⟨Kk,none,.plain,⟨[]⟩⟩)]) ?_).subs (EY _ _);exact AM [_] [_,_,_,_] [0,2,1,3,0,2,5,7,2] [0,5,0,2,5,3,2,1,7]
end
end
section
theorem Cb.left{w:Aa}{F G:Ae}{e:Ak}(x:Cb w F e):Cb w (F++G) e:=λA a b c s S H=>x A a b c s (by rw[←Dt]at S;exact S.left) H
section
variable {w:Aa}{B:Al}{f c e0 e1 nw tk0 rs nr:Nat}{X Y:List El}{φ:El→Nat}
theorem nW(l:B.handled=none)(u:B.depth≤480)(uB:B.units≤2600)(a:X.Perm Y)(K:Ee Y φ)(m:X.length≤nw)(v:0<X.length)(b:X.length<64){s:Ab}(S:An (kt w) s ([(f,AQ w.2 e0 e1 nw tk0 rs [] 2),AJ rs X nr,(c,Cn)]++EL Y)){Q:Flow→Ab→Prop}{E:Value→Ab→Prop}
  (h: ∀d D,Ag (kt w) s d ([(f,AQ w.2 e0 e1 nw tk0 rs [] 2),AJ rs X nr,(c,Cn)]++EL Y) ([AJ rs X nr,(D,li (Ax Y) 0)]++EL Y)→Q (.ret (.ref D)) d):wpAny (model pw w) B (exec Rz (Cm f c)) Q E s:=by
 have n:Y.length≤nw:=by rw[←a.length_eq];exact m
 have srt: ∀g:List Nat,Cb w (EL Y) (MK rs nr X Y):=λ_=>by
  by_cases o:2≤X.length
  ·exact iO a K o b
  ·obtain⟨e,rfl⟩: ∃e,X=[e]:=List.length_eq_one_iff.mp (by (first|lia|omega))
   have:Y=[e]:=List.perm_singleton.mp a.symm;subst this;exact nK
 have r:slicePick ⟨Ax Y⟩ none (some (nw:Int)) none=⟨Ax Y⟩:=by
  rw[slicePick_upto',NA (by simpa[Ax]using n)]
 refine H3 (lC w f c e0 e1 nw tk0 rs nr X.length X Y) id (Ai (Ai te6526402817431349631 f) c) (EL Y) [] l (by (first|lia|omega)) (by (first|lia|omega)) (G8 _ _ (FX (λ_ _ _=>DI (by simp[Ax]) (by (first|lia|omega))) (FW (λg _ _ _ _ _=>srt g) (FX (λ_ _ _=>H4 .none (.int _ _) .none (by (first|((repeat(first|exact .head _|apply List.mem_cons_of_mem));done)|simp)) (by have:=a.length_eq;simp[Ax];(first|lia|omega)) r) G7)))) (Bi _ _ (AA (λ_ _ _=>by rw[CD (by (first|lia|omega):(nw:Int)≥(X.length:Int))]) Bp)) S λi y z s1 t j _ k=> ?_;obtain rfl:t= .ret (.ref (i 2)):=k;exact h s1 (i 2) j
theorem KV{n p q:Nat}{X:List El}{a b:Nat→Nat}(e:n≤X.length):(DJ n p q X a b).map HE.e=X.take n:=by
 unfold DJ;rw[B0];apply Ho
 ·(first|((repeat(first|exact .head _|apply List.mem_cons_of_mem));done)|simp);(first|lia|omega)
 ·intro j d g
  simp at d;simp[List.getD,show j<X.length by (first|lia|omega)]
theorem nX(r:B.handled=none)(I:B.depth≤480)(uB:B.units≤2600)(F:X.length≤900)(J:2≤nw)(K:nw≤7)(t:nw≤X.length){h y o:Nat}{s:Ab}(S:An (kt w) s [(f,AQ w.2 e0 e1 nw tk0 rs [Ad w Cj y (.int h o)] 3),AJ rs X nr]){Q:Flow→Ab→Prop}{E:Value→Ab→Prop}
  (u: ∀C G H D a A,A.map HE.e=X.take nw→Ag (kt w) s C [(f,AQ w.2 e0 e1 nw tk0 rs [Ad w Cj y (.int h o)] 3),AJ rs X nr] ([(f,AQ w.2 e0 e1 nw tk0 rs (KR w.2 y o G H D a h) 5),AJ rs X nr,(D,liO rs nw),(a,li (Au A) nw)]++HL A)→Q .next C):
  wpAny (model pw w) B (execs [Cc 0,Cc 1] (Cm f c)) Q E s:=by
 have l:B.depth≤490:=by (first|lia|omega)
 have m:B.units≤2700:=by (first|lia|omega)
 have v: ∀n,n=nw→ ∀b:List Nat,Av w (Gu w.2 f (tk b 7) (tk b 5) (tk b 3) (tk b 4) (tk b 2) (tk b 0) rs (tk b 6) nr n X):=λn e _=>lU (by (first|lia|omega)) (by (first|lia|omega)) F;have:nw=2∨nw=3∨nw=4∨nw=5∨nw=6∨nw=7:=by (first|lia|omega)
 rcases this with rfl|rfl|rfl|rfl|rfl|rfl
 ·refine Bq (nB w f c e0 e1 tk0 rs nr h y o X) id (Ai (Ai te10118331618086869758 f) c) [] r l m (Az _ _ (Ah (λb _ _=>v 2 rfl b) Ay)) Ar S λi j z s1 k d _ g=> ?_
  obtain rfl:k= .next:=g;exact u s1 _ _ _ _ (DJ 2 8 5 X i j) (KV t) d
 ·refine Bq (nC w f c e0 e1 tk0 rs nr h y o X) id (Ai (Ai te10118331618086869758 f) c) [] r l m (Az _ _ (Ah (λb _ _=>v 3 rfl b) Ay)) Ar S λi j z s1 k d _ g=> ?_
  obtain rfl:k= .next:=g;exact u s1 _ _ _ _ (DJ 3 8 5 X i j) (KV t) d
 ·refine Bq (nD w f c e0 e1 tk0 rs nr h y o X) id (Ai (Ai te10118331618086869758 f) c) [] r l m (Az _ _ (Ah (λb _ _=>v 4 rfl b) Ay)) Ar S λi j z s1 k d _ g=> ?_
  obtain rfl:k= .next:=g;exact u s1 _ _ _ _ (DJ 4 8 5 X i j) (KV t) d
 ·refine Bq (nF w f c e0 e1 tk0 rs nr h y o X) id (Ai (Ai te10118331618086869758 f) c) [] r l m (Az _ _ (Ah (λb _ _=>v 5 rfl b) Ay)) Ar S λi j z s1 k d _ g=> ?_
  obtain rfl:k= .next:=g;exact u s1 _ _ _ _ (DJ 5 8 5 X i j) (KV t) d
 ·refine Bq (nG w f c e0 e1 tk0 rs nr h y o X) id (Ai (Ai te10118331618086869758 f) c) [] r l m (Az _ _ (Ah (λb _ _=>v 6 rfl b) Ay)) Ar S λi j z s1 k d _ g=> ?_
  obtain rfl:k= .next:=g;exact u s1 _ _ _ _ (DJ 6 8 5 X i j) (KV t) d
 ·refine Bq (nH w f c e0 e1 tk0 rs nr h y o X) id (Ai (Ai te10118331618086869758 f) c) [] r l m (Az _ _ (Ah (λb _ _=>v 7 rfl b) Ay)) Ar S λi j z s1 k d _ g=> ?_
  obtain rfl:k= .next:=g;exact u s1 _ _ _ _ (DJ 7 8 5 X i j) (KV t) d
theorem nZ(a:Env):exec BK a=(standAt (sP BK)>>=λ_=>((eval (Ex BK) a>>=λv=>foldedSetIterable (Ex BK) a v>>=λx=>standAt (Ex BK).pos>>=λ_=>holding [x] (pyIter x))>>=λv=>runOwn (.forLoop (sT BK) v (AO BK) (Dv BK) a) a)):=by
 rw[show exec BK a=exec (.For (sT BK) (Ex BK) (AO BK) (Dv BK) (sP BK)) a from Am (λb=>exec b a) nS,arm_exec_For];simp only[bind_assoc]
theorem oA{H:List HE}{φ:El→Nat}(h: ∀x∈H,∀y∈H,x≠y→gH φ x≠gH φ y)(j:H.Nodup): ∃S:List HE,H.Perm S∧S.Pairwise λa b=>gH φ b<gH φ a:=by
 refine⟨H.mergeSort λa b=>decide (gH φ b≤gH φ a),(List.mergeSort_perm _ _).symm,?_⟩;have k:=List.pairwise_mergeSort (le:=λa b=>decide (gH φ b≤gH φ a)) (λa b c e g=>by simp at*;(first|lia|omega)) (λa b=>by (first|((repeat(first|exact .head _|apply List.mem_cons_of_mem));done)|simp);(first|lia|omega)) H;have d:=List.mergeSort_perm H λa b=>decide (gH φ b≤gH φ a);have i:(H.mergeSort λa b=>decide (gH φ b≤gH φ a)).Nodup:=d.nodup_iff.mpr j;refine(List.Pairwise.and k i).imp_of_mem λ {a b} l m hz=> ?_;obtain⟨e,g⟩:=hz;have:=h a (d.mem_iff.mp l) b (d.mem_iff.mp m) g;simp at e;(first|lia|omega)
end
end
section
theorem oB{kt:KT}{s:Ab}{L:Ae}{Y:List El}(S:An kt s (L++EL Y)): ∀x∈Y,∀y∈Y,x≠y→x.T≠y.T:=by
 have g:=S.nd;rw[BC,Fm]at g;have d:=g.2.1;unfold EL at d;rw[B0,GC,GE]at d;exact λx i y j e=>O2 (R:=λa b:El=>a.T≠b.T) (λh=>Ne.symm h) d i j e
section
variable {w:Aa}{B:Al}{f c e0 e1 nw tk0 rs nr:Nat}{X Y:List El}{φ:El→Nat}
theorem oC(hB:B.handled=none)(dB:B.depth≤480)(uB:B.units≤2600)(U:X.Perm Y)(K:Ee Y φ)(h2:2≤nw)(h7:nw≤7)(hn:nw<X.length)(hx:X.length≤60){h y i:Nat}{s:Ab}(S:An (kt w) s ([(f,AQ w.2 e0 e1 nw tk0 rs [Ad w Cj y (.int h i)] 3),(rs,li (Ax X) nr)]++EL Y)){Q:Flow→Ab→Prop}{E:Value→Ab→Prop}
  (hQ: ∀s' D,Ag (kt w) s s' ([(f,AQ w.2 e0 e1 nw tk0 rs [Ad w Cj y (.int h i)] 3),(rs,li (Ax X) nr)]++EL Y) ([(rs,li (Ax X) nr),(D,li (Ax (Y.take nw)) nw)]++EL Y)→Q (.ret (.ref D)) s'):
  wpAny (model pw w) B (execs ([Cc 0,Cc 1]++([Cc 2,Cc 3,Cc 4,Cc 5,Cc 6]++(BK::[Cc 8,Cc 9]))) (Cm f c)) Q E s:=by
 classical
 have aa:B.depth≤490:=by (first|lia|omega)
 have ac:B.units≤2700:=by (first|lia|omega)
 have hT:=oB S;have hX:X.Nodup:=U.nodup_iff.mpr (K.down.imp λh e=>by rw[e]at h;exact Iq _ h);refine Hd (nX hB dB uB (by (first|lia|omega)) h2 h7 (by (first|lia|omega)) S.left λs1 l n d a V M N=> ?_);have C:V.length=nw:=by
  have:=Am Ir M;simp at this;(first|lia|omega)
 have ak:Dq φ X nw V:=by
  refine⟨λx hx=>M▸B7 hx,λu F aq x hx=> ?_,M▸hX.sublist (List.take_sublist _ _)⟩;rw[←M]at F;obtain⟨z,hz,e⟩:=List.mem_map.mp F;exact absurd e (aq z hz)
 have N:Ag (kt w) s s1 ([(f,AQ w.2 e0 e1 nw tk0 rs [Ad w Cj y (.int h i)] 3),(rs,li (Ax X) nr)]++EL Y) (([(f,AQ w.2 e0 e1 nw tk0 rs (KR w.2 y i l n d a h) 5),(rs,li (Ax X) nr),(d,liO rs nw),(a,li (Au V) nw)]++HL V)++EL Y):=N.frame S;dsimp only;obtain⟨H',z,W,qH⟩:=hO (gH φ) V (by (first|lia|omega));cases H' with
 |nil=>have:=W.length_eq;simp[C]at this;(first|lia|omega)
 |cons b o=>
 cases V with
 |nil=>simp at C;(first|lia|omega)
 |cons x T=>
 have ar:b∈x::T:=W.mem_iff.mp Bj;have pe:(HL (x::T)).Perm ((b.A,Bm b)::HL ((x::T).erase b)):=(List.perm_cons_erase ar).map _;have p1:(([(f,AQ w.2 e0 e1 nw tk0 rs (KR w.2 y i l n d a h) 5),(rs,li (Ax X) nr),(d,liO rs nw),(a,li (Au (x::T)) nw)]++HL (x::T))++EL Y).Perm ([(f,AQ w.2 e0 e1 nw tk0 rs (KR w.2 y i l n d a h) 5),(a,li (Au (x::T)) nw),(b.A,Bm b)]++((HL ((x::T).erase b)++EL Y)++[(rs,li (Ax X) nr),(d,liO rs nw)])):=by
  exact(AM [_,_] [_,_,_,_,_] [0,8,0,4,1,3,5,7,9,2,4] [0,2,9,2,1,3,5,7,0,1,4]).trans ((FD _ pe).trans (AM [_,_] [_,_,_,_,_] [0,2,1,2,3,5,7,9,0,1,4] [0,3,3,9,1,0,4,0,1,2,4,5,7]))
 have hf:EV ([(b.A,Bm b)]++((HL ((x::T).erase b)++EL Y)++[(rs,li (Ax X) nr),(d,liO rs nw)])) (x::T) (gH φ):=ak.hfact U K hT (λu F=>by
   by_cases e:u=b
   ·rw[e];exact Bj
   ·exact BG _ (Dk _ (Dk _ (O6 ((List.mem_erase_of_ne e).mpr F))))) λe he=>BG _ (Dk _ (BG _ (HZ he)))
 obtain⟨m,hm⟩: ∃m,nw=m+1:=⟨nw-1,by (first|lia|omega)⟩
 have au:(Au (x::T)).length=m+1:=by rw[BZ,C,hm]
 refine Hd (H3 (lW w f c e0 e1 nw tk0 rs a nw y i l n d h m x b T o) id (Ai (Ai te11464110794198561965 f) c) ((HL ((x::T).erase b)++EL Y)++[(rs,li (Ax X) nr),(d,liO rs nw)]) [] hB aa ac (G8 _ _ (FX (λ_ _ _=>UK au (by (first|lia|omega))) (FW (λ_ _ _ _ _ _=>iM (g:=gH φ) (by rw[C];exact h2) (by rw[C];(first|lia|omega)) z hf) (FX (λ_ _ _=>FB rfl (by decide)) G7)))) Ar (N.sat.perm p1) λα τ ω s2 fl j _ ad=> ?_);obtain rfl:fl= .next:=ad;generalize τ 3=G at j;generalize τ 5=I at j;generalize τ 6=J at j;generalize τ 4=t at j;have j:=(N.permR p1).trans j;have an:=ak.perm W;have aw:(HL (b::o)).Perm (HL (x::T)):=W.map _;have j:Ag (kt w) s s2 ([(f,AQ w.2 e0 e1 nw tk0 rs [Ad w Cj y (.int h i)] 3),(rs,li (Ax X) nr)]++EL Y) ([(f,BP w.2 e0 e1 nw tk0 rs a y i l n G I J d h b.e.T t (-(nw:Int)) [] 8),(d,liO rs nw),(rs,li (Ax X) nr),(a,li (Au (b::o)) nw)]++HL (b::o)++EL Y):=by
  have j:Ag (kt w) s s2 ([(f,AQ w.2 e0 e1 nw tk0 rs [Ad w Cj y (.int h i)] 3),(rs,li (Ax X) nr)]++EL Y) ([(f,BP w.2 e0 e1 nw tk0 rs a y i l n G I J d h b.e.T t (-(nw:Int)) [] 8),(a,li (Au (b::o)) nw),(b.A,Bm b)]++((HL ((x::T).erase b)++EL Y)++[(rs,li (Ax X) nr),(d,liO rs nw)])):=j;refine j.permR ?_;exact(AM [_,_] [_,_,_,_,_] [0,3,1,3,5,0,4,0,1,2,4,7,9] [0,2,5,2,1,3,0,1,4,7,9]).trans ((FD _ pe.symm).trans ((AM [_,_] [_,_,_,_,_] [0,2,1,2,3,5,0,1,4,7,9] [0,2,1,2,3,5,0,1,4,7,9]).trans ((FD _ aw.symm).trans (AM [_,_] [_,_,_,_,_] [0,2,1,2,3,5,0,1,4,7,9] [0,8,0,4,3,9,7,5,1,2,4]))))
 dsimp only;refine CX ?_;rw[nZ];refine Af (Du (Af ?_));have p3:([(f,BP w.2 e0 e1 nw tk0 rs a y i l n G I J d h b.e.T t (-(nw:Int)) [] 8),(d,liO rs nw),(rs,li (Ax X) nr),(a,li (Au (b::o)) nw)]++HL (b::o)++EL Y).Perm ([(f,BP w.2 e0 e1 nw tk0 rs a y i l n G I J d h b.e.T t (-(nw:Int)) [] 8),(d,liO rs nw)]++([(rs,li (Ax X) nr),(a,li (Au (b::o)) nw)]++HL (b::o)++EL Y)):=AX _;refine Bq (lZ w f c e0 e1 nw tk0 rs a y i l n G I J b.e.T t d h (-(nw:Int)) nw) Flow.ret (Ai (Ai te7750963653130012630 f) c) [] hB aa ac AR Ar (j.sat.perm p3).left λα τ ω s3 v O _ hv=> ?_;obtain rfl:v= .ref d:=CZ hv;have O:Ag (kt w) s s3 ([(f,AQ w.2 e0 e1 nw tk0 rs [Ad w Cj y (.int h i)] 3),(rs,li (Ax X) nr)]++EL Y) ([(f,BP w.2 e0 e1 nw tk0 rs a y i l n G I J d h b.e.T t (-(nw:Int)) [] 8),(d,liO rs nw),(rs,li (Ax X) nr),(a,li (Au (b::o)) nw)]++HL (b::o)++EL Y):=j.trans (Ag.part ([(rs,li (Ax X) nr),(a,li (Au (b::o)) nw)]++HL (b::o)++EL Y) j.sat p3.symm O);have ax:o.length≤900:=by have:=W.length_eq;simp at this C;(first|lia|omega)
 refine wpAny_runOwn (B5 (mV (A:=B.mark none) (kk:=nw) (f:=f) (c:=c) (e0:=e0) (e1:=e1) (nw:=nw) (tk0:=tk0) (rs:=rs) (a:=a) (y:=y) (y2:=i) (y3:=l) (y4:=n) (y5:=G) (y6:=I) (y7:=J) (it:=d) (h:=h) (nr:=nr) hB (AC dB (by decide)) (AC uB (by decide)) U K hT hX (by (first|lia|omega)) (X.length-nw) nw (by (first|lia|omega)) t (-(nw:Int)) 8 [] b o .a qH an ax s3 O.sat) λr s4 hz=> ?_);obtain⟨L',ts,⟨h1,ba,t2,o2,m2,x2,k,L,oi,h3,h4,h5⟩,ae,ri⟩:=hz;subst h1 h5;dsimp only;have ae:=O.trans ae;have al: ∀u∈k::L,u.e∈Y:=λu F=>U.mem_iff.mp (Hm (h3.sub u F));have ay:(k::L).Nodup:=by
  have:=h3.nd;rw[GC,GE]at this;rw[GC];exact this.imp λh e=>h (by rw[e])
 obtain⟨Z,pZ,dZ⟩:=oA (φ:=φ) (H:=k::L) (λu F v hv e=>K.ne (al u F) (al v hv) (h3.ne F hv e)) ay;have ai:=h3.perm pZ.symm;have zl:Z.length=nw:=by
  have a1:=pZ.length_eq;have a2:=W.length_eq;simp at a1 a2 C;(first|lia|omega)
 have ao:=ai.best U K dZ;have az:(HL (k::L)).Perm (HL Z):=pZ.map _;have a9:EV ([]++(HL Z++EL Y)) Z (gH φ):=ai.hfact U K hT (λu F=>BG _ (Dk _ (O6 F))) λe he=>BG _ (BG _ (HZ he));have p5:([(f,BP w.2 e0 e1 nw tk0 rs a y i l n G I J d h k.e.T t2 o2 x2 m2),(d,oi),(rs,li (Ax X) nr),(a,li (Au (k::L)) nw)]++HL (k::L)++EL Y).Perm ([(f,BP w.2 e0 e1 nw tk0 rs a y i l n G I J d h k.e.T t2 o2 x2 m2),(a,li (Au (k::L)) nw)]++(HL Z++EL Y)++[(d,oi),(rs,li (Ax X) nr)]):=by
  exact(AM [_,_] [_,_,_,_,_] [0,8,0,4,1,3,5,7,9,2,4] [0,2,9,2,1,3,5,7,0,1,4]).trans ((FD _ az).trans (AM [_,_] [_,_,_,_] [0,1,2,1,3,5,7,0,1,4] [0,8,0,2,1,7,0,1,2,4,3,5]))
 have aj:=ae.permR p5;have bb:(k::L).length=nw:=by rw[pZ.length_eq,zl]
 refine H3 (nJ w f c e0 e1 nw tk0 rs a y i l n G I J k.e.T t2 d h o2 nw m2 x2 (k::L) Z) id (Ai (Ai te783827001865659065 f) c) (HL Z++EL Y) [] hB aa ac (G8 _ _ (FW (λ_ _ _ _ _ _=>iT (P:=[]) (g:=gH φ) pZ dZ a9 (by (first|lia|omega)) (by (first|lia|omega))) (FW (λ_ _ _ _ _ _=>(nA (by (first|lia|omega)) (by (first|lia|omega))).left) G7))) Ar aj.sat.left λα τ ω s5 fl am _ ad=> ?_;obtain rfl:fl= .ret (.ref (α 1)):=ad;refine hQ s5 (α 1) ?_;generalize α 1=D at am;have R:=aj.trans (Ag.part [(d,oi),(rs,li (Ax X) nr)] aj.sat (AX _) am);rw[ao,zl]at R;have R:Ag (kt w) s s5 ([(f,AQ w.2 e0 e1 nw tk0 rs [Ad w Cj y (.int h i)] 3),(rs,li (Ax X) nr)]++EL Y) (([(D,li (Ax (Y.take nw)) nw)]++(HL Z++EL Y))++[(d,oi),(rs,li (Ax X) nr)]):=R;refine(R.permR (L'':=([(rs,li (Ax X) nr),(D,li (Ax (Y.take nw)) nw)]++EL Y)++((d,oi)::HL Z)) ?_).subs (EY _ _);exact AM [_,_] [_,_,_] [0,7,0,1,1,0,1,2,4,3,5] [0,5,0,2,5,1,4,3,2]
end
end
noncomputable def KW(b e g i:Nat)(X Y:List El):Ak:=
 {d:=470,u:=2500,h:=none,c:=.call (.ref 280) ⟨[.int g i,.ref b],[]⟩,idx:=[],pre:=[AJ b X e],na:=1,nt:=0,no:=1,r:=λa _=>.ok (.ret (.ref (a.getD 0 0))),outs:=λ_ _ _=>[li (Ax X) e],news:=λ_ _ o=>[li (Ax (Y.take g)) (Ao o 0)]}
theorem oD: ∀{Y:List El} (h:0<Y.length),Ax (Y.take 1)=[.ref Y[0].T]
 |_::_,_=>rfl
theorem oE{w:Aa}{d nr g tk0:Nat}{X Y:List El}{Q:El→Nat}(v:X.Perm Y)(K:Ee Y Q)(h1:1≤g)(h0:0<X.length)(hx:X.length≤8):Cb w (EL Y) (KW d nr g tk0 X Y):=by
 refine Ba.extH λA hd hu hh=> ?_;refine ER (iV w d g tk0) ([AJ d X nr]++EL Y) (by exact AX _) [] hh hd hu AR Ar λE t R=>⟨_,AX _,λs S=> ?_⟩
 generalize E 0=f at S⊢;generalize E 1=c at S⊢;generalize t 0=i at S;generalize t 1=l at S;have S:An (kt w) s ([(f,AQ w.2 i l g tk0 d [] 2),(c,Cn)]++([AJ d X nr]++EL Y)):=S;have p0:([(f,AQ w.2 i l g tk0 d [] 2),(c,Cn)]++([AJ d X nr]++EL Y)).Perm ([(f,AQ w.2 i l g tk0 d [] 2),AJ d X nr,(c,Cn)]++EL Y):=(List.Perm.swap _ _ _).cons _;refine Rd λB u F uB E'=> ?_;have u:B.handled=none:=u.trans hh;have F:B.depth≤480:=AC F (AC (CC hd 1) (by refine (?_:470+1≤480);(first|lia|omega)));have uB:B.units≤2600:=AC uB (AC (CC hu 3) (by refine (?_:2500+3≤2600);(first|lia|omega)));have G:B.depth≤490:=by (first|lia|omega)
 have H:B.units≤2700:=by (first|lia|omega)
 have z: ∀(N:Ab) (D k:Nat),Ag (kt w) s N ([(f,AQ w.2 i l g tk0 d [] 2),(c,Cn)]++([AJ d X nr]++EL Y)) ([AJ d X nr,(D,li (Ax (Y.take g)) k)]++EL Y)→
   B6 λP I=>(B6 λa o=>a.length=1∧(List.map t []++I).length=0∧o.length=1∧(Except.ok (Flow.ret (.ref D)):Result)=(KW d nr g tk0 X Y).rx o ((KW d nr g tk0 X Y).r a (List.map t []++I))∧P=(Bk (KW d nr g tk0 X Y).pre ((KW d nr g tk0 X Y).outs a (List.map t []++I) o)++BI a ((KW d nr g tk0 X Y).news a (List.map t []++I) o))++EL Y)∧Ag (kt w) s N ([(f,AQ w.2 i l g tk0 d [] 2),(c,Cn)]++([AJ d X nr]++EL Y)) P∧AY s.toks N.toks I:=λN D k st=>
  ⟨_,[],⟨[D],[Ac k],rfl,rfl,rfl,rfl,rfl⟩,st,st.toks⟩
 rw[nN];refine CX ?_;rw[nO,exec_If];refine Af (Du (Af ?_));have W0:decide ((g:Int)=1)=decide (g=1):=by
  by_cases q:g=1
  ·subst q;rfl
  ·rw[BH q,BH (by (first|lia|omega))]
 have S1:=S.perm p0;refine Bq (iW w f c i l g tk0 d (decide (g=1))) (λb:Bool=>Flow.ret (.bool b)) (Ai (Ai te11701523766201414514 f) c) [] u G H AR (Bi _ _ (AA (λ_ _ _=>by rw[W0]) Bp)) (S1.part ([AJ d X nr,(c,Cn)]++EL Y) (La:=[(f,AQ w.2 i l g tk0 d [] 2)]) (AX _)) λE t R s1 b n _ U=> ?_;obtain rfl:b=decide (g=1):=by
  have:=CZ U;injection this
 have n:Ag (kt w) s s1 ([(f,AQ w.2 i l g tk0 d [] 2),(c,Cn)]++([AJ d X nr]++EL Y)) ([(f,AQ w.2 i l g tk0 d [] 2),AJ d X nr,(c,Cn)]++EL Y):=(Ag.part ([AJ d X nr,(c,Cn)]++EL Y) S1 (La:=[(f,AQ w.2 i l g tk0 d [] 2)]) (AX _) n).permL p0.symm
 by_cases V:g=1
 ·rw[AS (by simp[V])]
  have J:0<Y.length:=by rw[←v.length_eq];exact h0
  have hm:Y[0]∈X:=v.mem_iff.mpr (Db J);have W: ∀y∈X,y≠Y[0]→Cs Y[0] y=true∧Cs y Y[0]=false:=λy hy ne=>by
   have Z:=v.mem_iff.mp hy;obtain⟨j,hj,rfl⟩:=Ga Z;have j0:0<j:=by
    rcases Nat.eq_zero_or_pos j with rfl|h
    ·exact absurd rfl ne
    ·exact h
   have O:Q Y[j]<Q Y[0]:=List.pairwise_iff_getElem.mp K.down 0 j J hj j0;rw[K.gt Y[j] Z Y[0] (Db J) (CS O),K.gt Y[0] (Db J) Y[j] Z (EZ O)];exact⟨CD O,BH (Nat.not_lt.mpr (Bw O))⟩
  refine nV u F uB hm v K W n.sat λs2 D m=> ?_;have e:Ax (Y.take g)=[.ref Y[0].T]:=V.symm▸oD J;refine z s2 D 0 ?_;rw[e];exact n.trans m
 ·rw[AI (by simpa using V)]
  refine (?_:wpAny _ _ (pure Flow.next) _ _ _);refine Ap ?_;dsimp only;refine CX ?_
  by_cases q2:X.length≤g
  ·refine nW u F uB v K q2 h0 (by (first|lia|omega)) n.sat λs2 D m=> ?_
   refine z s2 D 0 ?_;rw[NA (by rw[←v.length_eq];exact q2)];exact n.trans m
  ·have p2:([(f,AQ w.2 i l g tk0 d [] 2),AJ d X nr,(c,Cn)]++EL Y).Perm ([(f,AQ w.2 i l g tk0 d [] 2),AJ d X nr]++((c,Cn)::EL Y)):=AX _
   refine Bq (lD w f c i l g tk0 d nr X.length X) id (Ai (Ai te6526402817431349631 f) c) [] u G H (Az _ _ (Ah (λ_ _ _=>DI (by simp[Ax]) (by (first|lia|omega))) Ay)) (Bi _ _ (AA (λ_ _ _=>by rw[BH (by (first|lia|omega))]) Bp)) (n.sat.perm p2).left λE t R s2 fl m _ aa=> ?_;obtain rfl:fl= .next:=aa;have m:=n.trans (Ag.part ((c,Cn)::EL Y) n.sat p2.symm m);generalize t 0=C at m;generalize t 1=y at m;dsimp only;have p3:([(f,AQ w.2 i l g tk0 d [Ad w Cj y (.int X.length C)] 3),AJ d X nr]++((c,Cn)::EL Y)).Perm ([(f,AQ w.2 i l g tk0 d [Ad w Cj y (.int X.length C)] 3),(c,Cn)]++([AJ d X nr]++EL Y)):=(List.Perm.swap _ _ _).cons _;have m:Ag (kt w) s s2 ([(f,AQ w.2 i l g tk0 d [] 2),(c,Cn)]++([AJ d X nr]++EL Y)) ([(f,AQ w.2 i l g tk0 d [Ad w Cj y (.int X.length C)] 3),(c,Cn)]++([AJ d X nr]++EL Y)):=m.permR p3;refine CX ?_;rw[nP,exec_If];refine Af (Du (Af ?_));refine Bq (lE w f c i l g tk0 d X.length y C) (λb:Bool=>Flow.ret (.bool b)) (Ai (Ai te16562333448351188041 f) c) [] u G H AR Ar m.sat.left λE t R s3 b L _ U=> ?_;obtain rfl:b=true:=by
    have:=CZ U;injection this
   have L:=m.trans (L.frame m.sat);rw[AS rfl];have p4:([(f,AQ w.2 i l g tk0 d [Ad w Cj y (.int X.length C)] 3),(c,Cn)]++([AJ d X nr]++EL Y)).Perm (([(f,AQ w.2 i l g tk0 d [Ad w Cj y (.int X.length C)] 3),AJ d X nr]++EL Y)++[(c,Cn)]):=by
    exact AM [_] [_,_,_] [0,2,1,3,0,1,5,2] [0,5,0,2,1,5,2,3]
   have M:=L.permR p4;refine oC u F uB v K (by (first|lia|omega)) (by (first|lia|omega)) (by (first|lia|omega)) (by (first|lia|omega)) M.sat.left λs4 D ac=> ?_;have ad:=M.trans (Ag.part [(c,Cn)] M.sat (AX _) ac);exact z s4 D g (ad.subs (EY _ _))
theorem RF{c:Nat}: ∀{a:List Nat} {b:Nat},AY b c a→ ∀{k:Nat},k<a.length→b≤a.getD k 0
 |[],_,_,_,h=>nomatch h
 |_::_,_,r,0,_=>r.1
 |_::_,_,r,_+1,h=>AC (Ip r.1) (RF r.2 (Lg h))
theorem I3{c:Nat}: ∀{a:List Nat} {b:Nat},AY b c a→ ∀{i j:Nat},i<j→j<a.length→b≤a.getD i 0∧a.getD i 0<a.getD j 0
 |[],_,_,_,_,_,h=>nomatch h
 |_::_,_,_,_,0,h,_=>nomatch h
 |_::_,_,r,0,_+1,_,h=>⟨r.1,RF r.2 (Lg h)⟩
 |_::_,_,r,_+1,_+1,g,h=>
  have e:=I3 r.2 (Lg g) (Lg h)
  ⟨AC (Ip r.1) e.1,e.2⟩
theorem oF{Y:List El}(l:Y.Pairwise C3)(k:Y.Pairwise λa b=>Cs a b=true∧Cs b a=false): ∃o,Ee Y o:=by
 classical
 have r:Y.Nodup:=l.imp λh e=>h.ft (by rw[e]);have g: ∀i (c:i<Y.length),Y.idxOf Y[i]=i:=λi c=>r.idxOf_getElem i c;refine⟨λe=>Y.length-Y.idxOf e,l,?_,λx s y t m=> ?_⟩
 ·rw[F9]
  intro i j c d n;rw[g i c,g j d];exact Jd c n
 ·obtain⟨i,c,rfl⟩:=Ga s
  obtain⟨j,d,rfl⟩:=Ga t;rw[g i c,g j d]at m⊢;rw[F9]at k;rcases Jf i j with h|h|h
  ·rw[(k i j c d h).2,BH (Jj (Nat.sub_le_sub_left (Bw h) _))]
  ·subst h;exact absurd rfl m
  ·rw[(k j i d c h).1,CD (Jd d h)]
noncomputable def O7(b:Bool)(e g i j:Nat)(X Y:List El):Ak:=
 {d:=470,u:=2500,h:=none,c:=.call (.ref 280) ⟨[.int i j,.ref e],[]⟩,idx:=[],pre:=(match b with|true=>[]|false=>[(0,li [] 0),(0,li [] 0)])++((AJ e X g)::EL Y),na:=1,nt:=0,no:=1,r:=λa _=>.ok (.ret (.ref (a.getD 0 0))),outs:=λ_ _ _=>(match b with|true=>[]|false=>[li [] 0,li [] 0])++(li (Ax X) g::(EL Y).map (·.2)),news:=λ_ _ o=>[li (Ax (Y.take i)) (Ao o 0)]}
theorem oG{w:Aa}{h:Bool}{d c g e:Nat}{X Y:List El}(u:X.Perm Y)(v:1≤g)(y:0<X.length)(z:X.length≤8)(B:h=true→Y.Pairwise C3)(C:Y.Pairwise λa b=>Cs a b=true∧Cs b a=false):Av w (O7 h d c g e X Y):=by
 cases h with
 |false=>
  intro A j k l s S _;have m:=S.nd;have:((O7 false d c g e X Y).pre.map (·.1))=0::0::d::(EL Y).map (·.1):=rfl;rw[this]at m;exact absurd Bj (List.nodup_cons.mp m).1
 |true=>
  obtain⟨J,K⟩:=oF (B rfl) C;intro A j k l s S G;have S:An (kt w) s ([AJ d X c]++EL Y):=S;refine B5 (oE (w:=w) (nr:=c) (tk0:=e) u K v y z A j k l s S trivial) ?_;rintro r n ⟨a,t,o,D,E,F,H,i,I⟩;refine⟨a,t,o,D,E,F,H,?_,I⟩;have i:Ag (kt w) s n [AJ d X c] ([AJ d X c]++BI a [li (Ax (Y.take g)) (Ao o 0)]):=i;refine (?_:Ag (kt w) s n ([AJ d X c]++EL Y) (((AJ d X c)::Bk (EL Y) ((EL Y).map (·.2)))++BI a [li (Ax (Y.take g)) (Ao o 0)]));rw[KO];refine(i.frame S).permR ?_;exact AM [_,_] [_] [0,4,0,1,1,2,4] [0,2,1,4,2]
noncomputable abbrev RG:Expr:=sT (AF (AO (DY 10)).reverse 0)
noncomputable abbrev WE(f a:Nat):Env:={scope:={Fp RG with names:=[(Hy,.local),(ID,.local),(Gj,.local)]},locals:=a,globals:=3,cells:=[],qual:=⟨⟨[103,101,116,95,99,108,111,115,101,95,109,97,116,99,104,101,115,46,60,108,111,99,97,108,115,62,46]⟩⟩,func:=none,code:=.ref 285,frame:=some f,builtins:=0}
noncomputable abbrev MR(f b c a:Nat):Code:=.compLoop RG 0 (.ref c) (.ref a) (WE f b)
noncomputable abbrev WF(P:Aj)(a c:Nat)(d e:Value)(b:Bool):Obj:=di (cond b [Aq P ID a d,Aq P Gj c e] []) (cond b 2 0)
theorem oH(w:Aa)(f g d c a i n k T h e o r:Nat)(s t:Value)(u:UInt64)(s1:Str)(j l:List Value)(b:Bool):
  AD w 73 (MR f g d c) ([(d,liO a i),(a,li j n),(c,li l k),(g,WF w.2 o r s t b),(T,tu [.float u h,.str s1 e] 0)]) (dg 9 0x2c2bd545110019fe339236ff1167ed) (AB [(0,[0,1]),(4,[2])] ([λv y z=>CW d a i j n (.ref T),λv y z=>Ck c l k (.str s1 e)])) [] 0 500 2800 (.range 5)
   (λA m B=>.again (MR f g d c)) (λA m B=>[(d,liO a (i+1)),(a,li j n),(c,li (l++[.str s1 e]) (k+1)),(g,di [Ad w ID (cond b o (m 0)) (.float u h),Ad w Gj (cond b r (m 1)) (.str s1 e)] 2),(T,tu [.float u h,.str s1 e] 0)]) 2:=by
 cases b <;> kernel_rfl
theorem oI(w:Aa)(f e b d a i n:Nat)(c:List Value):
  AD w 10 (MR f e b d) (FP b a i c n) [1,4] (IZ b a i c n) [] 0 500 2800 [0,1]
   (λg h j=>.done .next) (λg h j=>(I0 b i a c n)) 0:=by
 kernel_rfl
noncomputable abbrev DR(S:List El):List Value:=S.map λe=>Value.str e.s e.st
inductive He (P:Aj) (S:List El):Nat→Obj→Prop
 |a:He P S 0 (di [] 0)
 |b (i y0 y1:Nat):He P S (i+1) (di [Aq P ID y0 (.float (Bl (S.getD i hz.e).c) (S.getD i hz.e).ft),Aq P Gj y1 (.str (S.getD i hz.e).s (S.getD i hz.e).st)] 2)
theorem He.shape{P:Aj}{S:List El}{i:Nat}{d:Obj}(h:He P S i d):Ly λc e g j b=>d=WF P c e g j b:=by
 cases h with
 |a=>exact⟨0,0,.none,.none,false,rfl⟩
 |b i c e=>exact⟨c,e,_,_,true,rfl⟩
theorem oJ{w:Aa}{A:Al}(u:A.handled=none)(v:A.depth≤500)(y:A.units≤2800){f cl it acc a n:Nat}{S:List El}(hS:S.length≤900): ∀(k i:Nat),i+k=S.length→ ∀(d:Obj),He w.2 S i d→
  RunsW w A (MR f cl it acc) ([(it,liO a i),AJ a S n,(acc,li (DR (S.take i)) i),(cl,d)]++EL S)
   λr g e=>r= .ok .next∧e=[]∧ ∃j,He w.2 S S.length j∧g=[(it,fi Bo [.none,.int (S.length:Int) 0]),AJ a S n,(acc,li (DR S) S.length),(cl,j)]++EL S:=by
 intro k
 induction k with
 |zero=>
  intro i C d t;obtain rfl:i=S.length:=by (first|lia|omega)
  rw[Lo];refine FN ([(acc,li (DR S) S.length),(cl,d)]++EL S) (L1:=[(it,liO a S.length),AJ a S n]) (AX _) (Φ:=λr g e=>e=[]∧r= .ok .next∧g=[(it,fi Bo [.none,.int (S.length:Int) 0]),AJ a S n]) ?_ λr g e ⟨D,h1,h2⟩=>⟨_,by rw[h2];exact AX _,h1,D,d,t,rfl⟩
  exact Bc (oI w f cl it acc a S.length n (Ax S)) [] u v y (Az _ _ (Ah (λ_ _ _=>HK (by simp[Ax])) Ay)) Ar λE F G=>⟨rfl,rfl,rfl⟩
 |succ k H=>
  intro i C d t;have o:i<S.length:=by (first|lia|omega)
  have I:(Ax S)[i]? =some (.ref S[i].T):=by simp[Ax,o]
  have J:(DR (S.take i)).length≤1000:=by simp[DR];(first|lia|omega)
  have K:DR (S.take i)++[.str S[i].s S[i].st]=DR (S.take (i+1)):=by
   rw[Jg,Eu o];unfold DR;rw[BC];rfl
  have X:DF w [λL e M=>CW it a i (Ax S) n (.ref S[i].T),λL e M=>Ck acc (DR (S.take i)) i (.str S[i].s S[i].st)]:=Ah (λ_ _ _=>G2 I) (Ah (λ_ _ _=>EB J) Ay);have z: ∀o1 o2 o3 o4:Obj,([(it,o1),(a,o2),(acc,o3),(cl,o4),(S[i].T,BO S[i])]++EL (S.eraseIdx i)).Perm ([(it,o1),(a,o2),(acc,o3),(cl,o4)]++EL S):=λo1 o2 o3 o4=>by
   have N:(EL S).Perm ((S[i].T,BO S[i])::EL (S.eraseIdx i)):=by
    have:=(MP S i o).symm.map λh:El=>(h.T,BO h)
    exact this
   exact(AM [_] [_,_,_,_,_] [0,5,1,3,5,7,9,2] [0,2,9,2,1,3,5,7]).trans ((FD _ N.symm).trans (AM [_] [_,_,_,_] [0,1,2,1,3,5,7] [0,4,1,3,5,7,2]))
  have fin: ∀{o4:Obj},He w.2 S (i+1) o4→ ∃B,([(it,liO a (i+1)),AJ a S n,(acc,li (DR (S.take i)++[.str S[i].s S[i].st]) (i+1)),(cl,o4),(S[i].T,BO S[i])]++EL (S.eraseIdx i)).Perm B∧
    RunsW w A (MR f cl it acc) B λr g e=>r= .ok .next∧[]++e=[]∧ ∃j,He w.2 S S.length j∧g=[(it,fi Bo [.none,.int (S.length:Int) 0]),AJ a S n,(acc,li (DR S) S.length),(cl,j)]++EL S:=λ {o4} O=>by
   refine⟨_,z _ _ _ _,?_⟩;rw[K];exact H (i+1) (by (first|lia|omega)) _ O
  have Q:S.getD i hz.e=S[i]:=by simp[List.getD,o]
  have R: ∀l m,He w.2 S (i+1) (di [Ad w ID l (.float (Bl S[i].c) S[i].ft),Ad w Gj m (.str S[i].s S[i].st)] 2):=λl m=>by
   have:=He.b (P:=w.2) (S:=S) i l m;rwa[Q]at this
  obtain⟨l,m,U,V,b,rfl⟩:=t.shape;exact ER (oH w f cl it acc a i n i S[i].T S[i].ft S[i].st l m U V (Bl S[i].c) S[i].s (Ax S) (DR (S.take i)) b) (EL (S.eraseIdx i)) (z _ _ _ _) [] u v y (Az _ _ X) Ar λE F G=>fin (R _ _)
noncomputable def MS(P:Aj)(f g i e a n b:Nat)(Y:List El):Ak:=
 {d:=500,u:=2800,h:=none,c:=.compStart RG 0 (.ref i) (.ref e) (WE f g),idx:=[],pre:=[(i,liO a 0),(a,li (Ax (Y.take b)) n),(e,li [] 0),(g,di [] 0)]++EL Y,na:=0,nt:=0,no:=4,r:=λ_ _=>.ok .next,
  outs:=λ_ _ o=>[o.getD 2 default,li (Ax (Y.take b)) n,li (DR (Y.take b)) (Ao o 3),di [Aq P ID (Ao o 0) (.float (Bl ((Y.take b).getD ((Y.take b).length-1) hz.e).c) ((Y.take b).getD ((Y.take b).length-1) hz.e).ft),Aq P Gj (Ao o 1) (.str ((Y.take b).getD ((Y.take b).length-1) hz.e).s ((Y.take b).getD ((Y.take b).length-1) hz.e).st)] 2]++(EL Y).map (·.2),news:=λ_ _ _=>[]}
theorem oK{w:Aa}{f g j d a n e:Nat}{Y:List El}(K:0<Y.length)(u:1≤e)(hS:Y.length≤900):Av w (MS w.2 f g j d a n e Y):=by
 generalize k:Y.take e=S;have L:0<S.length:=by rw[←k,NJ];(first|lia|omega)
 have v:S.length≤900:=by rw[←k,NJ];(first|lia|omega)
 have y:EL Y=EL S++EL (Y.drop e):=by
  rw[←k];unfold EL;rw[←BC,NC]
 refine Ba.ext λA B C D=> ?_;refine IA 1 (o:=liO a 0) ?_ (by simp[MS]) (by kernel_rfl) (by kernel_rfl);have l:(MS w.2 f g j d a n e Y).pre=([(j,liO a 0),AJ a S n,(d,li (DR (S.take 0)) 0),(g,di [] 0)]++EL S)++EL (Y.drop e):=by
  show[(j,liO a 0),(a,li (Ax (Y.take e)) n),(d,li [] 0),(g,di [] 0)]++EL Y=_;rw[k,y];rfl
 rw[l];refine Md (Ba.mono (oJ (f:=f) (cl:=g) (it:=j) (acc:=d) (a:=a) (n:=n) D B C v S.length 0 (by (first|lia|omega)) (di [] 0) .a) λr E F h=>h) λr E F hz=> ?_;obtain⟨u,G,H,z,I⟩:=hz;subst G;obtain⟨m,t,rfl⟩:B6 λm t=>H=di [Ad w ID m (.float (Bl (S.getD (S.length-1) hz.e).c) (S.getD (S.length-1) hz.e).ft),Ad w Gj t (.str (S.getD (S.length-1) hz.e).s (S.getD (S.length-1) hz.e).st)] 2:=by
  generalize M:S.length=q at z;cases z with
  |a=>(first|lia|omega)
  |b i m t=>exact⟨m,t,by rw[NE]⟩
 refine⟨[],[Ac m,Ac t,fi Bo [.none,.int (S.length:Int) 0],Ac S.length],rfl,rfl,rfl,u,?_⟩;subst I;have J: ∀o,(MS w.2 f g j d a n e Y).outs [] [] o=[o.getD 2 default,li (Ax S) n,li (DR S) (Ao o 3),di [Ad w ID (Ao o 0) (.float (Bl (S.getD (S.length-1) hz.e).c) (S.getD (S.length-1) hz.e).ft),Ad w Gj (Ao o 1) (.str (S.getD (S.length-1) hz.e).s (S.getD (S.length-1) hz.e).st)] 2]++(EL Y).map (·.2):=λo=>by
  show[o.getD 2 default,li (Ax (Y.take e)) n,li (DR (Y.take e)) (Ao o 3),_]++_=_;simp only[k]
 rw[J,←l];refine (?_:_=((j,_)::(a,_)::(d,_)::(g,_)::Bk (EL Y) ((EL Y).map (·.2)))++[]);rw[KO,BR,y];rfl
section
noncomputable def RH(A:Nat→Nat→Nat)(ct b hh:Nat→Nat)(a c:List Nat)(ip:Nat→Nat)(k:Nat):El:=⟨a.getD k 0,cnt (A (hh k)) b 8,c.getD (ip k) 0,sf (A (hh k)),ct (hh k)⟩
noncomputable def Ia(h:Nat)(A:Nat→Nat→Nat)(ct b hh:Nat→Nat)(a c:List Nat)(ip:Nat→Nat):List El:=(List.range h).map (RH A ct b hh a c ip)
noncomputable def MT(h:Nat)(A:Nat→Nat→Nat)(ct b hh pos:Nat→Nat)(a c:List Nat)(ip:Nat→Nat):List El:=(List.range h).map λj=>RH A ct b hh a c ip (pos j)
section
variable (w:Aa)(cl n nw t tk0:Nat)(A:Nat→Nat→Nat)(ct b hh pos ip:Nat→Nat)(h:Nat)
noncomputable def oL:List (List Nat→List Nat→List Obj→Ak):=[λa c d=>VU w.2,λa c d=>VT w.2 (tk a 2) (tk a 3) (tk a 4) (tk a 5) (tk a 6) t 540 (λi=>tk c (9+i)) b ⟨⟨[]⟩⟩ (.str ⟨⟨[]⟩⟩ 539) .none .none,λa c d=>Rl w ⟨tk a 0,tk a 17,cl,n,tk a 2,tk a 3,tk a 8,tk a 7,Ao d 0,t,nw,tk0,tk a 1,λi=>[tk c 0,tk c 1,tk c 2,tk c 3,tk c 8,tk c 19].getD i 0,λi=>tk c (9+i),b,λi=>Ao d (1+i),λi=>tk a (9+i),λi=>Ao d (9+i),Ca A ct 16⟩ A ct 16 hh pos ip h,λa c d=>O7 (Nat.ble (20+h) c.length) (tk a 1) (Ao d 21) nw tk0 (MT h A ct b hh pos ((a.drop 18).take h) ((c.drop 20).take h) ip) (Ia h A ct b hh ((a.drop 18).take h) ((c.drop 20).take h) ip),λa c d=>MS w.2 (tk a 0) (tk a (21+h)) (tk a (19+h)) (tk a (20+h)) (tk a (18+h)) (Ao d 22) nw (Ia h A ct b hh ((a.drop 18).take h) ((c.drop 20).take h) ip)]
noncomputable abbrev oM:Prop:=AD w 164 (.call (.ref 286) ⟨[.str (sf b) t,.ref cl,.int nw tk0],[]⟩) [(cl,li (Ca A ct 16) n),(248,AP [])] ([0,0,0,0,3,3,0,3,3,0,3,3,0,3,3,0,1,3,1,3,1,1,0,3,3,0,0,0,0,3,3,3,5,0,0,0,5,0,0,0,5,0,0,0,0,5,6,3,0,3,1,1,1,1,20,0,3,3,0,0,3,3,3]++[21+h,21+h,1,21+h,22+h]++Cd 6 (24+h)) (AB [(3,[]),(0,[4,5]),(1,[2,19,0,4,5,9,10,11,12,13,14,15,16,17,18,1,3]),(0,3::List.range' 20 h),(1,[21+h,20+h,22+h,23+h]++List.range' 20 h)] (oL w cl n nw t tk0 A ct b hh pos ip h)) (Bh [0] [λe g i=>(.bool (decide ((nw:Int)> 0)),.bool true)]) 1 460 2400 [0,1,22+h]
   (λa d c=>.done (.ret (.ref (a (20+h))))) (λa d c=>[(cl,li (Ca A ct 16) n),(248,AP (MG (c 20))),(a (20+h),li (DR ((Ia h A ct b hh ((List.range' 18 h).map a) ((List.range' 20 h).map d) ip).take nw)) (BQ (c 26)))]) (21+h)
end
theorem oN{w:Aa}{cl n nw t tk0:Nat}{A:Nat→Nat→Nat}{ct b hh pos ip:Nat→Nat}{h:Nat}(e:h=1∨h=4∨h=8):oM w cl n nw t tk0 A ct b hh pos ip h:=by
 rcases e with rfl|rfl|rfl <;> kernel_rfl
end
noncomputable def KY(c1:Nat)(s1:Str)(a:Nat)(s2:Str):Bool:=decide (a<c1)||(c1==a&&decide (s2.cps.toList<s1.cps.toList))
structure RI(A:Nat→Nat→Nat)(b hh:Nat→Nat)(h:Nat):Prop where
 lt: ∀k,k<h→hh k<16
 gt: ∀i j,i<j→j<h→KY (cnt (A (hh i)) b 8) (sf (A (hh i))) (cnt (A (hh j)) b 8) (sf (A (hh j)))=true∧KY (cnt (A (hh j)) b 8) (sf (A (hh j))) (cnt (A (hh i)) b 8) (sf (A (hh i)))=false
theorem RJ{a:Type}{R:a→a→Prop}{f:Nat→a}{h:Nat}(c: ∀i j,i<j→j<h→R (f i) (f j)):((List.range h).map f).Pairwise R:=by
 rw[GE];exact(List.pairwise_lt_range (n:=h)).imp_of_mem λ {i j} e d b=>c i j b (List.mem_range.mp d)
theorem IX.ipl{h:Nat}{a b:Nat→Nat}(o:IX h a b){k:Nat}(c:k<h):b k<h:=List.mem_range.mp (o.pe.mem_iff.mp (B7 (List.mem_range.mpr c)))
theorem IX.ipi{h:Nat}{b a:Nat→Nat}(o:IX h b a){i j:Nat}(c:i<h)(d:j<h)(e:a i=a j):i=j:=by
 have:=o.pi i c;rw[e,o.pi j d]at this;exact this.symm
theorem oO{h:Nat}{a d:Nat→Nat}(o:IX h a d){A:Nat→Nat→Nat}{g b l:Nat→Nat}{m n:List Nat}:(MT h A g b l a m n d).Perm (Ia h A g b l m n d):=by
 have s:((List.range h).map a).Perm (List.range h):=by
  have t:((List.range h).map a).Nodup:=by
   rw[GC];refine RJ λi j v r e=> ?_;have u:=o.ipp i (by (first|lia|omega));rw[e,o.ipp j r]at u;(first|lia|omega)
  refine(Nu t J5).mpr λk=> ?_;constructor
  ·intro c
   obtain⟨j,r,rfl⟩:=List.mem_map.mp c;exact List.mem_range.mpr (o.lt j (List.mem_range.mp r))
  ·intro c
   have c:=List.mem_range.mp c;exact List.mem_map.mpr ⟨d k,List.mem_range.mpr (o.ipl c),o.pi k c⟩
 have:=s.map (RH A g b l m n d);rw[B0]at this;exact this
theorem oP{w:Aa}{A:Nat→Nat→Nat}{t b m s a:Nat→Nat}{h u v C D:Nat}(W:IW A t 16)(o:IX h s a)(B:RI A b m h)(E:1≤u)(F:0<h)(G:h≤8){y c:List Nat}{H I:Nat}(r:AY H I c):
  Av w (O7 (Nat.ble (20+h) c.length) C D u v (MT h A t b m s ((y.drop 18).take h) ((c.drop 20).take h) a) (Ia h A t b m ((y.drop 18).take h) ((c.drop 20).take h) a)):=by
 have J: ∀i j,i<j→j<h→sf (A (m i))≠sf (A (m j)):=λi j l d e=>by
  have g:=B.gt i j l d
  by_cases q:m i=m j
  ·rw[q]at g
   rw[g.1]at g;exact absurd g.2 (by (first|((repeat(first|exact .head _|apply List.mem_cons_of_mem));done)|simp))
  ·exact W.ne _ _ (B.lt i (by (first|lia|omega))) (B.lt j d) q e
 refine oG (oO o) E (by simp[MT];exact F) (by simp[MT];exact G) (λK=> ?_) (RJ λi j l d=>B.gt i j l d);have M:20+h≤c.length:=Eg K;have n: ∀k,k<h→((c.drop 20).take h).getD (a k) 0=c.getD (20+a k) 0:=λk L=>by
  have:=o.ipl L;simp[List.getD,List.getElem?_take,this]
 refine RJ λi j l d=>⟨?_,?_,?_,?_,?_,J i j l d⟩
 ·exact Gb (Mg _ _ _)
 ·exact Gb (Mg _ _ _)
 ·show((c.drop 20).take h).getD (a i) 0≠0
  rw[n i (by (first|lia|omega))];have:=I3 r (i:=0) (j:=20+a i) (by (first|lia|omega)) (by have:=o.ipl (show i<h by (first|lia|omega));(first|lia|omega));(first|lia|omega)
 ·show((c.drop 20).take h).getD (a j) 0≠0
  rw[n j d];have:=I3 r (i:=0) (j:=20+a j) (by (first|lia|omega)) (by have:=o.ipl d;(first|lia|omega));(first|lia|omega)
 ·show((c.drop 20).take h).getD (a i) 0≠((c.drop 20).take h).getD (a j) 0
  rw[n i (by (first|lia|omega)),n j d];have z:a i≠a j:=λe=>by have:=o.ipi (by (first|lia|omega)) d e;(first|lia|omega)
  have l1:=o.ipl (show i<h by (first|lia|omega));have N:=o.ipl d;rcases Nat.lt_or_gt_of_ne z with q|q
  ·have:=I3 r (i:=20+a i) (j:=20+a j) (by (first|lia|omega)) (by (first|lia|omega))
   (first|lia|omega)
  ·have:=I3 r (i:=20+a j) (j:=20+a i) (by (first|lia|omega)) (by (first|lia|omega))
   (first|lia|omega)
noncomputable def RM(g n i t j:Nat)(A:Nat→Nat→Nat)(e b l:Nat→Nat)(h:Nat):Ak:=
 {d:=460,u:=2400,h:=none,c:=.call (.ref 286) ⟨[.str (sf b) t,.ref g,.int i j],[]⟩,idx:=[],pre:=[(g,li (Ca A e 16) n),(248,AP [])],na:=1,nt:=0,no:=2,r:=λa _=>.ok (.ret (.ref (a.getD 0 0))),
  outs:=λ_ _ o=>[li (Ca A e 16) n,AP (MG (o.getD 0 default))],news:=λ_ _ o=>[li (((List.range h).map λk=>.str (sf (A (l k))) (e (l k))).take i) (Ao o 1)]}
theorem oQ{w:Aa}{D n c t o:Nat}{A:Nat→Nat→Nat}{d b a r m:Nat→Nat}{h:Nat}(l:h=1∨h=4∨h=8)(W:IW A d 16)(s:Lt b)(J:810≤t)(K:Rk A b 16 h a r m)(B:RI A b a h)(u:1≤c):Av w (RM D n c t o A d b a h):=by
 have v: ∀q:Str,q=⟨⟨[]⟩⟩→sf b≠q:=λq e=>e▸V1 b;have j:0<h∧h≤8:=by (first|lia|omega)
 have y: ∀g i,(Ia h A d b a g i m).length=h:=λg i=>by simp[Ia]
 refine Ba.ext λL E F z=> ?_;refine gU (oN l) [] [] z E F (G8 _ _ (FX (λ_ _ _=>fH) (FX (λ_ _ _=>fG s (by (first|lia|omega)) (by decide) (by (first|lia|omega)) (v _ rfl)) (FX (λ_ _ _=>fX W rfl s (by decide) K) (FW (λ_ _ _ _ _ G=>.of (oP W K.o B u j.1 j.2 G)) (FX (λ_ _ _=>oK (by rw[y];exact j.1) u (by rw[y];exact AC j.2 (by decide))) G7)))))) (Bi _ _ (AA (λ_ _ _=>Am Value.bool (CD (by (first|lia|omega):(c:Int)> 0))) Bp)) (λH M C=>⟨[H (20+h)],[C 20,C 26],rfl,rfl,rfl,rfl,?_⟩) (by rcases l with rfl|rfl|rfl <;> rfl);have I: ∀g i,DR ((Ia h A d b a g i m).take c)=((List.range h).map λk=>Value.str (sf (A (a k))) (d (a k))).take c:=λg i=>by
  unfold DR Ia;rw[List.map_take,B0];rfl
 rw[I];rfl
section
noncomputable abbrev MU:Stmt:=AF (AO (DY 19)) 2
noncomputable abbrev MV(f co cm cg:Nat):Env:={scope:=EM (DY 19),locals:=f,globals:=3,cells:=[(GP,cg),(yL,cm),(yO,co)],qual:=⟨⟨[95,108,97,119,95,99,111,100,101,46,60,108,111,99,97,108,115,62,46]⟩⟩,func:=some 317,code:=.ref 316,frame:=some f,builtins:=0}
noncomputable abbrev MW(o:Nat→Nat):Obj:=li [.int 0 (o 0),.int 1 (o 1),.int 1 (o 2),.int 0 (o 3),.int 1 (o 4),.int 0 (o 5),.int 0 (o 6),.int 1 (o 7)] 0
noncomputable def ED:List (List Int):=[[],[0,1,2,3,4,5,6,7],[1,3,5,7],[0,2,4,6],[2,3,6,7],[0,1,4,5],[1,2,5,6],[0,3,4,7],[4,5,6,7],[0,1,2,3],[1,3,4,6],[0,2,5,7],[2,3,4,5],[0,1,6,7],[1,2,4,7],[0,3,5,6]]
noncomputable def Hf(y:Nat):List Int:=ED.getD (2*y) []
noncomputable def MX(y:Nat):List Int:=ED.getD (2*y+1) []
noncomputable def MY(y i:Nat):Bool:=decide ((i:Int)∈Hf y)
noncomputable abbrev O8(a:List Int)(g:Nat→Nat):List Value:=a.map λn=>.int n (g n.toNat)
section
variable (w:Aa)(f co cm cg od cd it y k:Nat)(o:Nat→Nat)(v1 v2:Option Value)(vs:List Value)
noncomputable abbrev O9(j:Nat):Ae:=[(f,fr [Ad w Hz y (.ref cd)] 1),(co,As od),(cm,ce v1),(cg,ce v2),(od,MW o),(cd,li vs k),(it,Bb j (8-j))]
variable (j:Nat)
noncomputable def oR:List (List Nat→List Nat→List Obj→Ak):=[λb a _=>KC (tk b 2) (O8 (Hf j) λn=>tk a (4*n+4)) (Hf j).length (Hf j),λ_ a _=>Ck cd vs k (.str (BY (Hf j)) (tk a 36))]++((List.range 8).map λ (i:Nat) b a _=>EQ (tk b 2) (O8 (Hf j) λn=>tk a (4*n+4)) (Hf j).length i (tk a (40+2*i)) (MY j i))++
 [λb a _=>KC (tk b 8) (O8 (MX j) λn=>tk a (40+2*n)) (MX j).length (MX j),λ_ a _=>Ck cd (vs++[.str (BY (Hf j)) (tk a 36)]) (k+1) (.str (BY (MX j)) (tk a 56))]
noncomputable abbrev oS:Prop:=AD w 883 (BU MU it (MV f co cm cg)) (O9 w f co cm cg od cd it y k o v1 v2 vs j) (Cd 9 7++[3,3,0,0]++Cd 6 8++[1,8,8,8,8,9,9,0]++((List.range 8).flatMap λi=>Cd 9 9++[0,11,11,2,11,3,5,5,5,5,5,1]++cond (MY j i) [11,10,10,10,10] [])++[9,9,9,9,9,13,11,11,11,4,4,1,6,6,6,6,0,4,0,1,6,6,6,6,0,0,0]++Cd 6 14++[1,14,14,14,14,15,15,0]++((List.range 8).flatMap λi=>Cd 9 15++[0,17,17,17,4,10,10]++cond (MY j i) [] [17,16,16,16,16])++[15,15,15,15,15,19,17,17,17,0]) (AB ([(39+(Hf j).length,[9]),(0,[5]),(6,[9])]++((List.range 7).map λi=>(cond (MY j i) 1 2,[9]))++[(cond (MY j 7) 1 2,[15]),(0,[5])]) (oR cd k vs j)) [] 0 490 2700 [0,1,2,3,4,5,6]
   (λb a c=>.again (BU MU it (MV f co cm cg))) (λb a c=>O9 w f co cm cg od cd it y (k+1+1) o (some (.int j (a 0))) (some (.ref (b 2))) (vs++[.str (BY (Hf j)) (a 36)]++[.str (BY (MX j)) (a 56)]) (j+1)) 57
theorem oU: ∀j,j<8→oS w f co cm cg od cd it y k o v1 v2 vs j
 |0,_=>by kernel_rfl
 |1,_=>by kernel_rfl
 |2,_=>by kernel_rfl
 |3,_=>by kernel_rfl
 |4,_=>by kernel_rfl
 |5,_=>by kernel_rfl
 |6,_=>by kernel_rfl
 |7,_=>by kernel_rfl
 |_+8,h=>absurd h (by (first|lia|omega))
end
end
noncomputable def WG(P:Aj)(f e i j a b k y:Nat)(o:Nat→Nat)(T:List Nat→List Value):Ak:=
 {d:=490,u:=2700,h:=none,c:=BU MU k (MV f e i j),idx:=[],pre:=[(f,fr [Aq P Hz y (.ref b)] 1),(e,As a),(i,ce none),(j,ce none),(a,MW o),(b,li [] 0),(k,Bb 0 8)],na:=0,nt:=16,no:=3,r:=λ_ _=>.ok .next,
  outs:=λ_ t g=>[fr [Aq P Hz y (.ref b)] 1,As a,g.getD 0 default,g.getD 1 default,MW o,li (T t) 16,g.getD 2 default],news:=λ_ _ _=>[]}
theorem oV(w:Aa)(f b c d a:Nat):
  AD w 21 (BU MU a (MV f b c d)) ([(a,Bb 8 0)]) [1,1,1,1,1,3] [] [] 1 490 2700 [0]
   (λe g h=>.done .next) (λe g h=>[(a,fi Ez [.int 8 0,.int 0 0,.int 1 0])]) 0:=by
 kernel_rfl
noncomputable abbrev KZ(a:Nat→Nat):=[a 12,a 13,a 14,a 15,a 16,a 17,a 18,a 19,a 20,a 21,a 22,a 23,a 24,a 25,a 26,a 27]
theorem oW(w:Aa)(T:List Nat→List Value):
  AD w 82 (.call (.ref 317) ⟨[],[]⟩) ([]) (dg 9 0x10e4f82e521c8999e5b8) (AB [(4,[0,1,2,3,4,5,7])] ([λa c g=>WG w.2 (tk a 0) (tk a 1) (tk a 2) (tk a 3) (tk a 4) (tk a 5) (tk a 7) (tk c 8) (λi=>tk c i) T])) [] 1 470 2500 [5]
   (λb d e=>.done (.ret (.ref (b 5)))) (λb d e=>[(b 5,li (T (KZ d)) 16)]) 28:=by
 kernel_rfl
noncomputable def JR(t:Nat→Nat)(n:Nat):List Value:=(List.range n).map λi=>.str (BY (ED.getD i [])) (t i)
noncomputable abbrev Co(t:List Nat):List Value:=JR (λi=>t.getD i 0) 16
theorem WH{a:List Nat}{n x:Nat}(h:a.length=n):JR (λi=>(a++[x]).getD i 0) (n+1)=JR (λi=>a.getD i 0) n++[.str (BY (ED.getD n [])) x]:=by
 unfold JR;rw[J8,BC];congr 1
 ·refine DW λi b=> ?_
  have:=List.mem_range.mp b;simp only[List.getD_eq_getElem?_getD,J2 (h▸this)]
 ·subst h
  (first|((repeat(first|exact .head _|apply List.mem_cons_of_mem));done)|simp)
theorem Pa(g:Nat→Nat): ∀a:List Int,AV (O8 a g) a
 |[]=>.nil
 |n::a=>.cons n _ (Pa g a)
theorem WI{w:Aa}{A:Al}(m:A.handled=none)(s:A.depth≤490)(t:A.units≤2700){f co cm cg od cd it y:Nat}{o:Nat→Nat}: ∀(k j:Nat),j+k=8→ ∀(a:List Nat) (b c:Option Value),a.length=2*j→
  RunsW w A (BU MU it (MV f co cm cg)) (O9 w f co cm cg od cd it y (2*j) o b c (JR (λi=>a.getD i 0) (2*j)) j) λr L g=>r= .ok .next∧g.length=2*k∧B6 λb c=>L=[(f,fr [Ad w Hz y (.ref cd)] 1),(co,As od),(cm,ce b),(cg,ce c),(od,MW o),(cd,li (Co (a++g)) 16),(it,KB)]
 |0,j,h,a,b,c,u=>by
  obtain rfl:j=8:=h;refine FN [(f,fr [Ad w Hz y (.ref cd)] 1),(co,As od),(cm,ce b),(cg,ce c),(od,MW o),(cd,li (Co a) 16)] (L1:=[(it,Bb 8 0)]) (EF (l₁:=[(it,Bb 8 0)])) (Bc (oV w f co cm cg it) [] m s t AR Ar (Φ:=λr C g=>g=[]∧r= .ok .next∧C=[(it,KB)]) λv d G=>⟨rfl,rfl,rfl⟩) λr C g hz=> ?_;obtain⟨D,B,l⟩:=hz;exact⟨_,l▸EF (l₁:=[(it,_)]),B,D▸rfl,b,c,by rw[D,BR,l];rfl⟩
 |k+1,j,h,a,b,c,u=>by
  have E: ∀{x:Value} {F:List Value} {n:Nat},F.length≤16→Av w (Ck cd F n x):=λh=>EB (AC h (by decide));have H:(JR (λi=>a.getD i 0) (2*j)).length=2*j:=(BZ _).trans Gc;refine Dz (oU w f co cm cg od cd it y (2*j) o b c _ j (by (first|lia|omega))) [36,56] m s t (Az _ _ (IG (IG (Ah (λ_ _ _=>OH (Pa _ _)) (Ah (λ_ _ _=>E (by (first|lia|omega))) Ay)) (Vp (λ_ _ _ _=>Kn (Pa _ _) rfl) _)) (Ah (λ_ _ _=>OH (Pa _ _)) (Ah (λ_ _ _=>E (by rw[EH,H];refine (?_:2*j+1≤16);(first|lia|omega))) Ay)))) Ar λv d G=> ?_;have l1:(a++[d 36]).length=2*j+1:=List.length_append.trans (Am (· +1) u);have e:=(WH (x:=d 56) l1).trans (Am (· ++_) (WH u));have z:=WI m s t k (j+1) (by (first|lia|omega)) (a++[d 36]++[d 56]) (some (.int j (d 0))) (some (.ref (v 2))) (List.length_append.trans (Am (· +1) l1)) (f:=f) (co:=co) (cm:=cm) (cg:=cg) (od:=od) (cd:=cd) (it:=it) (y:=y) (o:=o) (w:=w);have z:RunsW w A _ (O9 w f co cm cg od cd it y (2*j+1+1) o (some (.int j (d 0))) (some (.ref (v 2))) (JR (λi=>(a++[d 36]++[d 56]).getD i 0) (2*j+1+1)) (j+1)) _:=z;rw[e]at z;refine z.mono λr L g hz=> ?_;obtain⟨B,l,b,c,I⟩:=hz;exact⟨B,Am (· +1+1) l,b,c,by rw[I,Dt,Dt];rfl⟩
theorem oX{w:Aa}{f a b c d e g y:Nat}{o:Nat→Nat}:Av w (WG w.2 f a b c d e g y o Co):=by
 refine Ba.ext λA h i j=>(WI j h i 8 0 rfl [] none none rfl).mono λr L t hz=> ?_;obtain⟨k,l,m,n,s⟩:=hz;exact⟨[],[ce m,ce n,KB],rfl,l,rfl,k,s⟩
noncomputable def WJ:Ak:=
 {d:=470,u:=2500,h:=none,c:=.call (.ref 317) ⟨[],[]⟩,idx:=[],pre:=[],na:=1,nt:=16,r:=λa _=>.ok (.ret (.ref (a.getD 0 0))),outs:=λ_ _ _=>[],news:=λ_ t _=>[li (Co t) 16]}
theorem oY{w:Aa}:Av w WJ:=by
 refine Ba.ext λA a b c=> ?_;exact Bc (oW w Co) [12,13,14,15,16,17,18,19,20,21,22,23,24,25,26,27] c a b (Az _ _ (Ah (λ_ _ _=>oX) Ay)) Ar λd e g=>⟨[d 5],[],rfl,rfl,rfl,rfl,rfl⟩
theorem oZ(w:Aa)(a n:Nat)(c:List Value):
  AD w 18 (.call (.builtin LZ) ⟨[.ref a],[]⟩) ([(a,li c n)]) [1,1,1,1,2] [] [] 1 620 4000 [0,1,2]
   (λb d e=>.again (.builtin T9 ⟨[.ref (b 0),.ref (b 1),rawInt 0,rawInt 0],[]⟩)) (λb d e=>[(a,li c n),(b 0,fi Bo [.ref a,.int 0 0]),(b 1,li [Bu (d 0)] 0)]) 1:=by
 kernel_rfl
theorem WK{c:List Value}{b:List Int}(h:AV c b): ∀i (a:i<b.length),∃t,c[i]? =some (.int b[i] t):=by
 induction h with
 |nil=>intro i a;simp at a
 |cons n t _ d=>
  intro i a;cases i with
  |zero=>exact⟨t,rfl⟩
  |succ i=>exact d i (by simpa using a)
theorem pB{w:Aa}{A:Al}{R:Result→Ab→Prop}(O:A.in1.handled=none)(P:A.in1.depth≤520)(T:A.in1.units≤3000){j a S n:Nat}{d:List Value}{c:List Int}(U:AV d c):
  ∀(k i:Nat),i+k=c.length→ ∀(b:Int) (t kk:Nat) (l:Int) (s:Ab),l=0∨l=2→An (kt w) s [(j,liO a i),(a,li d n),(S,li [.int b t] kk)]→
  (∀v G,Ag (kt w) s v [(j,liO a i),(a,li d n),(S,li [.int b t] kk)] [(a,li d n)]→R (.ok (.ret (.int (b+(c.drop i).sum) G))) v)→
  codeAny (model pw w) A (.builtin "sum.loop" ⟨[.ref j,.ref S,rawInt l,rawInt 0],[]⟩) R s:=by
 intro k
 induction k with
 |zero=>
  intro i V b t kk l s W St M;obtain rfl:i=c.length:=by (first|lia|omega)
  have hS:=St.mem (S,li [.int b t] kk) (by (first|((repeat(first|exact .head _|apply List.mem_cons_of_mem));done)|simp));refine EK F.entry_sum_loop ?_;rw[EG F.plain_sum_loop _];refine (?_:wpAny _ A.in1 (seqItems? (.ref S)>>=_) _ _ s);refine Af (Dc hS rfl ?_);refine (?_:wpAny _ A.in1 (tryCatch (pyNext (.ref j)) _>>=_) _ _ s);refine Af (wpAny_tryCatch (O1 O P T (i:=c.length) (n:=n) (vs:=d) (rs:=a) (by rw[J3];rw[G1 U];exact A8 _) (F:=[(S,li [.int b t] kk)]) (by exact AX _) St λs1 o=> ?_));refine Ap ?_;have m:Ag (kt w) s s1 [(j,liO a c.length),(a,li d n),(S,li [.int b t] kk)] [(a,li d n)]:=o.subs (by exact(List.Sublist.cons_cons _ (List.nil_sublist _)).cons _);have:=M s1 t m;rwa[List.drop_length,List.sum_nil,Int.add_zero]at this
 |succ k ih=>
  intro i V b t kk l s W St M;have L:i<c.length:=by (first|lia|omega)
  obtain⟨u,hv⟩:=WK U i L;have hS:=St.mem (S,li [.int b t] kk) (by (first|((repeat(first|exact .head _|apply List.mem_cons_of_mem));done)|simp));have N:(c.drop i).sum=c[i]+(c.drop (i+1)).sum:=by rw[Ny L,List.sum_cons]
  have X: ∀(s1:Ab) (g:Int) (G H:Nat),g=0∨g=2→Ag (kt w) s s1 [(j,liO a i),(a,li d n),(S,li [.int b t] kk)] [(j,liO a (i+1)),(a,li d n),(S,li [.int (b+c[i]) G] H)]→
    codeAny (model pw w) A (.builtin "sum.loop" ⟨[.ref j,.ref S,rawInt g,rawInt 0],[]⟩) R s1:=λs1 g G H h J=>
   ih (i+1) (by (first|lia|omega)) (b+c[i]) G H g s1 h J.sat λs2 C m=>by
    have:=M s2 C (J.trans m);rwa[N,←Int.add_assoc]at this
  have put: ∀{s1:Ab} {z:Int} {I C D:Nat} {Q:Unit→Ab→Prop} {E:Value→Ab→Prop},An (kt w) s1 [(j,liO a (i+1)),(a,li d n),(S,li [.int z I] D)]→ ∀K:Int,(∀s2,Ag (kt w) s1 s2 [(j,liO a (i+1)),(a,li d n),(S,li [.int z I] D)] [(j,liO a (i+1)),(a,li d n),(S,li [.int K C] D)]→Q () s2)→
    wpAny (model pw w) A.in1 (updateSeq S (λ_=> #[.int K C])) Q E s1:=λ {s1 z I C D Q E} Y K h=>by
   have Z:=Y.mem (S,li [.int z I] D) (by (first|((repeat(first|exact .head _|apply List.mem_cons_of_mem));done)|simp));have J:=Y.set (i:=2) rfl (f:=Obj.mapSeq λ_=> #[.int K C]) (p:=(S,li [.int z I] D)) rfl;exact wpAny_updateSeq Z rfl (h _ J)
  refine EK F.entry_sum_loop ?_;rw[EG F.plain_sum_loop _];refine (?_:wpAny _ A.in1 (seqItems? (.ref S)>>=_) _ _ s);refine Af (Dc hS rfl ?_);refine (?_:wpAny _ A.in1 (tryCatch (pyNext (.ref j)) _>>=_) _ _ s);refine Af (wpAny_tryCatch (MH O P T (i:=i) (n:=n) (vs:=d) (rs:=a) hv (F:=[(S,li [.int b t] kk)]) (by exact AX _) St λs1 o=> ?_));have o:Ag (kt w) s s1 [(j,liO a i),(a,li d n),(S,li [.int b t] kk)] [(j,liO a (i+1)),(a,li d n),(S,li [.int b t] kk)]:=o;have y:wpAny (model pw w) A.in1 ((holding [.int c[i] u] (binaryOp .Add (.int b t) (.int c[i] u))).attempt>>=λr=>match r with
    | .ok r=>updateSeq S (λ_=> #[r])>>=λ_=>letGo [.int b t,.int c[i] u]>>=λ_=>updateSeq S (λ_=> #[r])>>=λ_=>again (.builtin "sum.loop" ⟨[.ref j,.ref S,rawInt 2,rawInt 0],[]⟩)
    | .error e=>updateSeq S (λ_=> #[])>>=λ_=>letGo [.int b t,.int c[i] u] [e]>>=λ_=>throw e) (λfin v=>match fin with| .done f=>R (.ok f) v| .again c'=>c'.quiet=true∧codeAny (model pw w) A c' R v) (λe v=>R (.error e) v) s1:=by
   refine Af (wpAny_attempt (Dl (wpAny_add_int ?_)));dsimp only;have m:=o.trans o.sat.tok;refine Af (put m.sat (b+c[i]) λs2 B=> ?_);refine Af (wpAny_letGo ?_);refine Af (put B.sat (b+c[i]) λs3 aa=> ?_);exact Ap ⟨plainId_quiet F.plain_sum_loop _,X _ 2 _ _ (.inr rfl) ((m.trans B).trans aa)⟩
  refine wpAny_ite_split (λ_=>y) (λ_=> ?_);refine wpAny_ite_split (λ_=> ?_) (λ_=>Af (FI y));refine Af (wpAny_mkInt ?_);have m:=o.trans o.sat.tok;refine Af (put m.sat (b+c[i]) λs2 B=> ?_);exact Ap ⟨plainId_quiet F.plain_sum_loop _,X _ 0 _ _ (.inl rfl) (m.trans B)⟩
noncomputable def RN(a n:Nat)(b:List Value)(z:Int):Ak:=
 {d:=510,u:=2900,h:=none,c:=.call (.builtin LZ) ⟨[.ref a],[]⟩,idx:=[],pre:=[(a,li b n)],na:=0,nt:=0,no:=1,r:=λ_ _=>.ok .next,rx:=λo _=>.ok (.ret (.int z (Ao o 0))),outs:=λ_ _ _=>[li b n],news:=λ_ _ _=>[]}
theorem WL{w:Aa}{a n:Nat}{b:List Value}{d:List Int}(k:AV b d){z:Int}(hz:d.sum=z):Av w (RN a n b z):=by
 refine Ba.ext λA g h i=> ?_;refine Dz (oZ w a n b) [] i (AC g (show 510≤620 by decide)) (AC h (show 2900≤4000 by decide)) AR Ar λc e m=>λs S=> ?_;have p:([(a,li b n),(c 0,fi Bo [.ref a,.int 0 0]),(c 1,li [Bu (e 0)] 0)]:Ae).Perm [(c 0,liO a 0),(a,li b n),(c 1,li [.int 0 (e 0)] 0)]:=List.Perm.swap _ _ _;rw[qQ];refine pB (w:=w) (A:=A) (n:=n) (a:=a) i (AC (show A.in1.depth≤510 from g) (by decide)) (AC (JN h) (show 2900+1≤3000 by decide)) k d.length 0 (by (first|lia|omega)) 0 (e 0) 0 0 s (.inl rfl) (S.perm p) λo l j=> ?_;rw[List.drop_zero,Int.zero_add,hz]at*;exact⟨_,[],⟨[],[Ac l],rfl,rfl,rfl,rfl,rfl⟩,j.permL p.symm,j.toks⟩
noncomputable abbrev RO:Expr:=sk (AF (AO (DY 22)) 0) 0 []
noncomputable abbrev MZ:=[108,97,119,46,60,108,111,99,97,108,115,62,46]
noncomputable abbrev WM(f a b:Nat):Env:={scope:={Fp RO with names:=[(Hy,.local),(BW,.local),(HD,.globalImplicit),(P4,.cell)]},locals:=b,globals:=3,cells:=[(P4,a)],qual:=⟨⟨MZ⟩⟩,func:=none,code:=.ref 331,frame:=some f,builtins:=0}
noncomputable abbrev RP(f b c d a:Nat):Code:=.compLoop RO 0 (.ref d) (.ref a) (WM f b c)
theorem pC(w:Aa)(f h e a j g i n m t v r:Nat)(y z:Int)(s u k:List Value)(b q:Bool):
  AD w 49 (RP f h j e a) ([(h,As g),(g,li s r),(e,Bb i (n+1)),(a,li k m),(j,Gm w.2 t v y b)]) ([3,0,5,5,0,0,1,5,2,2,2,1]++cond q [5] []) (AB ([(0,[2]),(0,[1,5]),(0,[6])]++cond q [(2,[3])] []) ([λd c l=>Ft e i n,λd c l=>EW g (tk d 0) s r (.int i (tk c 0)) .none (.int 8 (tk c 2)) u,λd c l=>RN (tk d 1) 0 u z]++cond q [λd c l=>Ck a k m (.int i (tk c 0))] [])) (Bh [1] [λd c l=>(.bool (decide (z.fmod 2=1)),.bool q)]) 0 480 2600 (.range 5)
   (λA o B=>.again (RP f h j e a)) (λA o B=>[(h,As g),(g,li s r),(e,Bb (i+1) n),(a,li (cond q (k++[.int i (o 0)]) k) (cond q (m+1) m)),(j,Gm w.2 (cond b t (o 1)) (o 0) i true)]) 6:=by
 revert b q;exact PY (by kernel_rfl)
theorem pD(w:Aa)(f c a b d i:Nat):
  AD w 20 (RP f c d a b) ([(a,Bb i 0)]) [1,1,1,1,1,3] [] [] 0 480 2600 [0]
   (λe g h=>.done .next) (λe g h=>[(a,Oz i)]) 0:=by
 kernel_rfl
structure RR(xs:List Value)(Y:Nat→List Value)(Z:Nat→Int)(p:Nat→Bool):Prop where
 le:xs.length≤1000
 nums: ∀i,i<8→ ∃ms,AV (Y i) ms∧ms.sum=Z i
 pick: ∀i:Nat,i<8→slicePick ⟨xs⟩ (some (i:Int)) none (some 8)=⟨Y i⟩
 odd: ∀i,i<8→decide ((Z i).fmod 2=1)=p i
noncomputable abbrev WN(P:Aj)(f a e b c d g:Nat)(h:List Value)(p:Nat→Bool):Ak:=
 OK [(a,As d),(d,li h g)] e b c p P 480 2600 RO (WM f a c)
theorem pF{w:Aa}{f b c a d k l:Nat}{g:List Value}{Y:Nat→List Value}{Z:Nat→Int}{p:Nat→Bool}(H:RR g Y Z p):Av w (WN w.2 f b c a d k l g p):=by
 refine QG (by kernel_rfl) λA o r s=>⟨Bc (pD w f b c a d 8) [] o r s AR Ar λu h v=>⟨rfl,rfl⟩,λF i n m y z B e C t D K=> ?_⟩
 have j:i<8:=CQ (GF i n) t;obtain⟨G,E,hz⟩:=H.nums i j;exact Dz (pC w f b c a d k i n m y z l B (Z i) g (Y i) C e (p i)) [] o r s (Az _ _ (IG (Ah (λ_ _ _=>JE t) (Ah (λ_ _ _=>H4 (.int _ _) .none (.int 8 _) (by decide) H.le (H.pick i j)) (Ah (λ_ _ _=>WL E hz) Ay))) (QA (Ah (λ_ _ _=>EB (AC D (by decide))) Ay))))
  (Bi _ _ (AA (λ_ _ _=>Am Value.bool (H.odd i j)) Bp)) λu h v=>K (h 0) (h 1)
theorem pG: ∀{a:List Value},(∀v∈a,B6 λn t=>v= .int n t)→ ∃b,AV a b:=by
 intro a
 induction a with
 |nil=>exact λ_=>⟨[],.nil⟩
 |cons v a c=>
  intro h;obtain⟨n,t,rfl⟩:=h v Bj;obtain⟨b,d⟩:=c λw e=>h w (BB _ e);exact⟨n::b,.cons n t d⟩
theorem pI{a:List Value}{d e g:Option Int}: ∀v∈(slicePick ⟨a⟩ d e g).toList,v∈a:=by
 intro v b;unfold slicePick at b;dsimp only at b;obtain⟨j,_,c⟩:=List.mem_filterMap.mp b;have c:a[j]? =some v:=by simpa using c
 exact List.mem_of_getElem? c
theorem pJ{a:List Value}{c:List Int}(h:AV a c)(j:c.length≤63):Ew λY Z p=>RR a Y Z p:=by
 classical
 have d: ∀v∈a,B6 λn t=>v=Value.int n t:=Qf h;have b: ∀i:Nat,∃e,AV (slicePick ⟨a⟩ (some (i:Int)) none (some 8)).toList e:=λi=>pG λv g=>d v (pI v g);refine⟨λi=>(slicePick ⟨a⟩ (some (i:Int)) none (some 8)).toList,λi=>(Classical.choose (b i)).sum,λi=>decide ((Classical.choose (b i)).sum.fmod 2=1),?_,λi _=>⟨_,Classical.choose_spec (b i),rfl⟩,λi _=>by (first|((repeat(first|exact .head _|apply List.mem_cons_of_mem));done)|simp),λi _=>rfl⟩;rw[G1 h];(first|lia|omega)
set_option maxHeartbeats 4000000
noncomputable abbrev Pb:List Stmt:=AO (DY 22)
noncomputable abbrev lw(i:Nat):Stmt:=AF Pb i
noncomputable abbrev Bv(f a b:Nat):Env:={scope:=EM (DY 22),locals:=f,globals:=3,cells:=[(GP,b),(P4,a)],qual:=⟨⟨MZ⟩⟩,func:=some 332,code:=.ref 331,frame:=some f,builtins:=0}
noncomputable def trw0(f a b:Nat):Sem AE:=execs [lw 0,lw 1,lw 2,lw 3,lw 4,lw 5] (Bv f a b)>>=λv=>pure (.done v)
noncomputable def trwL(f a b:Nat):Sem AE:=eval (A9 (Br (sk (lw 6) 0 [])) 1) (Bv f a b)>>=λv=>pure (.done (.ret v))
noncomputable def trw6(f a b:Nat):Sem AE:=exec (lw 6) (Bv f a b)>>=λv=>pure (.done v)
noncomputable def trw7(f a b:Nat):Sem AE:=execs [lw 7,lw 8] (Bv f a b)>>=λv=>pure (.done v)
lay_quick trw0 trwL trw6 trw7
set_option maxHeartbeats 400000
noncomputable abbrev I4(a:Nat→Nat)(b c d e f g h i:Nat):=(a 49,li [.ref b,.ref c,.ref d,.ref e,.ref f,.ref g,.ref h,.ref i] 0)
noncomputable abbrev Ct(a:Nat):Value:=(.int 7 a)
noncomputable abbrev Cu(a:Nat):Value:=(.int 6 a)
noncomputable abbrev Cv(a:Nat):Value:=(.int 5 a)
noncomputable abbrev Cw(a:Nat):Value:=(.int 4 a)
noncomputable abbrev Cx(a:Nat):Value:=(.int 3 a)
noncomputable abbrev Cy(a:Nat):Value:=(.int 2 a)
theorem pK(w:Aa)(g n m tp:Nat)(c:List Value):
  AD w 2240 (.call (.ref 322) ⟨[.ref g,.int 0 tp],[]⟩) ([(g,li c n)]) (rl 816 0x7dba6e14f7705ba8578b71c47e74ca439cd5dc5bafc6555541936af8933aba403c00a9775bc619938b9db32729e822f2cfda6763a747a05a5596016445612428b2da846f360b297b32cb0754f6312a3d25b428ee4a96d941a7ceee90fa7d50bafca59ecfba76510098ca7e785d4fb42c4a3dfdf13ca88263c1cbe6bab0db47adf42f57662779793f3f2b29fbbc69b7fd1750ef7600c01d03a10b41ec200b840271a45b36af6fd67a14891796d3529822d38752337d8a44e454ae2d5115b111089dac0080380dda97c4e85eec700d169d0776ade46af57240cdab25077fad8b0756b29ba544945ed9ea247513655f8a1d29adf7faff17e7ddf783bce5c1b36f3c9f7bb64fdd48bc46868cb85299299655b0823001f525a553b6b5ff37d8fa34676ab68c6c2fca24aa8074d046a396de5e78322e8ef2ace18c87e78a52278df467c216265282556aa7c74f2ec4675c735005502ccb72fe291) (AB [(0,[0])] ([λd e h=>Dg g c n m])) (Bh [1] [λd e h=>(.bool (decide ((m:Int).fmod 2=1)),.bool true)]) 1 470 2500 [0,50,48,13,14,15,20,21,26,27]
   (λb a i=>.done (.ret (.ref (b 49)))) (λb a i=>[(g,li c n),I4 b (b 47) (b 12) (b 13) (b 14) (b 19) (b 20) (b 25) (b 26),(b 47,li [.int 0 tp] 0),(b 12,li [Cr (a 42),Cy (a 48),Cx (a 53)] 0),(b 13,li [Cr (a 42),Cw (a 58),Cv (a 63)] 0),(b 14,li [Cr (a 42),Cu (a 68),Ct (a 73)] 0),(b 19,li [Cy (a 78),Cw (a 88),Cu (a 93)] 0),(b 20,li [Cy (a 78),Cv (a 94),Ct (a 99)] 0),(b 25,li [Cx (a 108),Cw (a 114),Ct (a 119)] 0),(b 26,li [Cx (a 108),Cv (a 120),Cu (a 125)] 0)]) 183:=by
 kernel_rfl
theorem pL(w:Aa)(g n m tp:Nat)(c:List Value):
  AD w 2240 (.call (.ref 322) ⟨[.ref g,.int 1 tp],[]⟩) ([(g,li c n)]) (rl 816 0x7dba6e14f7705ba8578b71c47e74ca439cd5dc5bafc6555541936af8933aba403c00a9775bc619938b9a94b26f4bdfc115dc9b775d19da2947914f7025bf1ba0332ec1c8ec5745a0f94c2d3ee752e332136e25e1d41089e9d5382bc6a4bc824bd25af8a759d52e9b5386d5388581eb4e8281c592de5bab3c8add07db92a5ec78ea3e720c5895f8ddce56bac17c84eedc28d27233178b2b4f2169559bf5366b398271b99270e6da6f65fdc3bf8b83e88fd510f1d343a644f97e03f8d8877b8d5c2c8d1ad97888c9058f006043ca3476e3f844efb409ddb6addd44acf90f8a4f2cc0894a8997e22b61c4ce78a39ad1522322bdb79ee89eabdc9ed2fa93468686612f7bb64fdd48bc46868cb85299299655b0823001f525a553b6b5ff37d8fa34676ab68c6c2fca24aa8074d046a396de5e78322e8ef2ace18c87e78a52278df467c216265282556aa7c74f2ec4675c735005502ccb72fe291) (AB [(0,[0])] ([λd e h=>Dg g c n m])) (Bh [1] [λd e h=>(.bool (decide ((m:Int).fmod 2=1)),.bool true)]) 1 470 2500 [0,50,48,9,10,11,20,21,26,27]
   (λb a i=>.done (.ret (.ref (b 49)))) (λb a i=>[(g,li c n),I4 b (b 47) (b 8) (b 9) (b 10) (b 19) (b 20) (b 25) (b 26),(b 47,li [.int 1 tp] 0),(b 8,li [Bu (a 8),Cy (a 18),Cx (a 23)] 0),(b 9,li [Bu (a 8),Cw (a 28),Cv (a 33)] 0),(b 10,li [Bu (a 8),Cu (a 38),Ct (a 43)] 0),(b 19,li [Cy (a 78),Cw (a 88),Ct (a 93)] 0),(b 20,li [Cy (a 78),Cv (a 94),Cu (a 99)] 0),(b 25,li [Cx (a 108),Cw (a 114),Cu (a 119)] 0),(b 26,li [Cx (a 108),Cv (a 120),Ct (a 125)] 0)]) 183:=by
 kernel_rfl
theorem pN(w:Aa)(g n m tp:Nat)(c:List Value):
  AD w 2240 (.call (.ref 322) ⟨[.ref g,.int 2 tp],[]⟩) ([(g,li c n)]) (rl 816 0x7dba6e14f7705ba8578b71c47e74ca439cd5dc5bafc6555541936af8933aba403c00a9735980c5e8626ef836552e20323fa2993dc036a8b0f619d0c145021e127238ddfad4a4d37e12ab57e250137e6aaecf735419dbfe588c65a3c152e622d4403de6e528c735e89bfedfb79200aa055b836e6dbd19041020202621b76c88cccc4f3697cf280f6cc17d2da30a8d91f5cb396626eafc7eb96de35c7b85fc24938b7d590e47b8c8d8023fe7cef5299366ac1cc6202e0766cd192791c58d5803d3d31d1272324ed0bc3d03d97f1e9175b372e2d1414f48084a65ceb64b32ba19bfce347e1987632b10ae0bbea8596b3e71872bb84a15ba9ea926ea88f4c89b744cf41be6eeac6b6004bbfd59b4e739a8d29293b254d04bdac8b9ef374e20b099e19bc845013976d4aa8074d046a396de5e78322e8ef2ace18c87e78a52278df467c216265282556aa7c74f2ec4675c735005502ccb72fe291) (AB [(0,[0])] ([λd e h=>Dg g c n m])) (Bh [1] [λd e h=>(.bool (decide ((m:Int).fmod 2=1)),.bool true)]) 1 470 2500 [0,50,48,9,10,11,16,17,26,27]
   (λb a i=>.done (.ret (.ref (b 49)))) (λb a i=>[(g,li c n),I4 b (b 47) (b 8) (b 9) (b 10) (b 15) (b 16) (b 25) (b 26),(b 47,li [.int 2 tp] 0),(b 8,li [Bu (a 8),Cr (a 14),Cx (a 19)] 0),(b 9,li [Bu (a 8),Cw (a 28),Cu (a 33)] 0),(b 10,li [Bu (a 8),Cv (a 34),Ct (a 39)] 0),(b 15,li [Cr (a 48),Cw (a 62),Ct (a 67)] 0),(b 16,li [Cr (a 48),Cv (a 68),Cu (a 73)] 0),(b 25,li [Cx (a 108),Cw (a 114),Cv (a 119)] 0),(b 26,li [Cx (a 108),Cu (a 124),Ct (a 129)] 0)]) 183:=by
 kernel_rfl
theorem pO(w:Aa)(g n m tp:Nat)(c:List Value):
  AD w 2240 (.call (.ref 322) ⟨[.ref g,.int 3 tp],[]⟩) ([(g,li c n)]) (rl 816 0x7dba6e14f7705ba8578b71c47e74ca439cd5dc5bafc6555541936af8933aba403c00a9735980c5e8626ef836552e20323fa2993dc036a8b0f619d0c145021e127238ddfad4a4d37e12ab57e250137e6aaecf735419dbfe588c65a3c152e622d4403de6e528c735e89bfedfb79200aa055b836e6dbd19041020202621b76c88cccc4f3697cf280f6cc17d2da30a8d91f5cb396626eafc7eb96de35c7b85fc24938b7d590e47b8c8814ef47547eb3a1f14afebe4ebcb8601028f382a19c3e139852017ca508ef550b87735647c4a9dad4f8824822b9c685e7a1bf34bbbde3a55ecc254a96d428831c2109a8326f333cb1c3da19487e8f4202f9aa62eb333eeb6c87fd0000fdb9634a5836f08f046970c0ab0daa12837e355d0f03d54f502947ccc15f34cb38f773a2a6274d046a396de5e78322e8ef2ace18c87e78a52278df467c216265282556aa7c74f2ec4675c735005502ccb72fe291) (AB [(0,[0])] ([λd e h=>Dg g c n m])) (Bh [1] [λd e h=>(.bool (decide ((m:Int).fmod 2=1)),.bool true)]) 1 470 2500 [0,50,48,9,10,11,16,17,22,23]
   (λb a i=>.done (.ret (.ref (b 49)))) (λb a i=>[(g,li c n),I4 b (b 47) (b 8) (b 9) (b 10) (b 15) (b 16) (b 21) (b 22),(b 47,li [.int 3 tp] 0),(b 8,li [Bu (a 8),Cr (a 14),Cy (a 19)] 0),(b 9,li [Bu (a 8),Cw (a 28),Ct (a 33)] 0),(b 10,li [Bu (a 8),Cv (a 34),Cu (a 39)] 0),(b 15,li [Cr (a 48),Cw (a 62),Cu (a 67)] 0),(b 16,li [Cr (a 48),Cv (a 68),Ct (a 73)] 0),(b 21,li [Cy (a 82),Cw (a 92),Cv (a 97)] 0),(b 22,li [Cy (a 82),Cu (a 102),Ct (a 107)] 0)]) 183:=by
 kernel_rfl
theorem pP(w:Aa)(g n m tp:Nat)(c:List Value):
  AD w 2240 (.call (.ref 322) ⟨[.ref g,.int 4 tp],[]⟩) ([(g,li c n)]) (rl 816 0x7dba6e14f7705ba8578b71c47e74ca439cd5dc5bafc6555541936af8933aba403c00a9735980c5e8626ef83655157895552d8fa114f27782dc13a8d3f4714a324c3da7b5b0926e48038100c200cbdb4c205199aa9adf597a515562206f9495b434c4af125ac9f5dcc66d27465d6f46edabc673712d770f1b0e059850991ac6a5479ea4e2dd1e8b9946bd546f209866bd98a9b4e3570682aa68a062251994f01fe37ec8c76ff8180e281bee4ec19315659ef7bb91cd9bd1d9e77765c44740feaece132af01ab9afdafbab5cb07d34b36d09546959797e4b0df2b02a7fa71c8f57e0f276aafe2fc81725a5727f57fa3728561b8daa06f63a793f15093e7790bef4af62ce6b0cdd55cfc8c126a43dc02c64e7abe3bacaedc48814f2195e3dcb3946c120ef84ba0b074a426a7099f8fec02f836482a2721f78160a203b4552fc2d0d9166265282556aa7c74f2ec4675c735005502ccb72fe291) (AB [(0,[0])] ([λd e h=>Dg g c n m])) (Bh [1] [λd e h=>(.bool (decide ((m:Int).fmod 2=1)),.bool true)]) 1 470 2500 [0,50,48,9,10,11,16,17,22,35]
   (λb a i=>.done (.ret (.ref (b 49)))) (λb a i=>[(g,li c n),I4 b (b 47) (b 8) (b 9) (b 10) (b 15) (b 16) (b 21) (b 34),(b 47,li [.int 4 tp] 0),(b 8,li [Bu (a 8),Cr (a 14),Cv (a 19)] 0),(b 9,li [Bu (a 8),Cy (a 20),Cu (a 25)] 0),(b 10,li [Bu (a 8),Cx (a 26),Ct (a 31)] 0),(b 15,li [Cr (a 48),Cy (a 54),Ct (a 59)] 0),(b 16,li [Cr (a 48),Cx (a 60),Cu (a 65)] 0),(b 21,li [Cy (a 82),Cx (a 88),Cv (a 93)] 0),(b 34,li [Cv (a 150),Cu (a 156),Ct (a 161)] 0)]) 183:=by
 kernel_rfl
theorem pQ(w:Aa)(g n m tp:Nat)(c:List Value):
  AD w 2240 (.call (.ref 322) ⟨[.ref g,.int 5 tp],[]⟩) ([(g,li c n)]) (rl 816 0x7dba6e14f7705ba8578b71c47e74ca439cd5dc5bafc6555541936af8933aba403c00a9735980c5e8626ef83655157895552d8fa114f27782dc13a8d3f4714a324c3da7b5b0926e48038100c200cbdb4c205199aa9adf597a515562206f9495b434c4af125ac9f5dcc66d27465d6f46edabc673712d770f1b0e059850991ac6a5479ea4e2dd1e8b9946bd546f209866bd98a9b4e3570682aa68a062251994f01fe37ec8c76ff8180e281bee4ec19315659ef7bb91cd9bd1d9e77765c44740feaece132af01ab9afdafbab5cb07d34b36d09546959797e4b0df2b02a7fa71c8f57e0f276aafe2fc81725a5727f57fa3728561b8daa06f63a793f15093e779057ac4058c27d6151a91d7333cc2ed3e0d97aff651c0fe53f6494f32e2ee3c23a3b8665c385574ae4db38753e190b0ca411f2d732f6c4d179b18c87e78a52278df467c216265282556aa7c74f2ec4675c735005502ccb72fe291) (AB [(0,[0])] ([λd e h=>Dg g c n m])) (Bh [1] [λd e h=>(.bool (decide ((m:Int).fmod 2=1)),.bool true)]) 1 470 2500 [0,50,48,9,10,11,16,17,22,31]
   (λb a i=>.done (.ret (.ref (b 49)))) (λb a i=>[(g,li c n),I4 b (b 47) (b 8) (b 9) (b 10) (b 15) (b 16) (b 21) (b 30),(b 47,li [.int 5 tp] 0),(b 8,li [Bu (a 8),Cr (a 14),Cw (a 19)] 0),(b 9,li [Bu (a 8),Cy (a 20),Ct (a 25)] 0),(b 10,li [Bu (a 8),Cx (a 26),Cu (a 31)] 0),(b 15,li [Cr (a 48),Cy (a 54),Cu (a 59)] 0),(b 16,li [Cr (a 48),Cx (a 60),Ct (a 65)] 0),(b 21,li [Cy (a 82),Cx (a 88),Cw (a 93)] 0),(b 30,li [Cw (a 132),Cu (a 142),Ct (a 147)] 0)]) 183:=by
 kernel_rfl
noncomputable abbrev WO:=(rl 816 0x7dba6e14f7705ba8578b71c47e74ca439cd5dc5bafc6555541936af8933aba403c00a9735980c5e8626ef83655157895552d8fa114f27782dc13a8d3f4714a324c3da7b5b0926e48038100c200cbdb4c205199aa9adf597a515562206f9495b434c4af125ac9f5dcc66d27465d6f46edabc673712d770f1b0e059850991ac6a5479ea4e2dd1e8b9946bd546f209866bd98a9b4e3570682aa68a062251994f01fe37ec8c76ff8180e281bee4ec19315659ef7bb91cd9bd1d9e77765c44740feaece132af01ab9afdafbab5cb07d34b36d09546959797e4b0df2b02a7fa71c8f57e0f276aafe2fc81725a5727f57fa3728561b8daa06f63a78ba54a36f9eca2f53c3cbaee4ae57aa3c306ef19878f13375251d4dca82a7a03b6d4b6de29ab44bd194d6093af45447143736548057c94b957689d743d179b18c87e78a52278df467c216265282556aa7c74f2ec4675c735005502ccb72fe291)
theorem pS(w:Aa)(g n m tp:Nat)(c:List Value):
  AD w 2240 (.call (.ref 322) ⟨[.ref g,.int 6 tp],[]⟩) ([(g,li c n)]) WO (AB [(0,[0])] ([λd e h=>Dg g c n m])) (Bh [1] [λd e h=>(.bool (decide ((m:Int).fmod 2=1)),.bool true)]) 1 470 2500 [0,50,48,9,10,11,16,17,22,31]
   (λb a i=>.done (.ret (.ref (b 49)))) (λb a i=>[(g,li c n),I4 b (b 47) (b 8) (b 9) (b 10) (b 15) (b 16) (b 21) (b 30),(b 47,li [.int 6 tp] 0),(b 8,li [Bu (a 8),Cr (a 14),Ct (a 19)] 0),(b 9,li [Bu (a 8),Cy (a 20),Cw (a 25)] 0),(b 10,li [Bu (a 8),Cx (a 26),Cv (a 31)] 0),(b 15,li [Cr (a 48),Cy (a 54),Cv (a 59)] 0),(b 16,li [Cr (a 48),Cx (a 60),Cw (a 65)] 0),(b 21,li [Cy (a 82),Cx (a 88),Ct (a 93)] 0),(b 30,li [Cw (a 132),Cv (a 138),Ct (a 143)] 0)]) 183:=by
 kernel_rfl
theorem pU(w:Aa)(g n m tp:Nat)(c:List Value):
  AD w 2240 (.call (.ref 322) ⟨[.ref g,.int 7 tp],[]⟩) ([(g,li c n)]) WO (AB [(0,[0])] ([λd e h=>Dg g c n m])) (Bh [1] [λd e h=>(.bool (decide ((m:Int).fmod 2=1)),.bool true)]) 1 470 2500 [0,50,48,9,10,11,16,17,22,31]
   (λb a i=>.done (.ret (.ref (b 49)))) (λb a i=>[(g,li c n),I4 b (b 47) (b 8) (b 9) (b 10) (b 15) (b 16) (b 21) (b 30),(b 47,li [.int 7 tp] 0),(b 8,li [Bu (a 8),Cr (a 14),Cu (a 19)] 0),(b 9,li [Bu (a 8),Cy (a 20),Cv (a 25)] 0),(b 10,li [Bu (a 8),Cx (a 26),Cw (a 31)] 0),(b 15,li [Cr (a 48),Cy (a 54),Cw (a 59)] 0),(b 16,li [Cr (a 48),Cx (a 60),Cv (a 65)] 0),(b 21,li [Cy (a 82),Cx (a 88),Cu (a 93)] 0),(b 30,li [Cw (a 132),Cv (a 138),Cu (a 143)] 0)]) 183:=by
 kernel_rfl
theorem pV(w:Aa)(g n m tp:Nat)(b:List Value):
  AD w 54 (.call (.ref 322) ⟨[.ref g,.int 0 tp],[]⟩) ([(g,li b n)]) (dg 4 1085214877) (AB [(0,[0])] ([λc d e=>Dg g b n m])) (Bh [1] [λc d e=>(.bool (decide ((m:Int).fmod 2=1)),.bool false)]) 1 470 2500 [0,4,3]
   (λa h i=>.done (.ret (.ref (a 3)))) (λa h i=>[(g,li b n),(a 3,li [.ref (a 2)] 0),(a 2,li [] 0)]) 6:=by
 kernel_rfl
noncomputable abbrev pW(a:Nat→Nat)(b c d e:Nat):=(a 4,li [.ref b,.ref c,.ref d,.ref e] 4)
noncomputable abbrev JS(a:Nat)(b:List Value)(c:Nat)(d:Nat→Nat)(e f g h i:Nat)(j k l m n o p:Value):=[(a,li b c),pW d e f g h,(d 6,li [Bu i,j] 0),(d 7,li [k,l] 0),(d 8,li [m,n] 0),(d 9,li [o,p] 0)]
theorem pX(w:Aa)(g n m tp:Nat)(c:List Value):
  AD w 493 (.call (.ref 322) ⟨[.ref g,.int 1 tp],[]⟩) ([(g,li c n)]) (rl 224 0x51242948748ddc68eff330634ffec6c15d6e76ed5826d1b2d9ad26b59500d07fb02cee80e0b0b4974f5c317981aa655253e89e5cfc84afcfb83339ae1a703b221785cb54b53) (AB [(0,[0])] ([λd e h=>Dg g c n m])) (Bh [1] [λd e h=>(.bool (decide ((m:Int).fmod 2=1)),.bool false)]) 1 470 2500 [0,5,7,8,9,10]
   (λb a i=>.done (.ret (.ref (b 4)))) (λb a i=>(JS g c n b (b 6) (b 7) (b 8) (b 9) (a 9) (Cr (a 12)) (Cy (a 16)) (Cx (a 19)) (Cw (a 23)) (Cv (a 26)) (Cu (a 30)) (Ct (a 33)))) 37:=by
 kernel_rfl
theorem pY(w:Aa)(g n m tp:Nat)(c:List Value):
  AD w 493 (.call (.ref 322) ⟨[.ref g,.int 2 tp],[]⟩) ([(g,li c n)]) (rl 224 0x51242948748ddc68eff330634ffec6c15d6e76ed5826d1b2d9ad26b596b1a88d5da8f47583e8f6aadfaa2c0278760f1993e89e5cfc84e63f337c74766ca1e398e785cb54b53) (AB [(0,[0])] ([λd e h=>Dg g c n m])) (Bh [1] [λd e h=>(.bool (decide ((m:Int).fmod 2=1)),.bool false)]) 1 470 2500 [0,5,7,8,9,10]
   (λb a i=>.done (.ret (.ref (b 4)))) (λb a i=>(JS g c n b (b 6) (b 7) (b 8) (b 9) (a 9) (Cy (a 12)) (Cr (a 13)) (Cx (a 16)) (Cw (a 23)) (Cu (a 26)) (Cv (a 27)) (Ct (a 30)))) 37:=by
 kernel_rfl
theorem rA(w:Aa)(g n m tp:Nat)(c:List Value):
  AD w 493 (.call (.ref 322) ⟨[.ref g,.int 3 tp],[]⟩) ([(g,li c n)]) (rl 224 0x51242948748ddc68eff330634ffec6c15d6e76ed5826d1b2d9ad26b596b1a88d5da8f47583e8f6aadfaa2c0278760f1993e89e5cfc84e63f337c74766ca1e398e785cb54b53) (AB [(0,[0])] ([λd e h=>Dg g c n m])) (Bh [1] [λd e h=>(.bool (decide ((m:Int).fmod 2=1)),.bool false)]) 1 470 2500 [0,5,7,8,9,10]
   (λb a i=>.done (.ret (.ref (b 4)))) (λb a i=>(JS g c n b (b 6) (b 7) (b 8) (b 9) (a 9) (Cx (a 12)) (Cr (a 13)) (Cy (a 16)) (Cw (a 23)) (Ct (a 26)) (Cv (a 27)) (Cu (a 30)))) 37:=by
 kernel_rfl
noncomputable abbrev Pc:=(rl 224 0x51242948748ddc68eff330634ffec6c15d6e76ed5826d1b2d9ad26b596b1a88d5da8f47588d4a9b95a0d9ed5bb71054f91e9b155969b090737d80a971001e398e785cb54b53)
theorem rB(w:Aa)(g n m tp:Nat)(c:List Value):
  AD w 493 (.call (.ref 322) ⟨[.ref g,.int 4 tp],[]⟩) ([(g,li c n)]) Pc (AB [(0,[0])] ([λd e h=>Dg g c n m])) (Bh [1] [λd e h=>(.bool (decide ((m:Int).fmod 2=1)),.bool false)]) 1 470 2500 [0,5,7,8,9,10]
   (λb a i=>.done (.ret (.ref (b 4)))) (λb a i=>(JS g c n b (b 6) (b 7) (b 8) (b 9) (a 9) (Cw (a 12)) (Cr (a 13)) (Cv (a 16)) (Cy (a 17)) (Cu (a 20)) (Cx (a 21)) (Ct (a 24)))) 37:=by
 kernel_rfl
theorem rC(w:Aa)(g n m tp:Nat)(c:List Value):
  AD w 493 (.call (.ref 322) ⟨[.ref g,.int 5 tp],[]⟩) ([(g,li c n)]) Pc (AB [(0,[0])] ([λd e h=>Dg g c n m])) (Bh [1] [λd e h=>(.bool (decide ((m:Int).fmod 2=1)),.bool false)]) 1 470 2500 [0,5,7,8,9,10]
   (λb a i=>.done (.ret (.ref (b 4)))) (λb a i=>(JS g c n b (b 6) (b 7) (b 8) (b 9) (a 9) (Cv (a 12)) (Cr (a 13)) (Cw (a 16)) (Cy (a 17)) (Ct (a 20)) (Cx (a 21)) (Cu (a 24)))) 37:=by
 kernel_rfl
theorem rD(w:Aa)(g n m tp:Nat)(c:List Value):
  AD w 493 (.call (.ref 322) ⟨[.ref g,.int 6 tp],[]⟩) ([(g,li c n)]) Pc (AB [(0,[0])] ([λd e h=>Dg g c n m])) (Bh [1] [λd e h=>(.bool (decide ((m:Int).fmod 2=1)),.bool false)]) 1 470 2500 [0,5,7,8,9,10]
   (λb a i=>.done (.ret (.ref (b 4)))) (λb a i=>(JS g c n b (b 6) (b 7) (b 8) (b 9) (a 9) (Cu (a 12)) (Cr (a 13)) (Ct (a 16)) (Cy (a 17)) (Cw (a 20)) (Cx (a 21)) (Cv (a 24)))) 37:=by
 kernel_rfl
theorem rE(w:Aa)(g n m tp:Nat)(c:List Value):
  AD w 493 (.call (.ref 322) ⟨[.ref g,.int 7 tp],[]⟩) ([(g,li c n)]) Pc (AB [(0,[0])] ([λd e h=>Dg g c n m])) (Bh [1] [λd e h=>(.bool (decide ((m:Int).fmod 2=1)),.bool false)]) 1 470 2500 [0,5,7,8,9,10]
   (λb a i=>.done (.ret (.ref (b 4)))) (λb a i=>(JS g c n b (b 6) (b 7) (b 8) (b 9) (a 9) (Ct (a 12)) (Cr (a 13)) (Cu (a 16)) (Cy (a 17)) (Cv (a 20)) (Cx (a 21)) (Cw (a 24)))) 37:=by
 kernel_rfl
noncomputable def I5(b:Bool)(a:Nat):List (List Int):=
 if b then[Int.ofNat a]::(List.range 8).flatMap λ (i:Nat)=>((List.range' (i+1) (7-i)).filter λ (j:Nat)=>decide (j<Nat.xor (Nat.xor i j) a)).map λ (j:Nat)=>[Int.ofNat i,Int.ofNat j,Int.ofNat (Nat.xor (Nat.xor i j) a)]
 else if a=0 then[[]]else((List.range 8).filter λ (k:Nat)=>decide (k<Nat.xor k a)).map λ (k:Nat)=>[Int.ofNat k,Int.ofNat (Nat.xor k a)]
noncomputable def Ib(g n e tp:Nat)(b:List Value)(h:Nat)(F:List (List Int)):Ak:=
 {d:=470,u:=2500,h:=none,c:=.call (.ref 322) ⟨[.ref g,.int e tp],[]⟩,idx:=[],pre:=[(g,li b n)],na:=1+h,nt:=0,no:=1+3*h,r:=λa _=>.ok (.ret (.ref (a.getD 0 0))),outs:=λ_ _ _=>[li b n],
  news:=λa _ o=>li ((List.range h).map λj=>.ref (a.getD (1+j) 0)) (Ao o 0)::(List.range h).map λj=>li (BD (F.getD j []) λi=>Ao o (1+3*j+i)) 0}
theorem rF{w:Aa}{g n m c tp:Nat}{d:List Value}(h:d.length=m)(o:m≤8)(e:m%2=1)(r:c<8):Av w (Ib g n c tp d 8 (I5 true c)):=by
 have e:decide ((m:Int).fmod 2=1)=true:=CD (by rw[Nw _ (by decide)];(first|lia|omega));refine Ba.ext λA i j k=> ?_;have:c=0∨c=1∨c=2∨c=3∨c=4∨c=5∨c=6∨c=7:=by (first|lia|omega)
 rcases this with rfl|rfl|rfl|rfl|rfl|rfl|rfl|rfl
 ·exact Bc (pK w g n m tp d) [] k i j (Az _ _ (Ah (λ_ _ _=>DI h (by (first|lia|omega))) Ay)) (Bi _ _ (AA (λ_ _ _=>by rw[e]) Bp)) λb a l=>⟨[b 49,b 47,b 12,b 13,b 14,b 19,b 20,b 25,b 26],[Ac 0,Ac tp,Ac 0,Ac 0,Ac (a 42),Ac (a 48),Ac (a 53),Ac (a 42),Ac (a 58),Ac (a 63),Ac (a 42),Ac (a 68),Ac (a 73),Ac (a 78),Ac (a 88),Ac (a 93),Ac (a 78),Ac (a 94),Ac (a 99),Ac (a 108),Ac (a 114),Ac (a 119),Ac (a 108),Ac (a 120),Ac (a 125)],rfl,rfl,rfl,rfl,by kernel_rfl⟩
 ·exact Bc (pL w g n m tp d) [] k i j (Az _ _ (Ah (λ_ _ _=>DI h (by (first|lia|omega))) Ay)) (Bi _ _ (AA (λ_ _ _=>by rw[e]) Bp)) λb a l=>⟨[b 49,b 47,b 8,b 9,b 10,b 19,b 20,b 25,b 26],[Ac 0,Ac tp,Ac 0,Ac 0,Ac (a 8),Ac (a 18),Ac (a 23),Ac (a 8),Ac (a 28),Ac (a 33),Ac (a 8),Ac (a 38),Ac (a 43),Ac (a 78),Ac (a 88),Ac (a 93),Ac (a 78),Ac (a 94),Ac (a 99),Ac (a 108),Ac (a 114),Ac (a 119),Ac (a 108),Ac (a 120),Ac (a 125)],rfl,rfl,rfl,rfl,by kernel_rfl⟩
 ·exact Bc (pN w g n m tp d) [] k i j (Az _ _ (Ah (λ_ _ _=>DI h (by (first|lia|omega))) Ay)) (Bi _ _ (AA (λ_ _ _=>by rw[e]) Bp)) λb a l=>⟨[b 49,b 47,b 8,b 9,b 10,b 15,b 16,b 25,b 26],[Ac 0,Ac tp,Ac 0,Ac 0,Ac (a 8),Ac (a 14),Ac (a 19),Ac (a 8),Ac (a 28),Ac (a 33),Ac (a 8),Ac (a 34),Ac (a 39),Ac (a 48),Ac (a 62),Ac (a 67),Ac (a 48),Ac (a 68),Ac (a 73),Ac (a 108),Ac (a 114),Ac (a 119),Ac (a 108),Ac (a 124),Ac (a 129)],rfl,rfl,rfl,rfl,by kernel_rfl⟩
 ·exact Bc (pO w g n m tp d) [] k i j (Az _ _ (Ah (λ_ _ _=>DI h (by (first|lia|omega))) Ay)) (Bi _ _ (AA (λ_ _ _=>by rw[e]) Bp)) λb a l=>⟨[b 49,b 47,b 8,b 9,b 10,b 15,b 16,b 21,b 22],[Ac 0,Ac tp,Ac 0,Ac 0,Ac (a 8),Ac (a 14),Ac (a 19),Ac (a 8),Ac (a 28),Ac (a 33),Ac (a 8),Ac (a 34),Ac (a 39),Ac (a 48),Ac (a 62),Ac (a 67),Ac (a 48),Ac (a 68),Ac (a 73),Ac (a 82),Ac (a 92),Ac (a 97),Ac (a 82),Ac (a 102),Ac (a 107)],rfl,rfl,rfl,rfl,by kernel_rfl⟩
 ·exact Bc (pP w g n m tp d) [] k i j (Az _ _ (Ah (λ_ _ _=>DI h (by (first|lia|omega))) Ay)) (Bi _ _ (AA (λ_ _ _=>by rw[e]) Bp)) λb a l=>⟨[b 49,b 47,b 8,b 9,b 10,b 15,b 16,b 21,b 34],[Ac 0,Ac tp,Ac 0,Ac 0,Ac (a 8),Ac (a 14),Ac (a 19),Ac (a 8),Ac (a 20),Ac (a 25),Ac (a 8),Ac (a 26),Ac (a 31),Ac (a 48),Ac (a 54),Ac (a 59),Ac (a 48),Ac (a 60),Ac (a 65),Ac (a 82),Ac (a 88),Ac (a 93),Ac (a 150),Ac (a 156),Ac (a 161)],rfl,rfl,rfl,rfl,by kernel_rfl⟩
 ·exact Bc (pQ w g n m tp d) [] k i j (Az _ _ (Ah (λ_ _ _=>DI h (by (first|lia|omega))) Ay)) (Bi _ _ (AA (λ_ _ _=>by rw[e]) Bp)) λb a l=>⟨[b 49,b 47,b 8,b 9,b 10,b 15,b 16,b 21,b 30],[Ac 0,Ac tp,Ac 0,Ac 0,Ac (a 8),Ac (a 14),Ac (a 19),Ac (a 8),Ac (a 20),Ac (a 25),Ac (a 8),Ac (a 26),Ac (a 31),Ac (a 48),Ac (a 54),Ac (a 59),Ac (a 48),Ac (a 60),Ac (a 65),Ac (a 82),Ac (a 88),Ac (a 93),Ac (a 132),Ac (a 142),Ac (a 147)],rfl,rfl,rfl,rfl,by kernel_rfl⟩
 ·exact Bc (pS w g n m tp d) [] k i j (Az _ _ (Ah (λ_ _ _=>DI h (by (first|lia|omega))) Ay)) (Bi _ _ (AA (λ_ _ _=>by rw[e]) Bp)) λb a l=>⟨[b 49,b 47,b 8,b 9,b 10,b 15,b 16,b 21,b 30],[Ac 0,Ac tp,Ac 0,Ac 0,Ac (a 8),Ac (a 14),Ac (a 19),Ac (a 8),Ac (a 20),Ac (a 25),Ac (a 8),Ac (a 26),Ac (a 31),Ac (a 48),Ac (a 54),Ac (a 59),Ac (a 48),Ac (a 60),Ac (a 65),Ac (a 82),Ac (a 88),Ac (a 93),Ac (a 132),Ac (a 138),Ac (a 143)],rfl,rfl,rfl,rfl,by kernel_rfl⟩
 ·exact Bc (pU w g n m tp d) [] k i j (Az _ _ (Ah (λ_ _ _=>DI h (by (first|lia|omega))) Ay)) (Bi _ _ (AA (λ_ _ _=>by rw[e]) Bp)) λb a l=>⟨[b 49,b 47,b 8,b 9,b 10,b 15,b 16,b 21,b 30],[Ac 0,Ac tp,Ac 0,Ac 0,Ac (a 8),Ac (a 14),Ac (a 19),Ac (a 8),Ac (a 20),Ac (a 25),Ac (a 8),Ac (a 26),Ac (a 31),Ac (a 48),Ac (a 54),Ac (a 59),Ac (a 48),Ac (a 60),Ac (a 65),Ac (a 82),Ac (a 88),Ac (a 93),Ac (a 132),Ac (a 138),Ac (a 143)],rfl,rfl,rfl,rfl,by kernel_rfl⟩
theorem rG{w:Aa}{g n m tp:Nat}{a:List Value}(d:a.length=m)(j:m≤8)(b:m%2=0):Av w (Ib g n 0 tp a 1 (I5 false 0)):=by
 have b:decide ((m:Int).fmod 2=1)=false:=BH (by rw[Nw _ (by decide)];(first|lia|omega));refine Ba.ext λA e h i=> ?_;exact Bc (pV w g n m tp a) [] i e h (Az _ _ (Ah (λ_ _ _=>DI d (by (first|lia|omega))) Ay)) (Bi _ _ (AA (λ_ _ _=>by rw[b]) Bp)) λc k l=>⟨[c 3,c 2],[Ac 0,Ac 0,Ac 0,Ac 0],rfl,rfl,rfl,rfl,by kernel_rfl⟩
theorem rH{w:Aa}{g n m c tp:Nat}{d:List Value}(h:d.length=m)(o:m≤8)(e:m%2=0)(r:0<c)(s:c<8):Av w (Ib g n c tp d 4 (I5 false c)):=by
 have e:decide ((m:Int).fmod 2=1)=false:=BH (by rw[Nw _ (by decide)];(first|lia|omega));refine Ba.ext λA i j k=> ?_;have:c=1∨c=2∨c=3∨c=4∨c=5∨c=6∨c=7:=by (first|lia|omega)
 rcases this with rfl|rfl|rfl|rfl|rfl|rfl|rfl
 ·exact Bc (pX w g n m tp d) [] k i j (Az _ _ (Ah (λ_ _ _=>DI h (by (first|lia|omega))) Ay)) (Bi _ _ (AA (λ_ _ _=>by rw[e]) Bp)) λb a l=>⟨[b 4,b 6,b 7,b 8,b 9],[Ac 4,Ac (a 9),Ac (a 12),Ac 0,Ac (a 16),Ac (a 19),Ac 0,Ac (a 23),Ac (a 26),Ac 0,Ac (a 30),Ac (a 33),Ac 0],rfl,rfl,rfl,rfl,by kernel_rfl⟩
 ·exact Bc (pY w g n m tp d) [] k i j (Az _ _ (Ah (λ_ _ _=>DI h (by (first|lia|omega))) Ay)) (Bi _ _ (AA (λ_ _ _=>by rw[e]) Bp)) λb a l=>⟨[b 4,b 6,b 7,b 8,b 9],[Ac 4,Ac (a 9),Ac (a 12),Ac 0,Ac (a 13),Ac (a 16),Ac 0,Ac (a 23),Ac (a 26),Ac 0,Ac (a 27),Ac (a 30),Ac 0],rfl,rfl,rfl,rfl,by kernel_rfl⟩
 ·exact Bc (rA w g n m tp d) [] k i j (Az _ _ (Ah (λ_ _ _=>DI h (by (first|lia|omega))) Ay)) (Bi _ _ (AA (λ_ _ _=>by rw[e]) Bp)) λb a l=>⟨[b 4,b 6,b 7,b 8,b 9],[Ac 4,Ac (a 9),Ac (a 12),Ac 0,Ac (a 13),Ac (a 16),Ac 0,Ac (a 23),Ac (a 26),Ac 0,Ac (a 27),Ac (a 30),Ac 0],rfl,rfl,rfl,rfl,by kernel_rfl⟩
 ·exact Bc (rB w g n m tp d) [] k i j (Az _ _ (Ah (λ_ _ _=>DI h (by (first|lia|omega))) Ay)) (Bi _ _ (AA (λ_ _ _=>by rw[e]) Bp)) λb a l=>⟨[b 4,b 6,b 7,b 8,b 9],[Ac 4,Ac (a 9),Ac (a 12),Ac 0,Ac (a 13),Ac (a 16),Ac 0,Ac (a 17),Ac (a 20),Ac 0,Ac (a 21),Ac (a 24),Ac 0],rfl,rfl,rfl,rfl,by kernel_rfl⟩
 ·exact Bc (rC w g n m tp d) [] k i j (Az _ _ (Ah (λ_ _ _=>DI h (by (first|lia|omega))) Ay)) (Bi _ _ (AA (λ_ _ _=>by rw[e]) Bp)) λb a l=>⟨[b 4,b 6,b 7,b 8,b 9],[Ac 4,Ac (a 9),Ac (a 12),Ac 0,Ac (a 13),Ac (a 16),Ac 0,Ac (a 17),Ac (a 20),Ac 0,Ac (a 21),Ac (a 24),Ac 0],rfl,rfl,rfl,rfl,by kernel_rfl⟩
 ·exact Bc (rD w g n m tp d) [] k i j (Az _ _ (Ah (λ_ _ _=>DI h (by (first|lia|omega))) Ay)) (Bi _ _ (AA (λ_ _ _=>by rw[e]) Bp)) λb a l=>⟨[b 4,b 6,b 7,b 8,b 9],[Ac 4,Ac (a 9),Ac (a 12),Ac 0,Ac (a 13),Ac (a 16),Ac 0,Ac (a 17),Ac (a 20),Ac 0,Ac (a 21),Ac (a 24),Ac 0],rfl,rfl,rfl,rfl,by kernel_rfl⟩
 ·exact Bc (rE w g n m tp d) [] k i j (Az _ _ (Ah (λ_ _ _=>DI h (by (first|lia|omega))) Ay)) (Bi _ _ (AA (λ_ _ _=>by rw[e]) Bp)) λb a l=>⟨[b 4,b 6,b 7,b 8,b 9],[Ac 4,Ac (a 9),Ac (a 12),Ac 0,Ac (a 13),Ac (a 16),Ac 0,Ac (a 17),Ac (a 20),Ac 0,Ac (a 21),Ac (a 24),Ac 0],rfl,rfl,rfl,rfl,by kernel_rfl⟩
noncomputable abbrev RU:Expr:=sk (lw 7) 0 []
noncomputable abbrev WQ(f a b:Nat):Env:={scope:={Fp RU with names:=[(Hy,.local),(DE,.local),(yK,.globalImplicit),(xT,.globalImplicit),(xU,.globalImplicit),(GP,.cell)]},locals:=b,globals:=3,cells:=[(GP,a)],qual:=⟨⟨MZ⟩⟩,func:=none,code:=.ref 331,frame:=some f,builtins:=0}
noncomputable abbrev M0(f b c d a:Nat):Code:=.compLoop RU 0 (.ref d) (.ref a) (WQ f b c)
noncomputable abbrev WR(P:Aj)(y:Nat)(v:Value)(z:Bool):Obj:=di (cond z [Aq P DE y v] []) (cond z 1 0)
theorem rI(w:Aa)(f r l d s n A o B i k e t m c y:Nat)(G:Value)(C D E u:List Value)(a b:List Int)(z:Bool):
  AD w 51 (M0 f r s l d) ([(r,As n),(n,li E A),(l,liO o i),(o,li C B),(d,li D k),(s,WR w.2 y G z),(e,li u t)]) (dg 7 982453861745) (AB [(0,[2,3]),(0,[6]),(1,[1,6]),(0,[7]),(0,[4])] ([λg h j=>CW l o i C B (.ref e),λg h j=>Dg e u t m,λg h j=>QI n e A t E u a b,λg h j=>KC (tk g 0) (BD (DP a b 8) λi=>Ao j (3+i)) (DP a b 8).length (DP a b 8),λg h j=>Ck d D k (.ref (tk g 1))])) (Bh [0] [λg h j=>(.int ((8:Int)-(m:Nat)) (tk h 3),.int (c:Nat) (tk h 3))]) 0 450 2200 (zr 7 [8])
   (λF v H=>.again (M0 f r s l d)) (λF v H=>[(r,As n),(n,li E A),(l,liO o (i+1)),(o,li C B),(d,li (D++[.ref (F 1)]) (k+1)),(s,di [Ad w DE (cond z y (v 0)) (.ref e)] 1),(e,li u t),(F 1,tu [.int c (v 3),.str (BY (DP a b 8)) (v 4),.ref e] 0)]) 5:=by
 cases z <;> kernel_rfl
theorem rJ(w:Aa)(f g a e h b i c:Nat)(d:List Value):
  AD w 10 (M0 f g h a e) (FP a b i d c) [1,4] (IZ a b i d c) [] 0 450 2200 [0,1]
   (λj k l=>.done .next) (λj k l=>(I0 a i b d c)) 0:=by
 kernel_rfl
structure FE where
 A:Nat
 F:List Int
 g:Nat→Nat
noncomputable def FZ(L:List FE):Ae:=L.map λe=>(e.A,li (BD e.F e.g) 0)
structure TE where
 T:Nat
 c:Nat
 ct:Nat
 s:Str
 st:Nat
 fj:Nat
noncomputable def CJ(e:TE):Obj:=tu [.int e.c e.ct,.str e.s e.st,.ref e.fj] 0
noncomputable def TL(L:List TE):Ae:=L.map λe=>(e.T,CJ e)
noncomputable abbrev AL(L:List TE):List Value:=L.map λe=>Value.ref e.T
noncomputable abbrev Fe(L:List FE):List Value:=L.map λe=>Value.ref e.A
structure WS(a:List Int)(L:List FE)(i:Nat)(R:List TE):Prop where
 len:R.length=i
 at': ∀j (h:j<i) (h1:j<R.length) (h2:j<L.length),R[j].c=8-L[j].F.length∧R[j].s=BY (DP a L[j].F 8)∧R[j].fj=L[j].A
inductive Ic (P:Aj) (L:List FE):Nat→Obj→Prop
 |a:Ic P L 0 (di [] 0)
 |b (i y:Nat) (h:i<L.length):Ic P L (i+1) (di [Aq P DE y (.ref L[i].A)] 1)
theorem Ic.shape{P:Aj}{L:List FE}{i:Nat}{d:Obj}(h:Ic P L i d):Ew λy v z=>d=WR P y v z:=by
 cases h with
 |a=>exact⟨0,.none,false,rfl⟩
 |b i y h=>exact⟨y,_,true,rfl⟩
inductive WT (w:Aa) (cg it acc cl gt gn fs fn:Nat) (xs:List Value) (a:List Int) (L:List FE) (r:Result) (L':Ae) (ts:List Nat):Prop
 |mk (hr:r= .ok .next) (ht:ts=[]) (R':List TE) (oc:Obj) (h1:WS a L L.length R') (h2:Ic w.2 L L.length oc) (hL:L'=[(cg,ce (some (.ref gt))),(gt,li xs gn),(it,fi Bo [.none,.int (L.length:Int) 0]),(fs,li (Fe L) fn),(acc,li (AL R') L.length),(cl,oc)]++FZ L++TL R')
theorem rK{w:Aa}{A:Al}(E:A.handled=none)(G:A.depth≤450)(H:A.units≤2200){f cg it acc cl gt gn fs fn:Nat}{h:List Value}{a:List Int}(N:AV h a){L:List FE}(hl:L.length≤900)(O: ∀e∈L,e.F.length≤8):
  ∀(k i:Nat),i+k=L.length→ ∀(d:Obj) (R:List TE),Ic w.2 L i d→WS a L i R→
  RunsW w A (M0 f cg cl it acc) ([(cg,As gt),(gt,li h gn),(it,liO fs i),(fs,li (Fe L) fn),(acc,li (AL R) i),(cl,d)]++FZ L++TL R)
   (WT w cg it acc cl gt gn fs fn h a L):=by
 intro k
 induction k with
 |zero=>
  intro i P d R B o;obtain rfl:i=L.length:=by (first|lia|omega)
  refine FN ([(cg,As gt),(gt,li h gn),(acc,li (AL R) L.length),(cl,d)]++FZ L++TL R) (L1:=[(it,liO fs L.length),(fs,li (Fe L) fn)]) ?_
   (Bc (rJ w f cg it acc cl fs L.length fn (Fe L)) [] E G H (Az _ _ (Ah (λ_ _ _=>HK (by simp[Fe])) Ay)) Ar (Φ:=λr Q c=>c=[]∧r= .ok .next∧Q=[(it,fi Bo [.none,.int (L.length:Int) 0]),(fs,li (Fe L) fn)]) λS U V=>⟨rfl,rfl,rfl⟩) λr L0 c ⟨Y,M,D⟩=>⟨_,?_,M,Y,R,d,o,B,rfl⟩
  ·exact AM [_,_] [_,_,_,_,_,_] [0,2,1,3,0,7,0,4,5,7,9,11,2,4] [0,9,0,6,5,7,1,3,9,11,2,4]
  ·rw[D]
   exact AM [_,_] [_,_,_,_,_,_] [0,2,1,3,0,7,0,4,5,7,9,11,2,4] [0,9,0,6,5,7,1,3,9,11,2,4]
 |succ k Z=>
  intro i P d R B o;have s:i<L.length:=by (first|lia|omega)
  have gv:(Fe L)[i]? =some (.ref L[i].A):=by simp[Fe,s]
  have rl:=o.len;have ul:(AL R).length≤1000:=by simp[AL];(first|lia|omega)
  have aa:=O L[i] (Db s);have I:=JJ L[i].F L[i].g;have X:DF w [λm c n=>CW it fs i (Fe L) fn (.ref L[i].A),λm c n=>Dg L[i].A (BD L[i].F L[i].g) 0 L[i].F.length,λm c n=>QI gt L[i].A gn 0 h (BD L[i].F L[i].g) a L[i].F,λm c n=>KC (tk m 0) (BD (DP a L[i].F 8) λi=>Ao n (3+i)) (DP a L[i].F 8).length (DP a L[i].F 8),λm c n=>Ck acc (AL R) i (.ref (tk m 1))]:=
   Ah (λ_ _ _=>G2 gv) (Ah (λ_ _ _=>DI (G1 I) (by (first|lia|omega))) (Ah (λ_ _ _=>uQ N I) (Ah (λ_ _ _=>OH (JJ _ _)) (Ah (λ_ _ _=>EB ul) Ay))))
  have W:E8 [λm c n=>(.int ((8:Int)-(L[i].F.length:Nat)) (tk c 3),.int (8-L[i].F.length:Nat) (tk c 3))]:=AA (λ_ _ _=>by rw[show((8:Int)-(L[i].F.length:Nat))=((8-L[i].F.length:Nat):Int) by (first|lia|omega)]) Bp;have J:(FZ L).Perm ((L[i].A,li (BD L[i].F L[i].g) 0)::FZ (L.eraseIdx i)):=(MP L i s).symm.map λe:FE=>(e.A,li (BD e.F e.g) 0)
  have pr: ∀o1 o2 o3 o4 C l:Obj,([(cg,o1),(gt,o2),(it,o3),(fs,o4),(acc,C),(cl,l),(L[i].A,li (BD L[i].F L[i].g) 0)]++(FZ (L.eraseIdx i)++TL R)).Perm ([(cg,o1),(gt,o2),(it,o3),(fs,o4),(acc,C),(cl,l)]++FZ L++TL R):=λo1 o2 o3 o4 C l=>by
   exact(AM [_,_] [_,_,_,_,_,_,_] [0,7,1,3,5,7,9,11,13,0,1,2,4] [0,2,13,2,1,3,5,7,9,11,0,1,4]).trans ((FD _ J.symm).trans (AM [_,_] [_,_,_,_,_,_] [0,1,2,1,3,5,7,9,11,0,1,4] [0,9,0,6,1,3,5,7,9,11,2,4]))
  have fin: ∀{l:Obj} {T t u:Nat},Ic w.2 L (i+1) l→ ∃K,([(cg,As gt),(gt,li h gn),(it,liO fs (i+1)),(fs,li (Fe L) fn),(acc,li (AL R++[.ref T]) (i+1)),(cl,l),(L[i].A,li (BD L[i].F L[i].g) 0),(T,tu [.int (8-L[i].F.length:Nat) t,.str (BY (DP a L[i].F 8)) u,.ref L[i].A] 0)]++(FZ (L.eraseIdx i)++TL R)).Perm K∧
    RunsW w A (M0 f cg cl it acc) K (WT w cg it acc cl gt gn fs fn h a L):=λ {l T t u} h6=>by
   let e:TE:=⟨T,8-L[i].F.length,t,BY (DP a L[i].F 8),u,L[i].A⟩
   refine⟨[(cg,As gt),(gt,li h gn),(it,liO fs (i+1)),(fs,li (Fe L) fn),(acc,li (AL (R++[e])) (i+1)),(cl,l)]++FZ L++TL (R++[e]),?_,Z (i+1) (by (first|lia|omega)) l (R++[e]) h6 ⟨by simp[rl],λj hj M D=> ?_⟩⟩
   ·have e1:AL R++[.ref T]=AL (R++[e]):=by simp[AL,e]
    have e2:TL (R++[e])=TL R++[(T,tu [.int (8-L[i].F.length:Nat) t,.str (BY (DP a L[i].F 8)) u,.ref L[i].A] 0)]:=by simp[TL,CJ,e]
    rw[e1,e2];exact(AM [_,_] [_,_,_,_,_,_,_,_] [0,8,1,3,5,7,9,11,13,15,0,1,2,4] [0,2,13,2,1,3,5,7,9,11,15,0,1,4]).trans ((FD _ J.symm).trans (AM [_,_] [_,_,_,_,_,_,_] [0,1,2,1,3,5,7,9,11,13,0,1,4] [0,9,0,6,1,3,5,7,9,11,2,0,1,4,13]))
   ·by_cases q:j<i
    ·have:=o.at' j q (by (first|lia|omega)) D
     rw[List.getElem_append_left (by (first|lia|omega))];exact this
    ·obtain rfl:i=j:=by (first|lia|omega)
     have e3:(R++[e])[i]=e:=by rw[List.getElem_append_right (by (first|lia|omega))];simp[rl]
     rw[e3];exact⟨rfl,rfl,rfl⟩
  obtain⟨y,v,z,rfl⟩:=B.shape;exact ER (rI w f cg it acc cl gt gn fs fn i i L[i].A 0 L[i].F.length (8-L[i].F.length) y v (Fe L) (AL R) h (BD L[i].F L[i].g) a L[i].F z) (FZ (L.eraseIdx i)++TL R) (pr _ _ _ _ _ _) [] E G H (Az _ _ X) (Bi _ _ W) λS U V=>fin (.b i _ s)
noncomputable def Gw(h:Nat)(a:Nat→Nat)(F:Nat→List Int)(g:Nat→Nat→Nat):List FE:=(List.range h).map λj=>⟨a j,F j,g j⟩
noncomputable def Ie(P:Aj)(f k l e m i n s t h:Nat)(v:List Value)(a:List Int)(b:Nat→Nat)(F:Nat→List Int)(g:Nat→Nat→Nat):Ak:=
 {d:=450,u:=2200,h:=none,c:=.compStart RU 0 (.ref l) (.ref e) (WQ f k m),idx:=[],pre:=[(k,As i),(i,li v n),(l,liO s 0),(s,li ((List.range h).map λj=>.ref (b j)) t),(e,li [] 0),(m,di [] 0)]++(List.range h).map λj=>(b j,li (BD (F j) (g j)) 0),na:=h,nt:=0,no:=2+2*h,r:=λ_ _=>.ok .next,
  outs:=λw _ o=>[As i,li v n,o.getD 0 default,li ((List.range h).map λj=>.ref (b j)) t,li ((List.range h).map λj=>.ref (w.getD j 0)) h,di [Aq P DE (Ao o 1) (.ref (b (h-1)))] 1]++(List.range h).map λj=>li (BD (F j) (g j)) 0,
  news:=λ_ _ o=>(List.range h).map λj=>tu [.int (8-(F j).length:Nat) (Ao o (2+2*j)),.str (BY (DP a (F j) 8)) (Ao o (3+2*j)),.ref (b j)] 0}
noncomputable def two{a:Type}(f g:Nat→a):Nat→List a
 |0=>[]
 |n+1=>two f g n++[f n,g n]
theorem RV{a:Type}(f g:Nat→a): ∀n,(two f g n).length=2*n
 |0=>rfl
 |n+1=>by rw[two,EH,RV f g n];refine (?_:2*n+2=_);(first|lia|omega)
theorem rL{a:Type}(f g:Nat→a)(z:a): ∀n j,j<n→(two f g n).getD (2*j) z=f j∧(two f g n).getD (2*j+1) z=g j:=by
 intro n
 induction n with
 |zero=>intro j h;(first|lia|omega)
 |succ n b=>
  intro j h;have l:=RV f g n;unfold two
  by_cases q:j<n
  ·have:=b j q
   simp only[List.getD]at this⊢;rw[J2 (by (first|lia|omega)),J2 (by (first|lia|omega))];exact this
  ·obtain rfl:n=j:=by (first|lia|omega)
   simp only[List.getD];rw[Nv (by (first|lia|omega)),Nv (by (first|lia|omega)),l];have e:2*n+1-2*n=1:=by (first|lia|omega)
   rw[Nat.sub_self,e];exact⟨rfl,rfl⟩
theorem Ic.inv{P:Aj}{L:List FE}{n:Nat}{c:Obj}(h:Ic P L n c)(e:0<n): ∃(y:Nat) (g:n-1<L.length),c=di [Aq P DE y (.ref L[n-1].A)] 1:=by
 cases h with
 |a=>(first|lia|omega)
 |b i y d=>exact⟨y,d,rfl⟩
theorem RW{w:Aa}{f B C i D m n s u h:Nat}{v:List Value}{a:List Int}{d:Nat→Nat}{F:Nat→List Int}{g:Nat→Nat→Nat}(S:AV v a)(U:0<h)(V:h≤900)(W: ∀j,j<h→(F j).length≤8):Av w (Ie w.2 f B C i D m n s u h v a d F g):=by
 have E:(Gw h d F g).length=h:=by simp[Gw]
 have M:Fe (Gw h d F g)=(List.range h).map λj=>.ref (d j):=by unfold Fe Gw;rw[B0];rfl
 have N:FZ (Gw h d F g)=(List.range h).map λj=>(d j,li (BD (F j) (g j)) 0):=by unfold FZ Gw;rw[B0];rfl
 refine Ba.ext λA X Y Z=> ?_;refine IA 1 (o:=liO s 0) ?_ (by simp[Ie]) (by kernel_rfl) (by kernel_rfl);have key:=rK (w:=w) (A:=A) Z X Y (f:=f) (cg:=B) (it:=C) (acc:=i) (cl:=D) (gt:=m) (gn:=n) (fs:=s) (fn:=u) S (L:=Gw h d F g) (by rw[E];exact V) (λe he=>by
  obtain⟨j,c,rfl⟩:=List.mem_map.mp he;exact W j (List.mem_range.mp c)) h 0 (by rw[E];(first|lia|omega)) (di [] 0) [] .a ⟨rfl,λj c=>absurd c (J7 j)⟩
 rw[M,N]at key;rw[show TL []=[]from rfl,BR]at key;refine Ba.mono key λr L' ts hz=> ?_;obtain⟨h1,h2,R,oc,G,O,H⟩:=hz;rw[E]at G O H;rw[M,N]at H;subst h2;have rl:R.length=h:=G.len;obtain⟨y,rfl⟩: ∃y,oc=di [Ad w DE y (.ref (d (h-1)))] 1:=by
  obtain⟨y,hn,e⟩:=O.inv U;refine⟨y,?_⟩;rw[e];have:(Gw h d F g)[h-1].A=d (h-1):=by simp[Gw]
  rw[this]
 let z:TE:=⟨0,0,0,⟨⟨[]⟩⟩,0,0⟩
 have P: ∀j (c:j<h),R.getD j z=R[j]'(by (first|lia|omega)):=λj c=>by simp[List.getD,show j<R.length by (first|lia|omega)]
 refine⟨R.map TE.T,[fi Bo [.none,.int (h:Int) 0],Ac y]++two (λj=>Ac (R.getD j z).ct) (λj=>Ac (R.getD j z).st) h,by simp[Ie,rl],rfl,by simp[Ie,RV];(first|lia|omega),h1,?_⟩;have I: ∀j,j<h→Ao ([fi Bo [.none,.int (h:Int) 0],Ac y]++two (λj=>Ac (R.getD j z).ct) (λj=>Ac (R.getD j z).st) h) (2+2*j)=(R.getD j z).ct∧Ao ([fi Bo [.none,.int (h:Int) 0],Ac y]++two (λj=>Ac (R.getD j z).ct) (λj=>Ac (R.getD j z).st) h) (3+2*j)=(R.getD j z).st:=λj c=>by
  have t:=rL (λj=>Ac (R.getD j z).ct) (λj=>Ac (R.getD j z).st) default h j c;have Q: ∀(l:List Obj) (a b:Obj) (k:Nat),Ao ([a,b]++l) (2+k)=BQ (l.getD k default):=λl a b k=>by rw[Nat.add_comm];rfl
  rw[show 3+2*j=2+(2*j+1) by (first|lia|omega),Q,Q,t.1,t.2];exact⟨rfl,rfl⟩
 have o0:([fi Bo [.none,.int (h:Int) 0],Ac y]++two (λj=>Ac (R.getD j z).ct) (λj=>Ac (R.getD j z).st) h).getD 0 default=fi Bo [.none,.int (h:Int) 0]:=rfl;have o1:Ao ([fi Bo [.none,.int (h:Int) 0],Ac y]++two (λj=>Ac (R.getD j z).ct) (λj=>Ac (R.getD j z).st) h) 1=y:=rfl;generalize [fi Bo [.none,.int (h:Int) 0],Ac y]++two (λj=>Ac (R.getD j z).ct) (λj=>Ac (R.getD j z).st) h=os at I o0 o1;have J:R=(List.range h).map λj=>R.getD j z:=by rw[←rl];exact(OV R z).symm
 have eT:R.map TE.T=(List.range h).map λj=>(R.getD j z).T:=by
  conv=>lhs;rw[J]
  rw[B0];rfl
 have eN:(Ie w.2 f B C i D m n s u h v a d F g).news (R.map TE.T) [] os=(List.range h).map λj=>CJ (R.getD j z):=by
  show(List.range h).map _=_;refine DW λj c=> ?_;have c:=List.mem_range.mp c;have q:=G.at' j c (by (first|lia|omega)) (by rw[E];exact c);rw[←P j c]at q;have eA:(Gw h d F g)[j]'(by rw[E];exact c)=⟨d j,F j,g j⟩:=by simp[Gw]
  rw[eA]at q;unfold CJ;rw[q.1,q.2.1,q.2.2,(I j c).1,(I j c).2]
 have e2:BI (R.map TE.T) ((List.range h).map λj=>CJ (R.getD j z))=TL R:=by
  rw[eT,Rj];conv=>rhs;rw[J]
  unfold TL;rw[B0];rfl
 have K:AL R=(List.range h).map λj=>.ref ((R.map TE.T).getD j 0):=by
  conv=>lhs;rw[J]
  unfold AL;rw[B0];refine DW λj c=> ?_;have c:=List.mem_range.mp c;refine (?_:Value.ref (R.getD j z).T=_);rw[P j c];simp[List.getD,show j<R.length by (first|lia|omega)]
 have e1:(Ie w.2 f B C i D m n s u h v a d F g).outs (R.map TE.T) [] os=[As m,li v n,fi Bo [.none,.int (h:Int) 0],li ((List.range h).map λj=>.ref (d j)) u,li (AL R) h,di [Ad w DE y (.ref (d (h-1)))] 1]++((List.range h).map λj=>(d j,li (BD (F j) (g j)) 0)).map (·.2):=by
  show[As m,li v n,os.getD 0 default,_,_,di [Ad w DE (Ao os 1) _] 1]++_=_;rw[o0,o1,K,B0];rfl
 rw[eN,e1,e2,H];refine (?_:_=Bk ([(B,As m),(m,li v n),(C,liO s 0),(s,li ((List.range h).map λj=>.ref (d j)) u),(i,li [] 0),(D,di [] 0)]++(List.range h).map λj=>(d j,li (BD (F j) (g j)) 0)) _++TL R);rw[Wo _ _ _ rfl];rfl
theorem rM{w:Aa}{A:Al}{E:Value→Ab→Prop}{s:Ab}{a b:Int}{t u:Tok}{Q:Bool→Ab→Prop}(h:Q (decide (a<b)) s):wpAny (model pw w) A (oneLt' true (.int a t) (.int b u)) Q E s:=by
 rw[oneLt'_eq];simp only[if_true];refine Af (wpAny_cRoomFor_byValue rfl ?_);refine Af (wpAny_callSpecialIfBound?_slot (typeIs_int s a t) slot_int_lt ?_);refine wpAny_call_entry slot_int_lt (typeIs_int s a t) entry_int_lt ?_ (args_int_lt _ _);refine (?_:wpAny _ _ (ret (.bool (decide (a<b)))) _ _ s);exact Ap ⟨_,rfl,wpAny_truthy_bool h⟩
noncomputable def I6(x y:TE):Bool:=KY x.c x.s y.c y.s
theorem rN{w:Aa}{A:Al}{E:Value→Ab→Prop}{s:Ab}{x y:TE}(c:x.s≠y.s)(d:s.heap.get? x.T=some (CJ x))(g:s.heap.get? y.T=some (CJ y)){Q:Bool→Ab→Prop}(a:Q (I6 y x) s):
  wpAny (model pw w) A (keyLt' (tuples' true) (.ref x.T) (.ref y.T)) Q E s:=by
 refine kat_lt d rfl g rfl ?_;have h:EqAt A s (.str x.s x.st) (.str y.s y.st) false:=by
  have:=EqAt.str_str (A:=A) (s:=s) x.s x.st y.s y.st;rwa[beq_eq_false_iff_ne.mpr c]at this
 refine kat_cons (EqAt.int_int (A:=A) (s:=s) (x.c:Int) x.ct (y.c:Int) y.ct pw w _ _ (kat_go (λe=>kat_yes ?_) λe=>kat_no ?_))
 ·refine kat_cons (h pw w _ _ (kat_no (kat_one _ _ (P.lt_str ?_))))
  have b:x.c=y.c:=by have:=eq_of_beq e;(first|lia|omega)
  refine (?_:Q _ s);unfold I6 KY at a;rw[b]at a;simpa using a
 ·refine rM ?_
  have b: ¬x.c=y.c:=λq=>by rw[q]at e;simp at e
  have i:decide ((x.c:Int)<(y.c:Int))=I6 y x:=by
   unfold I6 KY;have:(y.c==x.c)=false:=beq_eq_false_iff_ne.mpr λq=>b q.symm;rw[this,Bool.false_and,Lu]
   by_cases z:x.c<y.c
   ·rw[CD z,CD (by (first|lia|omega))]
   ·rw[BH z,BH (by (first|lia|omega))]
  rw[i];exact a
theorem WU{h:Heap}: ∀{X:List TE},(∀e∈X,h.get? e.T=some (CJ e))→KatTups h (AL X) (X.map λe=>.int e.c e.ct)
 |[],_=>trivial
 |e::X,a=>⟨⟨e.T,CJ e,_,0,rfl,a e Bj,rfl,rfl,rfl⟩,WU λx b=>a x (BB _ b)⟩
theorem rO{w:Aa}{A:Al}{E:Value→Ab→Prop}{s:Ab}{X:List TE}(a:0<X.length)(b: ∀e∈X,s.heap.get? e.T=some (CJ e)){Q:SortKind→Ab→Prop}(c:Q (tuples' true) s):wpAny (model pw w) A (keyKind' (AL X).toArray) Q E s:=by
 refine kat_kind (T:=.type "int") (WU b) (by simpa using a) (λv d=> ?_) (by rfl) c;obtain⟨e,_,rfl⟩:=List.mem_map.mp d;exact .now
noncomputable def tz:TE:=⟨0,0,0,⟨⟨[]⟩⟩,0,0⟩
theorem RX(X:List TE){i:Nat}(a:i<X.length):(AL X).getD i .none= .ref (X.getD i tz).T:=by
 simp[AL,a]
structure Na(Y:List TE)(f:TE→Nat):Prop where
 down:Y.Pairwise λa b=>f b<f a
 gt: ∀x∈Y,∀y∈Y,f x≠f y→x.s≠y.s∧I6 y x=decide (f x<f y)
theorem rP{w:Aa}{A:Al}{E:Value→Ab→Prop}{a n:Nat}{X Y:List TE}{f:TE→Nat}(v:X.Perm Y)(K:Na Y f)(U:2≤X.length)(N:X.length<64){s:Ab}(S:An (kt w) s ((a,li (AL X) n)::TL Y)){P:AE→Ab→Prop}
  (h: ∀l,Ag (kt w) s l ((a,li (AL X) n)::TL Y) ((a,li (AL Y) (n+2))::TL Y)→P (.done (.ret .none)) l):wpAny (model pw w) A (ET a true) P E s:=by
 have t:(AL X).length=X.length:=by simp[AL]
 have O:katRev true (AL X)=AL X.reverse:=by simp[katRev,AL]
 have y: ∀{i},i<X.length→X.reverse.getD i tz∈Y:=λ {i} c=>by
  have o:i<X.reverse.length:=by simpa using c
  rw[show X.reverse.getD i tz=X.reverse[i] by simp[List.getD,c]];exact v.mem_iff.mp (List.mem_reverse.mp (Db o))
 have V:X.reverse.Perm Y.reverse:=(GD X).trans (v.trans (GD Y).symm);have I:X.reverse.Pairwise (λa b=>f a≠f b):=by
  have:Y.Pairwise (λa b=>f a≠f b):=K.down.imp λh=>Ne.symm (CS h);exact(((GD X).trans v).pairwise_iff λ {a b} h=>Ne.symm h).mpr this
 have z: ∀i j,i<X.length→j<X.length→f (X.reverse.getD i tz)=f (X.reverse.getD j tz)→i=j:=λi j c k J=>by
  rw[F9]at I;have o:i<X.reverse.length:=by simpa using c
  have D:j<X.reverse.length:=by simpa using k
  rw[show X.reverse.getD i tz=X.reverse[i] by simp[List.getD,c],show X.reverse.getD j tz=X.reverse[j] by simp[List.getD,k]]at J;rcases Jf i j with h|h|h
  ·exact absurd J (I i j o D h)
  ·exact h
  ·exact absurd J.symm (I j i D o h)
 have L: ∀{s:Ab} {n:Nat} {R:List Value},An (kt w) s ((a,li R n)::TL Y)→ ∀e∈Y,s.heap.get? e.T=some (CJ e):=λ {s n R} m e M=>m.mem (e.T,CJ e) (BB _ (List.mem_map.mpr ⟨e,M,rfl⟩));refine OL (κ:=tuples' true) (F:=TL Y) (r:=λi=>f (X.reverse.getD i tz)) (by rw[t];exact U) (by rw[t];exact N) (λi j c k e=>z i j (t▸c) (t▸k) e) (λl Q m W=> ?_) (λi j l C c k T m Z=> ?_) S λl p u G H=> ?_
 ·exact rO (by (first|lia|omega)) (λe M=>L m e (v.mem_iff.mp M)) W
 ·rw[t]at c k
  rw[O,RX _ (by simpa using c),RX _ (by simpa using k)];have ne:f (X.reverse.getD i tz)≠f (X.reverse.getD j tz):=λe=>T (z i j c k e);have g:=K.gt _ (y c) _ (y k) ne;refine rN g.1 (L m _ (y c)) (L m _ (y k)) ?_;rw[g.2];exact Z l (.refl m)
 ·rw[t]at u G
  have key:=ON (d:=tz) (f:=f) (B:=X.reverse) (B':=Y.reverse) (by (first|((repeat(first|exact .head _|apply List.mem_cons_of_mem));done)|simp)) u G V.symm (by rw[List.pairwise_reverse];exact K.down);have em:katRev true (p.toList.map λi=>(katRev true (AL X)).getD i .none)=AL Y:=by
   have:AL Y.reverse=(p.toList.map λi=>X.reverse.getD i tz).map λe=>Value.ref e.T:=by rw[key]
   rw[O];have e2:(p.toList.map λi=>(AL X.reverse).getD i .none)=AL Y.reverse:=by
    rw[this,B0];apply DW;intro i c;exact RX _ (by simpa using List.mem_range.mp (u.mem_iff.mp c))
   rw[e2];simp[katRev,AL]
  rw[em]at H;exact h l H
theorem rQ(a:Value):argsOk "sorted" ⟨[a],[(G6,.bool true)]⟩:=by unfold argsOk;kernel_rfl
noncomputable def rR(b n:Nat)(X Y:List TE):Ak:=
 {d:=500,u:=2800,h:=none,c:=.call (.builtin Kl) ⟨[.ref b],[(G6,.bool true)]⟩,idx:=[],pre:=[(b,li (AL X) n)]++TL Y,na:=1,nt:=0,r:=λa _=>.ok (.ret (.ref (a.getD 0 0))),outs:=λ_ _ _=>[li (AL X) n]++Y.map CJ,news:=λ_ _ _=>[li (AL Y) 2]}
theorem Pd: ∀X:List TE,Bk (TL X) (X.map CJ)=TL X
 |[]=>rfl
 |e::X=>Am (_:: ·) (Pd X)
theorem rS{w:Aa}{A:Al}{E:Value→Ab→Prop}{s:Ab}{a:Nat}{x:TE}{X Y:List TE}(i:X=[x])(j:Y=[x])(k:A.handled=none)(l:A.depth≤590)(m:A.units≤3700)(S:An (kt w) s ((a,li (AL X) 0)::TL Y)){P:AE→Ab→Prop}
  (h: ∀d,Ag (kt w) s d ((a,li (AL X) 0)::TL Y) ((a,li (AL Y) 2)::TL Y)→P (.done (.ret .none)) d):wpAny (model pw w) A (ET a true) P E s:=by
 subst i j;refine Bq (WC w _ x.T) MQ (Ai te8237150286054735562 _) [] k l m AR Ar (S.part (TL [x]) (La:=[(_,li (AL [x]) 0)]) (AX _)) λn o r d e g _ b=> ?_;have b:MQ e= .ret .none:=b;cases e with
 |again c=>cases b
 |done f=>
  obtain rfl:f= .ret .none:=b;exact h d (Ag.part (TL [x]) S (La:=[(_,li (AL [x]) 0)]) (AX _) g)
theorem rT{w:Aa}{rs n:Nat}{X Y:List TE}{f:TE→Nat}(a:X.Perm Y)(K:Na Y f)(o:0<X.length)(b:X.length<64):Av w (rR rs n X Y):=by
 intro A i j k s S _;have l:A.in1.in1.handled=none:=k;have c:A.in1.units≤2801:=CC j 1;refine Rp (ws:=AL Y) (rQ _) (λD=>Wt _) (λD=>Wr D true) (by simp[AL];(first|lia|omega)) S (λ {D d P E} S h=> ?_) λd D e=>⟨[D],[],[],rfl,rfl,rfl,rfl,?_,e.toks⟩
 ·by_cases m:2≤X.length
  ·exact rP a K m b S h
  ·obtain⟨x,g⟩: ∃x,X=[x]:=List.length_eq_one_iff.mp (by (first|lia|omega))
   exact rS g (List.perm_singleton.mp (g▸a).symm) l (AC (show A.in1.in1.depth≤500 from i) (by decide)) (AC (CC c 1) (by decide)) S h
 ·refine (?_:Ag (kt w) s d ([(rs,li (AL X) n)]++TL Y) ((rs,_)::Bk (TL Y) (Y.map CJ)++[(D,_)]))
  rw[Pd];exact e
noncomputable def Nb(a b:Nat)(e g i:List Value)(n k:Nat):Ak:=
 {d:=900,u:=9000,h:=none,c:=.call (.builtin Qa) ⟨[.ref a,.ref b],[]⟩,idx:=[],pre:=[(a,li e n),(b,li g k)],na:=1,nt:=0,r:=λa _=>.ok (.ret (.ref (a.getD 0 0))),outs:=λ_ _ _=>[li e n,li g k],news:=λ_ _ _=>[li i 0]}
theorem WV{w:Aa}{a b n k:Nat}{c d j:List Value}(m:c.length+d.length≤1000)(hz:c++d=j):Av w (Nb a b c d j n k):=by
 subst hz;refine GT λA s t u v S R r=> ?_;have i:=S.mem (a,li c n) (by simp[Nb]);have g:=S.mem (b,li d k) (by simp[Nb]);rw[BX]at i g;refine (?_:codeAny _ _ (.call (.builtin Qa) _) _ s);rw[qN];refine DV F.slot_list_add.plain F.entry_list_add (F.slot_list_add.check _ _ _ _ _ _ _ _ ⟨_,i,rfl⟩ (F.args_list_add_2 _ _) ?_);unfold Builtin.«list.__add__»;refine Af (GI (show slotArgs "__add__" 1 ⟨[.ref a,.ref b],[]⟩=pure (.ref a,[.ref b])from rfl) ?_);dsimp only;refine Af (wpAny_isInstance (T:="list") ⟨_,g,rfl⟩ AutoSeq1.sub_list_list ?_);rw[AI (by (first|((repeat(first|exact .head _|apply List.mem_cons_of_mem));done)|simp))];refine Af (listItems_at i rfl ?_);refine Af (listItems_at g rfl ?_);have h:=S.push (o:=li (c++d) 0) rfl;have l:(li (c++d) 0:Obj)={cls:=.type "list",data:=.seq ((⟨c⟩:Array Value)++⟨d⟩)}:=by
  rw[BX];congr 2;(first|((repeat(first|exact .head _|apply List.mem_cons_of_mem));done)|simp)
 rw[l]at h;refine Af (wpAny_newObj_type (Ap (r _ [s.heap.objs.size] [] [] rfl rfl rfl ?_ (A8 _))) ?_)
 ·refine (?_:Ag (kt w) s _ [(a,li c n),(b,li d k)] [(a,li c n),(b,li d k),(s.heap.objs.size,li (c++d) 0)])
  rw[l];exact h
 ·have e:((⟨c⟩:Array Value)++⟨d⟩).size=c.length+d.length:=by (first|((repeat(first|exact .head _|apply List.mem_cons_of_mem));done)|simp)
  show((⟨c⟩:Array Value)++⟨d⟩).size≤sizeLine;rw[e];exact AC m (by decide)
noncomputable def Cz(a i:Nat):Nat→Nat:=chOf (ED.getD ((i+a)%16) [])
noncomputable def Dh(a:Nat)(T:List Nat)(i:Nat):Nat:=T.getD ((i+a)%16) 0
noncomputable def RY(c:Bool)(d n g t e:Nat)(A:Nat→Nat→Nat)(a b i:Nat→Nat)(h:Nat):Ak:=
 {RM d n g t e A a b i h with pre:=(match c with|true=>[]|false=>[(0,li [] 0),(0,li [] 0)])++[(d,li (Ca A a 16) n),(248,AP [])],outs:=λ_ _ o=>(match c with|true=>[]|false=>[li [] 0,li [] 0])++[li (Ca A a 16) n,AP (MG (o.getD 0 default))]}
theorem rU(w:Aa)(f r t j l m s c:Nat)(S:Int)(n:List Value)(p:Nat→Bool)(u:Nat→Nat)(h:Nat):
  AG w 183 (tw14873425280484609581 f r t) ([(f,fr [] 0),(r,As j),(t,ce none),(j,li n l),(248,AP [])]) (dg 15 0x4b0f39c9a573305593427a70f4806842f4e2475e4afcdef7ccf3bee093085) (AB [(4,[1,3,6,7,8]),(0,[3]),(2,[3]),(1,[]),(0,[9,10]),(0,[9,12]),(0,[11,13]),(0,[7]),(0,[14,4])] ([λb a d=>WN w.2 f r (tk b 1) (tk b 2) (tk b 3) j l n p,λb a d=>Dg j n l m,λb a d=>RN j l n S,λb a d=>WJ,λb a d=>EW (tk b 4) (tk b 5) (Co ((a.drop 12).take 16)) 16 (.int c (tk a 10)) .none .none ((Co ((a.drop 12).take 16)).drop c),λb a d=>EW (tk b 4) (tk b 7) (Co ((a.drop 12).take 16)) 16 .none (.int c (tk a 10)) .none ((Co ((a.drop 12).take 16)).take c),λb a d=>Nb (tk b 6) (tk b 8) ((Co ((a.drop 12).take 16)).drop c) ((Co ((a.drop 12).take 16)).take c) (Ca (Cz c) (Dh c ((a.drop 12).take 16)) 16) 0 0,λb a d=>KC (tk b 2) (BD (Bz p 8) λi=>Ao (d.take 11) (3+i)) (Bz p 8).length (Bz p 8),λb a d=>RY (Nat.ble 31 a.length) (tk b 9) 0 s (tk a 30) (tk a 7) (Cz c) (Dh c ((a.drop 12).take 16)) (chOf (Bz p 8)) u h])) (Bh [4,0,0] [λb a d=>(.int ((m:Int).fmod 9) (tk a 6),.int (m%9:Nat) (tk a 6)),λb a d=>(.int ((9:Int)-(m%9:Nat)) (tk a 7),.int (s:Nat) (tk a 7)),λb a d=>(.int (S.fmod 16) (tk a 10),.int (c:Nat) (tk a 10))]) 440 2000 (zr 5 [7,9,14,15])
   (λg e o=>.done .next) (λg e o=>[(f,fr [Ad w Og (e 8) (.int s (e 7)),Ad w Of (e 11) (.int c (e 10)),Ad w Od (e 28) (.ref (g 4)),Ad w Hz (e 29) (.ref (g 9)),Ad w Oe (e 31) (.ref (g 10))] 5),(r,As j),(t,As (g 2)),(j,li n l),(248,AP (MG (o 12))),(g 2,li (BD (Bz p 8) λi=>Ao (Mr o) (3+i)) (Bz p 8).length),(g 4,li (Co (KZ e)) 16),(g 9,li (Ca (Cz c) (Dh c (KZ e)) 16) 0),(g 10,li (((List.range h).map λk=>.str (sf (Cz c (u k))) (Dh c (KZ e) (u k))).take s) (Ao [o 12,o 13] 1))]) 32:=by
 kernel_rfl
noncomputable def Nc(b n:Nat)(X:List TE)(e:List Nat):Ak:=
 {d:=500,u:=2800,h:=none,c:=.call (.builtin Kl) ⟨[.ref b],[(G6,.bool true)]⟩,idx:=[],pre:=[(b,li (AL X) n)]++TL X,na:=1,nt:=0,r:=λa _=>.ok (.ret (.ref (a.getD 0 0))),outs:=λ_ _ _=>[li (AL X) n]++X.map CJ,news:=λ_ _ _=>[li (e.map λj=>.ref (X.getD j tz).T) 2]}
theorem rV{w:Aa}{c n:Nat}{X:List TE}{b:List Nat}{f:TE→Nat}(g:b.Perm (List.range X.length))(K:Na (b.map λj=>X.getD j tz) f)(l:0<X.length)(h:X.length<64):Av w (Nc c n X b):=by
 have i:X.Perm (b.map λj=>X.getD j tz):=by
  have:=(g.map λj=>X.getD j tz).symm;rwa[OV]at this
 have e:(TL X).Perm (TL (b.map λj=>X.getD j tz)):=i.map _;have m:AL (b.map λj=>X.getD j tz)=b.map λj=>.ref (X.getD j tz).T:=by unfold AL;rw[B0];rfl
 intro A u v y s S G;have S:An (kt w) s ([(c,li (AL X) n)]++TL X):=S;refine B5 (rT (w:=w) (rs:=c) (n:=n) i K l h A u v y s (S.perm (e.append_left _)) G) ?_;rintro r k ⟨a,t,o,z,B,C,D,d,E⟩;refine⟨a,t,o,z,B,C,D,?_,E⟩;have d:Ag (kt w) s k ([(c,li (AL X) n)]++TL (b.map λj=>X.getD j tz)) (((c,li (AL X) n)::Bk (TL (b.map λj=>X.getD j tz)) ((b.map λj=>X.getD j tz).map CJ))++BI a [li (AL (b.map λj=>X.getD j tz)) 2]):=d;rw[Pd,m]at d;refine (?_:Ag (kt w) s k ([(c,li (AL X) n)]++TL X) (((c,li (AL X) n)::Bk (TL X) (X.map CJ))++BI a [li (b.map λj=>.ref (X.getD j tz).T) 2]));rw[Pd];refine(d.permL (e.symm.append_left _)).permR ?_;exact(AM [_,_] [_] [0,2,1,2,4] [0,1,2,1,0,1,4]).trans ((FD _ e.symm).trans (AM [_,_] [_] [0,1,2,1,0,1,4] [0,2,1,2,4]))
noncomputable abbrev RZ:Expr:=A9 (Br (sk (lw 6) 0 [])) 1
noncomputable def Ff(a:Nat):Obj:=⟨xR,none,.func {name:=⟨⟨[60,108,97,109,98,100,97,62]⟩⟩,qualname:=⟨⟨[108,97,119,46,60,108,111,99,97,108,115,62,46,60,108,97,109,98,100,97,62]⟩⟩,params:=XT RZ,body:=.expr (eE RZ 0),scope:=Fp RZ,globals:=3,closure:=[],defaults:=.none,kwdefaults:=.none,doc:=.none,pyModule:=.str ⟨⟨[108,97,119,95,111,104,48,49,50,48,95,48,49]⟩⟩ 772,annotations:=none,code:=.ref a,closureTuple:=.none,builtins:=0},⟨[]⟩⟩
noncomputable abbrev JU:Stmt:=AF (AO (DY 13)).reverse 1
noncomputable abbrev JV(f:Nat):Env:={scope:=EM (DY 13),locals:=f,globals:=3,cells:=[],qual:=⟨⟨[114,101,100,117,99,101,46,60,108,111,99,97,108,115,62,46]⟩⟩,func:=some 295,code:=.ref 294,frame:=some f,builtins:=0}
noncomputable abbrev Hg(P:Aj)(e:Nat→Nat)(a g b c v t:Nat)(x:List DictEntry)(m:Nat):Obj:=fr ([Aq P yD (e 0) (.ref a),Aq P yS (e 1) (.ref g),Aq P yE (e 2) (.int 0 c),Aq P DZ (e 3) (.ref b),Aq P yV (e 4) (.int v t)]++x) m
noncomputable abbrev rW:Value:=.type s5856160107412720595x4
noncomputable abbrev Fg(q u:Nat→Nat):Obj:=fi rW [.str ⟨⟨[60,108,97,109,98,100,97,62]⟩⟩ (u 0),.str ⟨⟨[108,97,119,46,60,108,111,99,97,108,115,62,46,60,108,97,109,98,100,97,62]⟩⟩ (u 1),.str ⟨⟨[47,99,108,97,105,109,47,99,117,116,46,112,121]⟩⟩ (u 2),.int 628 0,.int 2 0,.int 0 0,.int 0 0,.int 19 0,.ref (q 0),.bool true,.int 316 0,.ref (q 1),.none,.ref (q 2),.ref (q 3),.ref (q 4),.int (u 3) 0,.int 628 0,.str ⟨⟨[47,99,108,97,105,109,47,99,117,116,46,112,121]⟩⟩ (u 4)]
noncomputable def rX:Obj→List DictEntry
 |⟨_,_,.dict a _,_⟩=>a.toList
 |_=>[]
noncomputable def WX(P:Aj)(e:Nat→Nat)(f b g n a i j:Nat)(q z:Nat→Nat)(k:List Value)(v:Nat):Ak:=
 {d:=480,u:=2600,h:=none,c:=BU JU b (JV f),idx:=[],pre:=[(f,Hg P e a g b j 0 j [] 5),(b,liO g 0),(g,li k n),(a,Ff i),(i,Fg q z)],na:=0,nt:=0,no:=4,r:=λ_ _=>.ok .next,
  outs:=λ_ _ o=>[Hg P e a g b j v (Ao o 0) (rX (o.getD 1 default)) (Ao o 2),o.getD 3 default,li k n,Ff i,Fg q z],news:=λ_ _ _=>[]}
theorem rY(w:Aa)(f a g n i b c l v t k u y:Nat)(A:Value)(e q z:Nat→Nat)(d:List Value):
  AD w 58 (BU JU a (JV f)) ([(f,Hg w.2 e b g a l v t [] 5),(a,liO g i),(g,li d n),(b,Ff c),(c,Fg q z)]) (dg 7 0x1e9a10ea97fd4fe2c) (AB [(0,[1,2])] ([λm h o=>CW a g i d n (.int k u)])) (Bh [0] [λm h o=>(.int (Builtin.bitXor (v:Int) (k:Int)) (tk h 3),.int (Nat.xor v k:Nat) (tk h 3))]) 0 480 2600 (.range 5)
   (λr j s=>.again (BU JU a (JV f))) (λr j s=>[(f,Hg w.2 e b g a l (Nat.xor v k) (j 3) [Ad w N0 (j 0) (.int k u)] 6),(a,liO g (i+1)),(g,li d n),(b,Ff c),(c,Fg q z)]) 5:=by
 kernel_rfl
theorem rZ(w:Aa)(f a g n i b c j v t k u y:Nat)(m:Value)(e q z:Nat→Nat)(d:List Value):
  AD w 58 (BU JU a (JV f)) ([(f,Hg w.2 e b g a j v t [Ad w N0 y m] 6),(a,liO g i),(g,li d n),(b,Ff c),(c,Fg q z)]) (dg 7 0x1e9a10ea97fd4fe2c) (AB [(0,[1,2])] ([λo h r=>CW a g i d n (.int k u)])) (Bh [0] [λo h r=>(.int (Builtin.bitXor (v:Int) (k:Int)) (tk h 3),.int (Nat.xor v k:Nat) (tk h 3))]) 0 480 2600 (.range 5)
   (λs l A=>.again (BU JU a (JV f))) (λs l A=>[(f,Hg w.2 e b g a j (Nat.xor v k) (l 3) [Ad w N0 y (.int k u)] 6),(a,liO g (i+1)),(g,li d n),(b,Ff c),(c,Fg q z)]) 5:=by
 kernel_rfl
theorem sA(w:Aa)(f a g n i:Nat)(o:Obj)(b:List Value):
  AD w 11 (BU JU a (JV f)) (FP a g i b n) [1,4] (IZ a g i b n) [] 1 480 2600 [0,1]
   (λc d e=>.done .next) (λc d e=>(I0 a i g b n)) 0:=by
 kernel_rfl
theorem sB(w:Aa)(g n a b h v:Nat)(q z:Nat→Nat)(e:List Value):
  AD w 86 (.call (.ref 295) ⟨[.ref a,.ref g,.int 0 h],[]⟩) ([(g,li e n),(a,Ff b),(b,Fg q z)]) (dg 6 0x4b0854ef15714f71cc29b75de) (AB [(3,[3,4,0,1,2])] ([λj c m=>WX w.2 (λi=>[tk c 0,tk c 1,tk c 2,tk c 4,tk c 5].getD i 0) (tk j 0) (tk j 1) g n a b h q z e v])) [] 1 460 2400 [0,1,2]
   (λk l d=>.done (.ret (.int (↑v) (Ao [d 0,d 1,d 2,d 3] 0)))) (λk l d=>[(g,li e n),(a,Ff b),(b,Fg q z)]) 6:=by
 kernel_rfl
theorem WY{v k:Nat}(a:v<8)(b:k<8):Builtin.bitXor (v:Int) (k:Int)=((Nat.xor v k:Nat):Int)∧Nat.xor v k<8:=by
 have h: ∀v:Fin 8,∀k:Fin 8,Builtin.bitXor (v.val:Int) (k.val:Int)=((Nat.xor v.val k.val:Nat):Int)∧Nat.xor v.val k.val<8:=by decide+kernel
 exact h ⟨v,a⟩ ⟨k,b⟩
inductive R0 (P:Aj):Nat→List DictEntry→Prop
 |a:R0 P 5 []
 |b (y:Nat) (v:Value):R0 P 6 [Aq P N0 y v]
theorem sC{w:Aa}{A:Al}(H:A.handled=none)(I:A.depth≤480)(J:A.units≤2600){f d g n h s C:Nat}{e q z:Nat→Nat}{l:List Value}{c:List Nat}(M:AV l (c.map Int.ofNat))(N: ∀k∈c,k<8):
  ∀(j i:Nat),i+j=c.length→ ∀(v t m:Nat) (x:List DictEntry),v<8→R0 w.2 m x→
   RunsW w A (BU JU d (JV f)) [(f,Hg w.2 e h g d C v t x m),(d,liO g i),(g,li l n),(h,Ff s),(s,Fg q z)]
    λr K B=>r= .ok .next∧B=[]∧Kc λ (S T:Nat) (U:List DictEntry) (o:Obj)=>K=[(f,Hg w.2 e h g d C ((c.drop i).foldl Nat.xor v) S U T),(d,o),(g,li l n),(h,Ff s),(s,Fg q z)]:=by
 intro j
 induction j with
 |zero=>
  intro i V v t m x L F;obtain rfl:i=c.length:=by (first|lia|omega)
  rw[List.drop_length];refine FN [(f,Hg w.2 e h g d C v t x m),(h,Ff s),(s,Fg q z)] (L1:=[(d,liO g c.length),(g,li l n)]) (by exact(EJ (l₁:=[(d,liO g c.length),(g,li l n)])))
   (Bc (sA w f d g n c.length default l) [] H I J (Az _ _ (Ah (λ_ _ _=>HK (by rw[J3];rw[G1 M,BZ];exact A8 _)) Ay)) Ar (Φ:=λr K B=>B=[]∧r= .ok .next∧K=[(d,fi Bo [.none,.int (c.length:Int) 0]),(g,li l n)]) λO P Q=>⟨rfl,rfl,rfl⟩) λr L0 B ⟨Y,h1,h2⟩=>⟨[(f,Hg w.2 e h g d C v t x m),(d,fi Bo [.none,.int (c.length:Int) 0]),(g,li l n),(h,Ff s),(s,Fg q z)],?_,h1,Y,t,m,x,_,rfl⟩
  rw[h2];exact(EJ (l₁:=[(d,fi Bo [.none,.int (c.length:Int) 0]),(g,li l n)]))
 |succ j R=>
  intro i V v t m x L F;have D:i<c.length:=by (first|lia|omega)
  obtain⟨u,E⟩:=WK M i (by rw[BZ];exact D);rw[J6]at E;have E:l[i]? =some (.int (c[i]:Int) u):=E;have Z:(c.drop i).foldl Nat.xor v=(c.drop (i+1)).foldl Nat.xor (Nat.xor v c[i]):=by rw[Ny D];rfl
  rw[Z];have X:DF w [λas B gh=>CW d g i l n (.int (c[i]:Int) u)]:=Ah (λ_ _ _=>G2 E) Ay;have W:E8 [λas B gh=>(.int (Builtin.bitXor (v:Int) (c[i]:Int)) (tk B 3),.int (Nat.xor v c[i]:Nat) (tk B 3))]:=AA (λ_ _ _=>by rw[(WY L (N _ (Db D))).1]) Bp;have G:=(WY L (N _ (Db D))).2;cases F with
  |a=>exact Dz (rY w f d g n i h s C v t c[i] u 0 .none e q z l) [] H I J (Az _ _ X) (Bi _ _ W) λO P Q=>R (i+1) (by (first|lia|omega)) _ _ _ _ G (.b _ _)
  |b y v9=>exact Dz (rZ w f d g n i h s C v t c[i] u y v9 e q z l) [] H I J (Az _ _ X) (Bi _ _ W) λO P Q=>R (i+1) (by (first|lia|omega)) _ _ _ _ G (.b _ _)
theorem sD{w:Aa}{e:Nat→Nat}{f i g n c j d:Nat}{q z:Nat→Nat}{h:List Value}{b:List Nat}(l:AV h (b.map Int.ofNat))(m: ∀k∈b,k<8):Av w (WX w.2 e f i g n c j d q z h (b.foldl Nat.xor 0)):=by
 refine Ba.ext λA s t u=> ?_;refine(sC u s t l m b.length 0 (by (first|lia|omega)) 0 d 5 [] (by decide) .a).mono λr F G hz=> ?_;obtain⟨v,y,B,C,D,o,E⟩:=hz;subst y;refine⟨[],[Ac B,⟨.none,none,.dict ⟨D⟩ 0,#[]⟩,Ac C,o],rfl,rfl,rfl,v,?_⟩;rw[E,List.drop_zero];rfl
noncomputable def WZ(g n a b i v:Nat)(q z:Nat→Nat)(e:List Value):Ak:=
 {d:=460,u:=2400,h:=none,c:=.call (.ref 295) ⟨[.ref a,.ref g,.int 0 i],[]⟩,idx:=[],pre:=[(g,li e n),(a,Ff b),(b,Fg q z)],na:=0,nt:=0,no:=1,r:=λ_ _=>.ok .next,rx:=λo _=>.ok (.ret (.int v (Ao o 0))),outs:=λ_ _ _=>[li e n,Ff b,Fg q z],news:=λ_ _ _=>[]}
theorem sE{w:Aa}{g n a c d:Nat}{q z:Nat→Nat}{b:List Value}{ks:List Nat}(e:AV b (ks.map Int.ofNat))(h: ∀k∈ks,k<8):Av w (WZ g n a c d (ks.foldl Nat.xor 0) q z b):=by
 refine Ba.ext λA i j l=> ?_;exact Bc (sB w g n a c d (ks.foldl Nat.xor 0) q z b) [] l i j (Az _ _ (Ah (λ_ _ _=>sD e h) Ay)) Ar λo r m=>⟨[],[m 0],rfl,rfl,rfl,rfl,rfl⟩
noncomputable abbrev EE(P:Aj)(y:Nat→Nat)(a b c d e g h:Nat)(x:List DictEntry)(n:Nat):Obj:=fr ([Aq P Og (y 0) (.int a b),Aq P Of (y 1) (.int c d),Aq P Od (y 2) (.ref e),Aq P Hz (y 3) (.ref g),Aq P Oe (y 4) (.ref h)]++x) n
noncomputable def CA(h:Nat)(T b:Nat→Nat)(F:Nat→List Int)(a:List Int)(o:List Obj):List TE:=(List.range h).map λj=>⟨T j,8-(F j).length,Ao o (2+2*j),BY (DP a (F j) 8),Ao o (3+2*j),b j⟩
theorem sF(w:Aa)(f c d j b e k l m n o r s v:Nat)(y:Nat→Nat)(g:List Value):
  AG w 45 (tw9550894505775361806 f c d) ([(f,EE w.2 y k l m n o r s [] 5),(c,As j),(d,As b),(b,li g e),(329,AP [])]) (dg 6 80539270711) (AB [(0,[3,11,10])] ([λh a A=>WZ b e (tk h 6) (tk h 5) (tk a 7) v (λi=>tk h i) (λi=>[tk a 0,tk a 1,tk a 2,tk a 5,tk a 6].getD i 0) g])) [] 440 2000 (.range 5)
   (λt u z=>.done .next) (λt u z=>[(f,fr [Ad w Og (y 0) (AW k l),Ad w Of (y 1) (AW m n),Ad w Od (y 2) (.ref o),Ad w Hz (y 3) (.ref r),Ad w Oe (y 4) (.ref s),Ad w Fr (u 8) (.int (↑v) (Ao [z 0] 0))] 6),(c,As j),(d,As b),(b,li g e),(329,fi .none [.int 628 0,.int 19 0,.ref (t 5)])]) 9:=by
 kernel_rfl
theorem sH(w:Aa)(f o k z g l h r A B C D E v s G:Nat)(y:Nat→Nat)(m:List Value)(a:List Int)(F:List (List Int))(n:List Nat):
  AG w 72 (tw5837675800663238876 f o k) ([(f,EE w.2 y h r A B C D E [Ad w Fr G (.int v s)] 6),(o,As z),(k,As g),(g,li m l)]) (dg 12 0x326032f029721ec0b4dd94d) (AB [(0,[3]),(1,[2,3,6,4,7,8,5]),(0,[7,9]),(0,[10,11])] ([λb t e=>Ib g l v s m 1 F,λb t e=>Ie w.2 f k (tk b 2) (tk b 3) (tk b 4) g l (tk b 0) (Ao e 0) 1 m a (λj=>tk b (1+j)) (λj=>F.getD j []) (λj i=>Ao (e.take 4) (1+3*j+i)),λb t e=>Nc (tk b 3) 1 (CA 1 (λj=>tk b (5+j)) (λj=>tk b (1+j)) (λj=>F.getD j []) a ((e.drop 4).take 4)) n,λb t e=>EW (tk b 6) (tk b 7) (n.map λj=>.ref ((CA 1 (λj=>tk b (5+j)) (λj=>tk b (1+j)) (λj=>F.getD j []) a ((e.drop 4).take 4)).getD j tz).T) 2 .none (.int h r) .none ((n.map λj=>.ref ((CA 1 (λj=>tk b (5+j)) (λj=>tk b (1+j)) (λj=>F.getD j []) a ((e.drop 4).take 4)).getD j tz).T).take h)])) [] 440 2000 [0,1,2,3,12,5,9]
   (λd u c=>.done .next) (λd u c=>[(f,EE w.2 y h r A B C D E [Ad w Fr G (.int v s),Ad w LY (u 0) (.ref (d 3)),Ad w LW (u 1) (.ref (d 8))] 8),(o,As z),(k,As g),(g,li m l),(d 8,li ((n.map λj=>.ref ((CA 1 (λj=>d (5+j)) (λj=>d (1+j)) (λj=>F.getD j []) a [c 4,c 5,c 6,c 7]).getD j tz).T).take h) 0)]++((List.range 1).map λj=>(d (1+j),li (BD (F.getD j []) λi=>Ao [c 0,c 1,c 2,c 3] (1+3*j+i)) 0))++TL (CA 1 (λj=>d (5+j)) (λj=>d (1+j)) (λj=>F.getD j []) a [c 4,c 5,c 6,c 7])) 2:=by
 kernel_rfl
noncomputable abbrev R4(a:Nat→Obj):=[a 13,a 14,a 15,a 16,a 17,a 18,a 19,a 20,a 21,a 22]
theorem sJ(w:Aa)(f o k z g l h r A B C D E v s G:Nat)(y:Nat→Nat)(m:List Value)(a:List Int)(F:List (List Int))(n:List Nat):
  AG w 72 (tw5837675800663238876 f o k) ([(f,EE w.2 y h r A B C D E [Ad w Fr G (.int v s)] 6),(o,As z),(k,As g),(g,li m l)]) (dg 18 0x132e8e926b610ed381c0ed24e4b) (AB [(0,[3]),(1,[2,3,9,4,10,11,5,6,7,8]),(0,[10,12,13,14,15]),(0,[16,17])] ([λb t e=>Ib g l v s m 4 F,λb t e=>Ie w.2 f k (tk b 5) (tk b 6) (tk b 7) g l (tk b 0) (Ao e 0) 4 m a (λj=>tk b (1+j)) (λj=>F.getD j []) (λj i=>Ao (e.take 13) (1+3*j+i)),λb t e=>Nc (tk b 6) 4 (CA 4 (λj=>tk b (8+j)) (λj=>tk b (1+j)) (λj=>F.getD j []) a ((e.drop 13).take 10)) n,λb t e=>EW (tk b 12) (tk b 13) (n.map λj=>.ref ((CA 4 (λj=>tk b (8+j)) (λj=>tk b (1+j)) (λj=>F.getD j []) a ((e.drop 13).take 10)).getD j tz).T) 2 .none (.int h r) .none ((n.map λj=>.ref ((CA 4 (λj=>tk b (8+j)) (λj=>tk b (1+j)) (λj=>F.getD j []) a ((e.drop 13).take 10)).getD j tz).T).take h)])) [] 440 2000 [0,1,2,3,18,5,6,7,8,12,13,14,15]
   (λd u c=>.done .next) (λd u c=>[(f,EE w.2 y h r A B C D E [Ad w Fr G (.int v s),Ad w LY (u 0) (.ref (d 6)),Ad w LW (u 1) (.ref (d 14))] 8),(o,As z),(k,As g),(g,li m l),(d 14,li ((n.map λj=>.ref ((CA 4 (λj=>d (8+j)) (λj=>d (1+j)) (λj=>F.getD j []) a (R4 c)).getD j tz).T).take h) 0)]++((List.range 4).map λj=>(d (1+j),li (BD (F.getD j []) λi=>Ao [c 0,c 1,c 2,c 3,c 4,c 5,c 6,c 7,c 8,c 9,c 10,c 11,c 12] (1+3*j+i)) 0))++TL (CA 4 (λj=>d (8+j)) (λj=>d (1+j)) (λj=>F.getD j []) a (R4 c))) 2:=by
 kernel_rfl
noncomputable abbrev R5(a:Nat→Obj):=[a 25,a 26,a 27,a 28,a 29,a 30,a 31,a 32,a 33,a 34,a 35,a 36,a 37,a 38,a 39,a 40,a 41,a 42]
noncomputable abbrev W1(a:Nat→Obj):=[a 0,a 1,a 2,a 3,a 4,a 5,a 6,a 7,a 8,a 9,a 10,a 11,a 12,a 13,a 14,a 15,a 16,a 17,a 18,a 19,a 20,a 21,a 22,a 23,a 24]
theorem sK(w:Aa)(f o h z e k g r A B C D E v s G:Nat)(y:Nat→Nat)(l:List Value)(a:List Int)(F:List (List Int))(m:List Nat):
  AG w 72 (tw5837675800663238876 f o h) ([(f,EE w.2 y g r A B C D E [Ad w Fr G (.int v s)] 6),(o,As z),(h,As e),(e,li l k)]) (dg 26 0x2dce53d36ad726175fa95e3b0e6a73) (AB [(0,[3]),(1,dg 16 82143342635817660),(0,[14,16,17,18,19,20,21,22,23]),(0,[24,25])] ([λb t d=>Ib e k v s l 8 F,λb t d=>Ie w.2 f h (tk b 9) (tk b 10) (tk b 11) e k (tk b 0) (Ao d 0) 8 l a (λj=>tk b (1+j)) (λj=>F.getD j []) (λj i=>Ao (d.take 25) (1+3*j+i)),λb t d=>Nc (tk b 10) 8 (CA 8 (λj=>tk b (12+j)) (λj=>tk b (1+j)) (λj=>F.getD j []) a ((d.drop 25).take 18)) m,λb t d=>EW (tk b 20) (tk b 21) (m.map λj=>.ref ((CA 8 (λj=>tk b (12+j)) (λj=>tk b (1+j)) (λj=>F.getD j []) a ((d.drop 25).take 18)).getD j tz).T) 2 .none (.int g r) .none ((m.map λj=>.ref ((CA 8 (λj=>tk b (12+j)) (λj=>tk b (1+j)) (λj=>F.getD j []) a ((d.drop 25).take 18)).getD j tz).T).take g)])) [] 440 2000 (dg 27 0xe77c0e0b4cc48ed3a21b9cce3)
   (λc u n=>.done .next) (λc u n=>[(f,EE w.2 y g r A B C D E [Ad w Fr G (.int v s),Ad w LY (u 0) (.ref (c 10)),Ad w LW (u 1) (.ref (c 22))] 8),(o,As z),(h,As e),(e,li l k),(c 22,li ((m.map λj=>.ref ((CA 8 (λj=>c (12+j)) (λj=>c (1+j)) (λj=>F.getD j []) a (R5 n)).getD j tz).T).take g) 0)]++((List.range 8).map λj=>(c (1+j),li (BD (F.getD j []) λi=>Ao (W1 n) (1+3*j+i)) 0))++TL (CA 8 (λj=>c (12+j)) (λj=>c (1+j)) (λj=>F.getD j []) a (R5 n))) 2:=by
 kernel_rfl
theorem sL(w:Aa)(b:Nat):
  AD w 14 (.call (.ref 332) ⟨[.ref b],[]⟩) ([]) [0,0,2,2,0,1] [] [] 0 420 1900 [0,1,2]
   (λa c d=>.again (.func Pb (Bv (a 0) (a 1) (a 2)))) (λa c d=>[(a 0,fr [] 0),(a 1,As b),(a 2,ce none)]) 0:=by
 kernel_rfl
set_option maxHeartbeats 4000000
noncomputable abbrev Gx:Stmt:=AF (AO (lw 10)) 1
noncomputable abbrev JW:Stmt:=AF (AO (lw 10)) 0
noncomputable abbrev EX:Expr:=sk JW 0 []
noncomputable def trw9L(f a b:Nat):Sem AE:=eval (A9 ((Br (sT (lw 9)))) 0) (Bv f a b)>>=λv=>pure (.done (.ret v))
noncomputable def trw9R(f a b:Nat):Sem AE:=eval (A9 ((Br (sT (lw 9)))) 1) (Bv f a b)>>=λv=>pure (.done (.ret v))
noncomputable def trwI(f a b:Nat):Sem AE:=(eval (Ex (lw 10)) (Bv f a b)>>=λv=>foldedSetIterable (Ex (lw 10)) (Bv f a b) v>>=λx=>standAt (Ex (lw 10)).pos>>=λ_=>holding [x] (pyIter x))>>=λv=>pure (.done (.ret v))
noncomputable def trwA(f a b x:Nat):Sem AE:=assign ((sT (lw 10))) (Bv f a b) (.ref x)>>=λ_=>pure (.done .next)
noncomputable def trwF(f a b:Nat):Sem AE:=eval (A9 (Br EX) 0) (Bv f a b)>>=λv=>pure (.done (.ret v))
noncomputable def trwa(f a b:Nat):Sem AE:=eval (A9 (Br EX) 1) (Bv f a b)>>=λv=>pure (.done (.ret v))
noncomputable def trwb(f a b:Nat):Sem AE:=eval (A9 (Br EX) 2) (Bv f a b)>>=λv=>pure (.done (.ret v))
noncomputable def trwS(f a b x:Nat):Sem AE:=assignAll (.ref x) ((assignEach [sk JW 1 []] (Bv f a b)).map (·.2))>>=λ_=>pure (.done .next)
noncomputable def trwX(f a b:Nat):Sem AE:=eval (A9 (Br (sT Gx)) 0) (Bv f a b)>>=λv=>pure (.done (.ret v))
noncomputable def trwY(f a b:Nat):Sem AE:=eval (A9 (Br (sT Gx)) 1) (Bv f a b)>>=λv=>pure (.done (.ret v))
noncomputable def trwJ(f a b:Nat):Sem AE:=eval (A9 (Br ((sk (lw 11) 0 []))) 0) (Bv f a b)>>=λv=>pure (.done (.ret v))
noncomputable def trwK(f a b:Nat):Sem AE:=eval (A9 (Br ((sk (lw 11) 0 []))) 1) (Bv f a b)>>=λv=>pure (.done (.ret v))
lay_quick trw9L trw9R trwI trwA trwF trwa trwb trwS trwX trwY trwJ trwK
set_option maxHeartbeats 400000
noncomputable abbrev R6:Expr:=A9 ((Br (sT (lw 9)))) 1
noncomputable abbrev W2(f a:Nat):Env:={scope:=Fp R6,locals:=a,globals:=3,cells:=[],qual:=⟨⟨MZ⟩⟩,func:=none,code:=.ref 331,frame:=some f,builtins:=0}
noncomputable abbrev Pe(f b c a:Nat):Code:=.compLoop R6 0 (.ref c) (.ref a) (W2 f b)
noncomputable abbrev Pf(m:Nat):Expr:=A9 (Br (A9 (Br (sT Gx)) 1)) m
noncomputable abbrev R7(m f a b:Nat):Env:={scope:={Fp (Pf m)with names:=[(Hy,.local),(BW,.local),(GP,.cell)]},locals:=b,globals:=3,cells:=[(GP,a)],qual:=⟨⟨MZ⟩⟩,func:=none,code:=.ref 331,frame:=some f,builtins:=0}
noncomputable abbrev DL(m f b c d a:Nat):Code:=.compLoop (Pf m) 0 (.ref d) (.ref a) (R7 m f b c)
noncomputable abbrev W3(P:Aj)(a c d:Nat)(e g h:Value)(b:Bool):Obj:=di (cond b [Aq P HA a e,Aq P Gh c g,Aq P DE d h] []) (cond b 3 0)
theorem sM(w:Aa)(f d a h e l i k T c m g n t u v:Nat)(s:Str)(y z A:Value)(o r:List Value)(b:Bool):
  AD w 90 (Pe f h d a) ([(d,liO e i),(e,li o l),(a,li r k),(h,W3 w.2 t u v y z A b),(T,tu [.int c m,.str s g,.ref n] 0)]) (dg 9 0x23dc0a811a433e03b60277f91e980651587b46) (AB [(0,[0,1]),(5,[2])] ([λB C D=>CW d e i o l (.ref T),λB C D=>Ck a r k (.str s g)])) [] 0 450 2200 (.range 5)
   (λE j F=>.again (Pe f h d a)) (λE j F=>[(d,Gr e i),(e,li o l),(a,li (r++[Value.str s g]) k.succ),(h,di [Ad w HA (cond b t (j 0)) (.int c m),Ad w Gh (cond b u (j 1)) (.str s g),Ad w DE (cond b v (j 2)) (.ref n)] 3),(T,tu [AW c m,.str s g,.ref n] 0)]) 3:=by
 cases b <;> kernel_rfl
theorem sN(w:Aa)(f a e g b c i:Nat)(d:List Value):
  AD w 10 (Pe f g a e) (FP a b i d c) [1,4] (IZ a b i d c) [] 0 450 2200 [0,1]
   (λh j k=>.done .next) (λh j k=>(I0 a i b d c)) 0:=by
 kernel_rfl
theorem sO(w:Aa)(f e b a g c h d j i k tp y:Nat)(p:Int)(z:Value)(l n m:List Value):
  AD w 24 (DL 0 f e g b a) ([(e,As c),(c,li m h),(b,liO d i),(d,li l j),(a,li n k),(g,di [] 0)]) [3,0,6,6,6,1,2,2] (AB [(0,[2,3]),(0,[1])] ([λr s t=>CW b d i l j (.int p tp),λr s t=>EQ c m h p tp true])) [] 0 450 2200 (.range 6)
   (λu o v=>.again (DL 0 f e g b a)) (λu o v=>[(e,As c),(c,li m h),(b,Gr d i),(d,li l j),(a,li n k),(g,di [Ad w BW (o 0) (.int p tp)] 1)]) 1:=by
 kernel_rfl
theorem sQ(w:Aa)(f e b a g c h d j i k tp y:Nat)(p:Int)(o:Value)(l n m:List Value):
  AD w 24 (DL 0 f e g b a) ([(e,As c),(c,li m h),(b,liO d i),(d,li l j),(a,li n k),(g,di [Ad w BW y o] 1)]) [3,0,6,6,6,1,2,2] (AB [(0,[2,3]),(0,[1])] ([λr s t=>CW b d i l j (.int p tp),λr s t=>EQ c m h p tp true])) [] 0 450 2200 (.range 6)
   (λu v z=>.again (DL 0 f e g b a)) (λu v z=>[(e,As c),(c,li m h),(b,Gr d i),(d,li l j),(a,li n k),(g,di [Ad w BW y (.int p tp)] 1)]) 1:=by
 kernel_rfl
theorem sR(w:Aa)(f e b a g c h d j i k tp y:Nat)(p:Int)(z:Value)(l m n:List Value):
  AD w 27 (DL 0 f e g b a) ([(e,As c),(c,li n h),(b,liO d i),(d,li l j),(a,li m k),(g,di [] 0)]) [3,0,6,6,6,1,2,2,6] (AB [(0,[2,3]),(0,[1]),(0,[4])] ([λo r s=>CW b d i l j (.int p tp),λo r s=>EQ c n h p tp false,λo r s=>Ck a m k (.int p tp)])) [] 0 450 2200 (.range 6)
   (λu t v=>.again (DL 0 f e g b a)) (λu t v=>[(e,As c),(c,li n h),(b,Gr d i),(d,li l j),(a,li (m++[Value.int p tp]) k.succ),(g,di [Ad w BW (t 0) (.int p tp)] 1)]) 1:=by
 kernel_rfl
theorem sS(w:Aa)(f e b a g c h d j i k tp y:Nat)(p:Int)(t:Value)(l m n:List Value):
  AD w 27 (DL 0 f e g b a) ([(e,As c),(c,li n h),(b,liO d i),(d,li l j),(a,li m k),(g,di [Ad w BW y t] 1)]) [3,0,6,6,6,1,2,2,6] (AB [(0,[2,3]),(0,[1]),(0,[4])] ([λo r s=>CW b d i l j (.int p tp),λo r s=>EQ c n h p tp false,λo r s=>Ck a m k (.int p tp)])) [] 0 450 2200 (.range 6)
   (λu v z=>.again (DL 0 f e g b a)) (λu v z=>[(e,As c),(c,li n h),(b,Gr d i),(d,li l j),(a,li (m++[Value.int p tp]) k.succ),(g,di [Ad w BW y (.int p tp)] 1)]) 1:=by
 kernel_rfl
theorem sU(w:Aa)(f g a e h b c i:Nat)(d:List Value):
  AD w 10 (DL 0 f g h a e) (FP a b i d c) [1,4] (IZ a b i d c) [] 0 450 2200 [0,1]
   (λj k l=>.done .next) (λj k l=>(I0 a i b d c)) 0:=by
 kernel_rfl
theorem sV(w:Aa)(f e b a g c h d j i k tp y:Nat)(p:Int)(z:Value)(l n m:List Value):
  AD w 24 (DL 1 f e g b a) ([(e,As c),(c,li m h),(b,liO d i),(d,li l j),(a,li n k),(g,di [] 0)]) [3,0,6,6,6,1,2,2] (AB [(0,[2,3]),(0,[1])] ([λr s t=>CW b d i l j (.int p tp),λr s t=>EQ c m h p tp false])) [] 0 450 2200 (.range 6)
   (λu o v=>.again (DL 1 f e g b a)) (λu o v=>[(e,As c),(c,li m h),(b,Gr d i),(d,li l j),(a,li n k),(g,di [Ad w BW (o 0) (.int p tp)] 1)]) 1:=by
 kernel_rfl
theorem sW(w:Aa)(f e b a g c h d j i k tp y:Nat)(p:Int)(o:Value)(l n m:List Value):
  AD w 24 (DL 1 f e g b a) ([(e,As c),(c,li m h),(b,liO d i),(d,li l j),(a,li n k),(g,di [Ad w BW y o] 1)]) [3,0,6,6,6,1,2,2] (AB [(0,[2,3]),(0,[1])] ([λr s t=>CW b d i l j (.int p tp),λr s t=>EQ c m h p tp false])) [] 0 450 2200 (.range 6)
   (λu v z=>.again (DL 1 f e g b a)) (λu v z=>[(e,As c),(c,li m h),(b,Gr d i),(d,li l j),(a,li n k),(g,di [Ad w BW y (.int p tp)] 1)]) 1:=by
 kernel_rfl
theorem sZ(w:Aa)(f e b a g c h d j i k tp y:Nat)(p:Int)(z:Value)(l m n:List Value):
  AD w 27 (DL 1 f e g b a) ([(e,As c),(c,li n h),(b,liO d i),(d,li l j),(a,li m k),(g,di [] 0)]) [3,0,6,6,6,1,2,2,6] (AB [(0,[2,3]),(0,[1]),(0,[4])] ([λo r s=>CW b d i l j (.int p tp),λo r s=>EQ c n h p tp true,λo r s=>Ck a m k (.int p tp)])) [] 0 450 2200 (.range 6)
   (λu t v=>.again (DL 1 f e g b a)) (λu t v=>[(e,As c),(c,li n h),(b,Gr d i),(d,li l j),(a,li (m++[Value.int p tp]) k.succ),(g,di [Ad w BW (t 0) (.int p tp)] 1)]) 1:=by
 kernel_rfl
theorem tA(w:Aa)(f e b a g c h d j i k tp y:Nat)(p:Int)(t:Value)(l m n:List Value):
  AD w 27 (DL 1 f e g b a) ([(e,As c),(c,li n h),(b,liO d i),(d,li l j),(a,li m k),(g,di [Ad w BW y t] 1)]) [3,0,6,6,6,1,2,2,6] (AB [(0,[2,3]),(0,[1]),(0,[4])] ([λo r s=>CW b d i l j (.int p tp),λo r s=>EQ c n h p tp true,λo r s=>Ck a m k (.int p tp)])) [] 0 450 2200 (.range 6)
   (λu v z=>.again (DL 1 f e g b a)) (λu v z=>[(e,As c),(c,li n h),(b,Gr d i),(d,li l j),(a,li (m++[Value.int p tp]) k.succ),(g,di [Ad w BW y (.int p tp)] 1)]) 1:=by
 kernel_rfl
theorem tC(w:Aa)(f g a e h b c i:Nat)(d:List Value):
  AD w 10 (DL 1 f g h a e) (FP a b i d c) [1,4] (IZ a b i d c) [] 0 450 2200 [0,1]
   (λj k l=>.done .next) (λj k l=>(I0 a i b d c)) 0:=by
 kernel_rfl
noncomputable def pk(m:Nat)(a:List Int):Value→Bool
 | .int p _=>if m=0 then !decide (p∈a)else decide (p∈a)
 |_=>false
noncomputable def DS(D:List TE):List Value:=D.map λe=>.str e.s e.st
noncomputable def Hh:TE:=⟨0,0,0,⟨⟨[]⟩⟩,0,0⟩
inductive JX (P:Aj) (ys:List Value):Nat→Obj→Prop
 |a:JX P ys 0 (di [] 0)
 |b (i y:Nat) (v:Value) (h:ys[i]? =some v):JX P ys (i+1) (di [Aq P BW y v] 1)
inductive I7 (P:Aj) (D:List TE):Nat→Obj→Prop
 |a:I7 P D 0 (di [] 0)
 |b (i z0 z1 z2:Nat) (h:i<D.length):I7 P D (i+1) (di [Aq P HA z0 (.int D[i].c D[i].ct),Aq P Gh z1 (.str D[i].s D[i].st),Aq P DE z2 (.ref D[i].fj)] 3)
theorem I7.shape{P:Aj}{D:List TE}{i:Nat}{d:Obj}(h:I7 P D i d):SA λc e g j k l b=>d=W3 P c e g j k l b:=by
 cases h with
 |a=>exact⟨0,0,0,.none,.none,.none,false,rfl⟩
 |b i c e g h=>exact⟨c,e,g,_,_,_,true,rfl⟩
theorem W4{a:List Value}{F:List Int}(h:AV a F){i:Nat}(b:i<a.length):B6 λp t=>a[i]? =some (.int p t):=by
 have c:a[i]∈a:=Db b;obtain⟨p,t,e⟩:=Qf h _ c;exact⟨p,t,by rw[Eu b,e]⟩
theorem W5{a:Type}(p:a→Bool){l:List a}{i:Nat}{x:a}(h:l[i]? =some x):(l.take (i+1)).filter p=(l.take i).filter p++if p x then[x]else[]:=by
 rw[Jg,h,List.filter_append];congr 1;cases b:p x <;> simp[b]
inductive KP (w:Aa) (m cg it acc cl gt gn fj fk:Nat) (xs ys:List Value) (a:List Int) (r:Result) (L':Ae) (ts:List Nat):Prop
 |mk (hr:r= .ok .next) (ht:ts=[]) (oi oc:Obj) (hc:JX w.2 ys ys.length oc) (hL:L'=[(cg,ce (some (.ref gt))),(gt,li xs gn),(it,oi),(fj,li ys fk),(acc,li (ys.filter (pk m a)) (ys.filter (pk m a)).length),(cl,oc)])
noncomputable abbrev Er:=[1,3,5,7,9,11]
theorem tD{w:Aa}{A:Al}(C:A.handled=none)(D:A.depth≤450)(E:A.units≤2200){f o l g s m z h n:Nat}{t c:List Value}{a F:List Int}(Q:AV t a)(R:AV c F)(hl:c.length≤900):
  ∀(k i:Nat),i+k=c.length→ ∀d:Obj,JX w.2 c i d→
  RunsW w A (DL 0 f o s l g) [(o,As m),(m,li t z),(l,liO h i),(h,li c n),(g,li ((c.take i).filter (pk 0 a)) ((c.take i).filter (pk 0 a)).length),(s,d)]
   (KP w 0 o l g s m z h n t c a):=by
 intro k
 induction k with
 |zero=>
  intro i S d G;obtain rfl:i=c.length:=by (first|lia|omega)
  rw[Lo];refine FN [(o,As m),(m,li t z),(g,li (c.filter (pk 0 a)) (c.filter (pk 0 a)).length),(s,d)] (L1:=[(l,liO h c.length),(h,li c n)]) (AM [] [_,_,_,_,_,_] [5,7,1,3,9,11] Er)
   (Bc (sU w f o l g s h n c.length c) [] C D E (Az _ _ (Ah (λ_ _ _=>HK (by (first|((repeat(first|exact .head _|apply List.mem_cons_of_mem));done)|simp))) Ay)) Ar (Φ:=λr T O=>O=[]∧r= .ok .next∧T=[(l,fi Bo [.none,.int (c.length:Int) 0]),(h,li c n)]) λH I J=>⟨rfl,rfl,rfl⟩) λr L0 O ⟨U,h1,h2⟩=>⟨_,?_,h1,U,fi Bo [.none,.int (c.length:Int) 0],d,G,rfl⟩
  rw[h2];exact AM [] [_,_,_,_,_,_] Er [5,7,1,3,9,11]
 |succ k V=>
  intro i S d G;have W:i<c.length:=by (first|lia|omega)
  obtain⟨p,tp,N⟩:=W4 R W;have X:=W5 (pk 0 a) N;have Y:((c.take i).filter (pk 0 a)).length≤1000:=by have:=List.length_filter_le (pk 0 a) (c.take i);simp at this;(first|lia|omega)
  have K:Av w (CW l h i c n (.int p tp)):=G2 N;have L: ∀b,decide (p∈a)=b→Av w (EQ m t z p tp b):=λb Z=>Kn Q Z;have P:Av w (Ck g ((c.take i).filter (pk 0 a)) ((c.take i).filter (pk 0 a)).length (.int p tp)):=EB Y;have u: ∀M y,M=di [Ad w BW y (.int p tp)] 1→_:=λM y (e:M=di [Ad w BW y (.int p tp)] 1)=>V (i+1) (by (first|lia|omega)) M (by rw[e];exact .b i y _ N);rw[X]at u
  by_cases B:p∈a
  ·rw[show pk 0 a (.int p tp)=false by simp[pk,B]]at u
   simp only[CR,if_false,BR]at u;cases G with
   |a=>exact Dz (sO w f o l g s m z h n 0 ((c.take 0).filter (pk 0 a)).length tp 0 p .none c ((c.take 0).filter (pk 0 a)) t) [] C D E (Az _ _ (Ah (λ_ _ _=>K) (Ah (λ_ _ _=>L true (CD B)) Ay))) Ar λH I J=>u _ _ rfl
   |b j y v _=>exact Dz (sQ w f o l g s m z h n (j+1) ((c.take (j+1)).filter (pk 0 a)).length tp y p v c ((c.take (j+1)).filter (pk 0 a)) t) [] C D E (Az _ _ (Ah (λ_ _ _=>K) (Ah (λ_ _ _=>L true (CD B)) Ay))) Ar λH I J=>u _ _ rfl
  ·rw[show pk 0 a (.int p tp)=true by simp[pk,B]]at u
   simp only[if_true,EH,GG,List.length_nil]at u;cases G with
   |a=>exact Dz (sR w f o l g s m z h n 0 ((c.take 0).filter (pk 0 a)).length tp 0 p .none c ((c.take 0).filter (pk 0 a)) t) [] C D E (Az _ _ (Ah (λ_ _ _=>K) (Ah (λ_ _ _=>L false (BH B)) (Ah (λ_ _ _=>P) Ay)))) Ar λH I J=>u _ _ rfl
   |b j y v _=>exact Dz (sS w f o l g s m z h n (j+1) ((c.take (j+1)).filter (pk 0 a)).length tp y p v c ((c.take (j+1)).filter (pk 0 a)) t) [] C D E (Az _ _ (Ah (λ_ _ _=>K) (Ah (λ_ _ _=>L false (BH B)) (Ah (λ_ _ _=>P) Ay)))) Ar λH I J=>u _ _ rfl
theorem tE{w:Aa}{A:Al}(C:A.handled=none)(D:A.depth≤450)(E:A.units≤2200){f o l g s m z h n:Nat}{t c:List Value}{a F:List Int}(Q:AV t a)(R:AV c F)(hl:c.length≤900):
  ∀(k i:Nat),i+k=c.length→ ∀d:Obj,JX w.2 c i d→
  RunsW w A (DL 1 f o s l g) [(o,As m),(m,li t z),(l,liO h i),(h,li c n),(g,li ((c.take i).filter (pk 1 a)) ((c.take i).filter (pk 1 a)).length),(s,d)]
   (KP w 1 o l g s m z h n t c a):=by
 intro k
 induction k with
 |zero=>
  intro i S d G;obtain rfl:i=c.length:=by (first|lia|omega)
  rw[Lo];refine FN [(o,As m),(m,li t z),(g,li (c.filter (pk 1 a)) (c.filter (pk 1 a)).length),(s,d)] (L1:=[(l,liO h c.length),(h,li c n)]) (AM [] [_,_,_,_,_,_] [5,7,1,3,9,11] Er)
   (Bc (tC w f o l g s h n c.length c) [] C D E (Az _ _ (Ah (λ_ _ _=>HK (by (first|((repeat(first|exact .head _|apply List.mem_cons_of_mem));done)|simp))) Ay)) Ar (Φ:=λr T O=>O=[]∧r= .ok .next∧T=[(l,fi Bo [.none,.int (c.length:Int) 0]),(h,li c n)]) λH I J=>⟨rfl,rfl,rfl⟩) λr L0 O ⟨U,h1,h2⟩=>⟨_,?_,h1,U,fi Bo [.none,.int (c.length:Int) 0],d,G,rfl⟩
  rw[h2];exact AM [] [_,_,_,_,_,_] Er [5,7,1,3,9,11]
 |succ k V=>
  intro i S d G;have W:i<c.length:=by (first|lia|omega)
  obtain⟨p,tp,N⟩:=W4 R W;have X:=W5 (pk 1 a) N;have Y:((c.take i).filter (pk 1 a)).length≤1000:=by have:=List.length_filter_le (pk 1 a) (c.take i);simp at this;(first|lia|omega)
  have K:Av w (CW l h i c n (.int p tp)):=G2 N;have L: ∀b,decide (p∈a)=b→Av w (EQ m t z p tp b):=λb Z=>Kn Q Z;have P:Av w (Ck g ((c.take i).filter (pk 1 a)) ((c.take i).filter (pk 1 a)).length (.int p tp)):=EB Y;have u: ∀M y,M=di [Ad w BW y (.int p tp)] 1→_:=λM y (e:M=di [Ad w BW y (.int p tp)] 1)=>V (i+1) (by (first|lia|omega)) M (by rw[e];exact .b i y _ N);rw[X]at u
  by_cases B:p∈a
  ·rw[show pk 1 a (.int p tp)=true by simp[pk,B]]at u
   simp only[if_true,EH,GG,List.length_nil]at u;cases G with
   |a=>exact Dz (sZ w f o l g s m z h n 0 ((c.take 0).filter (pk 1 a)).length tp 0 p .none c ((c.take 0).filter (pk 1 a)) t) [] C D E (Az _ _ (Ah (λ_ _ _=>K) (Ah (λ_ _ _=>L true (CD B)) (Ah (λ_ _ _=>P) Ay)))) Ar λH I J=>u _ _ rfl
   |b j y v _=>exact Dz (tA w f o l g s m z h n (j+1) ((c.take (j+1)).filter (pk 1 a)).length tp y p v c ((c.take (j+1)).filter (pk 1 a)) t) [] C D E (Az _ _ (Ah (λ_ _ _=>K) (Ah (λ_ _ _=>L true (CD B)) (Ah (λ_ _ _=>P) Ay)))) Ar λH I J=>u _ _ rfl
  ·rw[show pk 1 a (.int p tp)=false by simp[pk,B]]at u
   simp only[CR,if_false,BR]at u;cases G with
   |a=>exact Dz (sV w f o l g s m z h n 0 ((c.take 0).filter (pk 1 a)).length tp 0 p .none c ((c.take 0).filter (pk 1 a)) t) [] C D E (Az _ _ (Ah (λ_ _ _=>K) (Ah (λ_ _ _=>L false (BH B)) Ay))) Ar λH I J=>u _ _ rfl
   |b j y v _=>exact Dz (sW w f o l g s m z h n (j+1) ((c.take (j+1)).filter (pk 1 a)).length tp y p v c ((c.take (j+1)).filter (pk 1 a)) t) [] C D E (Az _ _ (Ah (λ_ _ _=>K) (Ah (λ_ _ _=>L false (BH B)) Ay))) Ar λH I J=>u _ _ rfl
inductive tF (w:Aa) (it acc cl du dn:Nat) (D:List TE) (r:Result) (L':Ae) (ts:List Nat):Prop
 |mk (hr:r= .ok .next) (ht:ts=[]) (oi oc:Obj) (hc:I7 w.2 D D.length oc) (hL:L'=[(it,oi),(du,li (AL D) dn),(acc,li (DS D) D.length),(cl,oc)]++TL D)
theorem tG{w:Aa}{A:Al}(o:A.handled=none)(t:A.depth≤450)(u:A.units≤2200){f it acc cl du dn:Nat}{D:List TE}(R:D.length≤900):
  ∀(k i:Nat),i+k=D.length→ ∀d:Obj,I7 w.2 D i d→
  RunsW w A (Pe f cl it acc) ([(it,liO du i),(du,li (AL D) dn),(acc,li (DS (D.take i)) i),(cl,d)]++TL D)
   (tF w it acc cl du dn D):=by
 intro k
 induction k with
 |zero=>
  intro i z d n;obtain rfl:i=D.length:=by (first|lia|omega)
  rw[Lo];refine FN ([(acc,li (DS D) D.length),(cl,d)]++TL D) (L1:=[(it,liO du D.length),(du,li (AL D) dn)]) (AM [TL D] [_,_,_,_] [1,3,5,7,2] [1,3,5,7,2])
   (Bc (sN w f it acc cl du dn D.length (AL D)) [] o t u (Az _ _ (Ah (λ_ _ _=>HK (by simp[AL])) Ay)) Ar (Φ:=λr B j=>j=[]∧r= .ok .next∧B=[(it,fi Bo [.none,.int (D.length:Int) 0]),(du,li (AL D) dn)]) λC E F=>⟨rfl,rfl,rfl⟩) λr S j ⟨G,h1,h2⟩=>⟨_,?_,h1,G,fi Bo [.none,.int (D.length:Int) 0],d,n,rfl⟩
  rw[h2];exact AM [TL D] [_,_,_,_] [1,3,5,7,2] [1,3,5,7,2]
 |succ k H=>
  intro i z d n;have l:i<D.length:=by (first|lia|omega)
  have I:(AL D)[i]? =some (.ref D[i].T):=by simp[AL,l]
  have J:DS (D.take (i+1))=DS (D.take i)++[.str D[i].s D[i].st]:=by rw[Jg,Eu l];unfold DS;rw[BC];rfl
  have K:(DS (D.take i)).length≤1000:=by simp[DS];(first|lia|omega)
  have L:(TL D).Perm ((D[i].T,CJ D[i])::TL (D.eraseIdx i)):=(MP D i l).symm.map λe:TE=>(e.T,CJ e)
  have X:DF w [λM j N=>CW it du i (AL D) dn (.ref D[i].T),λM j N=>Ck acc (DS (D.take i)) i (.str D[i].s D[i].st)]:=Ah (λ_ _ _=>G2 I) (Ah (λ_ _ _=>EB K) Ay);have v: ∀o1 o2 o3 o4:Obj,([(it,o1),(du,o2),(acc,o3),(cl,o4),(D[i].T,CJ D[i])]++TL (D.eraseIdx i)).Perm ([(it,o1),(du,o2),(acc,o3),(cl,o4)]++TL D):=λo1 o2 o3 o4=>List.Perm.append_left [(it,o1),(du,o2),(acc,o3),(cl,o4)] L.symm;have y: ∀m a g h,m=di [Ad w HA a (.int D[i].c D[i].ct),Ad w Gh g (.str D[i].s D[i].st),Ad w DE h (.ref D[i].fj)] 3→_:=λm a g h (e:m=di [Ad w HA a (.int D[i].c D[i].ct),Ad w Gh g (.str D[i].s D[i].st),Ad w DE h (.ref D[i].fj)] 3)=>H (i+1) (by (first|lia|omega)) m (by rw[e];exact .b i a g h l);rw[J]at y;obtain⟨a,g,h,O,P,Q,b,rfl⟩:=n.shape;exact GZ (sM w f it acc cl du dn i i D[i].T D[i].c D[i].ct D[i].st D[i].fj a g h D[i].s O P Q (AL D) (DS (D.take i)) b) (TL (D.eraseIdx i)) (v _ _ _ _) o t u (Az _ _ X) Ar λC E F=>Kv (v _ _ _ _) (y _ _ _ _ rfl)
noncomputable def kX(P:Aj)(z m f i j e k g l n s:Nat)(t b:List Value)(a:List Int)(v:List Obj→Obj):Ak:=
 {d:=450,u:=2200,h:=none,c:=.compStart (Pf m) 0 (.ref j) (.ref e) (R7 m f i k),idx:=[],pre:=[(i,As g),(g,li t l),(j,liO n 0),(n,li b s),(e,li [] 0),(k,di [] 0)],na:=0,nt:=0,no:=2,r:=λ_ _=>.ok .next,
  outs:=λ_ _ o=>[As g,li t l,o.getD 0 default,li b s,li (b.filter (pk m a)) (b.filter (pk m a)).length,v o],news:=λ_ _ _=>[]}
noncomputable abbrev R8(P:Aj)(m f c d b e g h i j:Nat)(k:List Value)(a:List Int):Ak:=kX P 0 m f c d b e g h i j k [] a λ_=>di [] 0
noncomputable abbrev R9(P:Aj)(m f d e c g h i j k:Nat)(l b:List Value)(a:List Int):Ak:=kX P 1 m f d e c g h i j k l b a λo=>di [Aq P BW (Ao o 1) (b.getD (b.length-1) .none)] 1
theorem W6{w:Aa}{A:Al}(k:A.handled=none)(l:A.depth≤450)(n:A.units≤2200){m f e g c h i r d s:Nat}{j b:List Value}{a F:List Int}(y:m<2)(t:AV j a)(u:AV b F)(v:b.length≤900):RunsW w A (.compStart (Pf m) 0 (.ref g) (.ref c) (R7 m f e h)) [(e,As i),(i,li j r),(g,liO d 0),(d,li b s),(c,li [] 0),(h,di [] 0)] (KP w m e g c h i r d s j b a):=by
 match m,y with
 |0,_=>exact IA 1 (o:=liO d 0) (tD k l n t u v b.length 0 (by (first|lia|omega)) (di [] 0) .a) (by (first|((repeat(first|exact .head _|apply List.mem_cons_of_mem));done)|simp)) (by kernel_rfl) (by kernel_rfl)
 |1,_=>exact IA 1 (o:=liO d 0) (tE k l n t u v b.length 0 (by (first|lia|omega)) (di [] 0) .a) (by (first|((repeat(first|exact .head _|apply List.mem_cons_of_mem));done)|simp)) (by kernel_rfl) (by kernel_rfl)
theorem W7{w:Aa}{m f d e b g h i j k:Nat}{c:List Value}{a:List Int}(l:m<2)(n:AV c a):Av w (R8 w.2 m f d e b g h i j k c a):=by
 refine Ba.ext λA o s t=> ?_;refine Ba.mono (W6 (F:=[]) t o s l n (JJ [] id) (by (first|((repeat(first|exact .head _|apply List.mem_cons_of_mem));done)|simp))) ?_;rintro r D E ⟨u,v,y,z,B,C⟩;refine⟨[],[y,z],rfl,v▸rfl,rfl,u,C.trans ?_⟩;cases B;rfl
theorem JX.inv{P:Aj}{c:List Value}{n:Nat}{d:Obj}(h:JX P c n d)(g:0<n): ∃y,d=di [Aq P BW y (c.getD (n-1) .none)] 1:=by
 cases h with
 |a=>(first|lia|omega)
 |b i y v e=>exact⟨y,by simp[List.getD,e]⟩
theorem W8{w:Aa}{m f e g c h i j k l:Nat}{d b:List Value}{a F:List Int}(n:m<2)(o:AV d a)(s:AV b F)(t:b.length≤900)(u:0<b.length):Av w (R9 w.2 m f e g c h i j k l d b a):=by
 refine Ba.ext λA v z B=> ?_;refine Ba.mono (W6 B v z n o s t) λr I J hz=> ?_;obtain⟨C,D,E,K,G,H⟩:=hz;obtain⟨y,rfl⟩:=G.inv u;exact⟨[],[E,Ac y],rfl,D▸rfl,rfl,C,H⟩
noncomputable def Sb(P:Aj)(f b a e g i:Nat)(D:List TE):Ak:=
 {d:=450,u:=2200,h:=none,c:=.compStart R6 0 (.ref b) (.ref a) (W2 f e),idx:=[],pre:=[(b,liO g 0),(g,li (AL D) i),(a,li [] 0),(e,di [] 0)],na:=0,nt:=0,no:=4,r:=λ_ _=>.ok .next,
  outs:=λ_ _ o=>[o.getD 0 default,li (AL D) i,li (DS D) D.length,di [Aq P HA (Ao o 1) (.int (D.getD (D.length-1) Hh).c (D.getD (D.length-1) Hh).ct),Aq P Gh (Ao o 2) (.str (D.getD (D.length-1) Hh).s (D.getD (D.length-1) Hh).st),Aq P DE (Ao o 3) (.ref (D.getD (D.length-1) Hh).fj)] 3],news:=λ_ _ _=>[]}
theorem I7.inv{P:Aj}{D:List TE}{n:Nat}{j:Obj}(h:I7 P D n j)(l:0<n):Ew λd e g=>j=di [Aq P HA d (.int (D.getD (n-1) Hh).c (D.getD (n-1) Hh).ct),Aq P Gh e (.str (D.getD (n-1) Hh).s (D.getD (n-1) Hh).st),Aq P DE g (.ref (D.getD (n-1) Hh).fj)] 3:=by
 cases h with
 |a=>(first|lia|omega)
 |b i d e g k=>exact⟨d,e,g,by simp[List.getD,k]⟩
theorem tH{w:Aa}{f d b e c g:Nat}{D:List TE}(h:D.length≤900)(i:0<D.length):Cb w (TL D) (Sb w.2 f d b e c g D):=by
 refine Ba.extH λA j k l=> ?_;refine IA 1 (o:=liO c 0) ?_ (by simp[Sb]) (by kernel_rfl) (by kernel_rfl);have key:=tG (w:=w) (A:=A) l j k (f:=f) (it:=d) (acc:=b) (cl:=e) (du:=c) (dn:=g) h D.length 0 (by (first|lia|omega)) (di [] 0) .a;refine Ba.mono key λr B C hz=> ?_;obtain⟨m,n,s,E,t,u⟩:=hz;obtain⟨v,y,z,rfl⟩:=t.inv i;exact⟨[],[s,Ac v,Ac y,Ac z],rfl,n▸rfl,rfl,m,u⟩
set_option maxHeartbeats 4000000
noncomputable abbrev Sc:List Stmt:=AO (DY 15)
noncomputable abbrev Gy(i:Nat):Stmt:=AF Sc i
noncomputable abbrev I8:Stmt:=Gy 4
noncomputable abbrev Es:Stmt:=AF (AO I8) 0
noncomputable abbrev Fh:Stmt:=AF (AO Es) 2
noncomputable abbrev Et:Stmt:=AF (Dv Fh) 0
noncomputable abbrev Hi:Stmt:=AF (Dv Et) 1
noncomputable abbrev I9:Stmt:=AF (AO Fh) 2
noncomputable abbrev Ja:Stmt:=AF (AO Et) 2
noncomputable abbrev JY:Stmt:=AF (AO Hi) 0
noncomputable abbrev Ig:Stmt:=AF (LD Hi) 1
noncomputable abbrev Bs(f:Nat):Env:={scope:=EM (DY 15),locals:=f,globals:=3,cells:=[],qual:=⟨⟨[115,111,114,116,101,100,95,108,105,115,116,95,100,105,102,102,101,114,101,110,99,101,46,60,108,111,99,97,108,115,62,46]⟩⟩,func:=some 302,code:=.ref 301,frame:=some f,builtins:=0}
noncomputable def trdA(f:Nat):Sem AE:=execs [Gy 0,Gy 1,Gy 2,Gy 3] (Bs f)>>=λv=>pure (.done v)
noncomputable def trdT(f:Nat):Sem AE:=isTrue (sT I8) (Bs f) (eval (sT I8) (Bs f))>>=λb=>pure (.done (.ret (.bool b)))
noncomputable def trdE(f:Nat):Sem AE:=execs [AF (AO Es) 0,AF (AO Es) 1] (Bs f)>>=λv=>pure (.done v)
noncomputable def trdC(i f:Nat):Sem AE:=isTrue (sT (AF [Fh,Et] i)) (Bs f) (eval (sT (AF [Fh,Et] i)) (Bs f))>>=λb=>pure (.done (.ret (.bool b)))
noncomputable def trdB1(f:Nat):Sem AE:=execs [AF (AO Fh) 0,AF (AO Fh) 1] (Bs f)>>=λv=>pure (.done v)
noncomputable def trdB2(f:Nat):Sem AE:=execs [AF (AO Et) 0,AF (AO Et) 1] (Bs f)>>=λv=>pure (.done v)
noncomputable def trdB3(f:Nat):Sem AE:=exec (AF (Dv Et) 0) (Bs f)>>=λv=>pure (.done v)
noncomputable def trdB4(f:Nat):Sem AE:=exec (AF (LD Hi) 0) (Bs f)>>=λv=>pure (.done v)
noncomputable def trdW1(f:Nat):Sem AE:=isTrue (sT I9) (Bs f) (eval (sT I9) (Bs f))>>=λb=>pure (.done (.ret (.bool b)))
noncomputable def trdW2(f:Nat):Sem AE:=isTrue (sT Ja) (Bs f) (eval (sT Ja) (Bs f))>>=λb=>pure (.done (.ret (.bool b)))
noncomputable def trdW3(f:Nat):Sem AE:=isTrue (sT JY) (Bs f) (eval (sT JY) (Bs f))>>=λb=>pure (.done (.ret (.bool b)))
noncomputable def trdW4(f:Nat):Sem AE:=isTrue (sT Ig) (Bs f) (eval (sT Ig) (Bs f))>>=λb=>pure (.done (.ret (.bool b)))
noncomputable def trdH(f e:Nat):Sem AE:=handleBy (.ref e) (Bs f) (LE Es)>>=λv=>pure (.done v)
noncomputable def trdR(f:Nat):Sem AE:=execs [Gy 5] (Bs f)>>=λv=>pure (.done v)
noncomputable def trdN(_:Unit):Sem AE:=((mkText "list index out of range">>=λm=>newExc (.type "IndexError") [m]))>>=λv=>pure (.done (.ret v))
noncomputable abbrev W9(a b:Nat):=(runValue (.builtin "proto.unchain" ⟨[.ref a,.ref b,.ref b,.bool false],[]⟩))
noncomputable def trdU(e h:Nat):Sem AE:=(holding [.ref e] (W9 e h)>>=λ_=>updateField e 2 (.ref h))>>=λ_=>pure (.done .next)
lay_quick trdA trdT trdE trdC trdB1 trdB2 trdB3 trdB4 trdW1 trdW2 trdW3 trdW4 trdH trdR trdN trdU
set_option maxHeartbeats 400000
noncomputable def kM:Result→Sem AE
 | .ok f=>pure (.done f)
 | .error e=>throw e
noncomputable abbrev Xa(w:Aa)(n:Nat)(v:Value)(a b:Aw)(c:AU)(t:Sem AE)(L:Ae)(H:List Nat)(E:List (Nat×(List Nat→List Nat→List Obj→Ak)))(W:List Wd)(d u:Nat):Bx:=
 Ek den rooms GN ⟨pw,w.2⟩ ⟨pw,(wR true w).params⟩ ⟨pw,(wR false w).params⟩ (kt w) n a b c ⟨t,c0,[⟨c0,some v,kM,d,u⟩],L,[],[],[],H,E,W,0,d,u+1,.free⟩
noncomputable def Xb(w:Aa)(n:Nat)(v:Value)(t:Sem AE)(L:Ae)(H:List Nat)(E:List (Nat×(List Nat→List Nat→List Obj→Ak)))(W:List Wd)(d u:Nat):(Aw→Aw→AU→Bx):=λa b c=>Xa w n v a b c t L H E W d u
noncomputable abbrev JZ(w:Aa)(n:Nat)(v:Value)(t:Sem AE)(L:Ae)(H:List Nat)(E:List (Nat×(List Nat→List Nat→List Obj→Ak)))(W:List Wd)(d u:Nat)(a:List Nat)(en:Aw→Aw→AU→Dw)(b:Aw→Aw→AU→Ae)(N:Nat):Prop:=
 LP (Xb w n v t L H E W d u) a=LQ (Xb w n v t L H E W d u) en b N
noncomputable def Jb{T:Type}(g:T→Flow)(Q:T→Ab→Prop)(E:Value→Ab→Prop)(en:Dw)(s:Ab):Prop:=match en with
 | .done f=> ∀x,g x=f→Q x s
 | .err e=>E e s
 |_=>False
noncomputable def RQ{T:Type}(g:T→Flow)(Q:T→Ab→Prop)(E:Value→Ab→Prop):Result→Ab→Prop:=λr s=>match r with
 | .ok f=> ∀x,g x=f→Q x s
 | .error e=>E e s
theorem Fi{Q:Flow→Ab→Prop}{E:Value→Ab→Prop}{a:Flow}{s:Ab}(h:Q a s):Jb id Q E (.done a) s:=λx e=>(show x=a from e)▸h
theorem Hj{Q:Bool→Ab→Prop}{E:Value→Ab→Prop}{b:Bool}{s:Ab}(h:Q b s):Jb (λb=>Flow.ret (.bool b)) Q E (.done (.ret (.bool b))) s:=λx e=>Value.bool.inj (CZ e)▸h
theorem Sf{T:Type}{w:Aa}{A:Al}{g:T→Flow}{Q:T→Ab→Prop}{E:Value→Ab→Prop}{en:Dw}{s:Ab}(h:Jb g Q E en s):Tj pw w A (RQ g Q E) en s:=by
 cases en <;> first|exact h|exact h.elim
theorem Xc{w:Aa}{A:Al}{L:Ae}{H:List Nat}{E:List (Nat×(List Nat→List Nat→List Obj→Ak))}{W:List Wd}{d u n N:Nat}{y:List Nat}{en:Aw→Aw→AU→Dw}{B:Aw→Aw→AU→Ae}{o:Sem AE}{T:Type}{t:Sem T}
  (k:AG w n o L H E W d u y en B N) (g:T→Flow) (C:(t>>=λx=>pure (.done (g x)))=o) (D:A.handled=none) (F:A.depth≤d) (G:A.units≤u) (X: ∀q∈E,∀i j l,Av w (q.2 i j l)) (Y: ∀q∈W,∀i j l,(q.2 i j l).1=(q.2 i j l).2)
  {s:Ab} (S:An (kt w) s L) {Q:T→Ab→Prop} {r:Value→Ab→Prop}
  (fi: ∀a b c m,Ag (kt w) s m L (B a b c)→Jb g Q r (en a b c) m) (v:BS y=true:=by rfl):wpAny (model pw w) A t Q r s:=by
 have z:=NW (R:=RQ g Q r) GL (GM pw w w) (FK pw w) (hS w) (H:=H) (E:=E) (W:=W) g C n D F G (λq I i j l _ _=>(X q I i j l).frm) Y S λa b c=> ?_
 ·exact CE z (λx m h=>h x rfl) λe m h=>h
 ·have h:=Gf k a b c
  have J:=Am Prod.fst h;have K:=Am (λx=>x.2.1) h;have M:=Am (λx=>x.2.2.1) h;refine⟨J,λm O U _=> ?_⟩;have P:(Hx w n a b c o L H E W d u).e=en a b c:=K;rw[P];exact Sf (fi a b c m (O.pick M v))
theorem Xd{w:Aa}{A:Al}{v:Value}{L:Ae}{H:List Nat}{E:List (Nat×(List Nat→List Nat→List Obj→Ak))}{W:List Wd}{d u n N:Nat}{I:List Nat}{en:Aw→Aw→AU→Dw}{J:Aw→Aw→AU→Ae}{r:Sem AE}{T:Type}{t:Sem T}
  (k:JZ w n v r L H E W d u I en J N) (g:T→Flow) (O:(t>>=λx=>pure (.done (g x)))=r) (K:A.handled=none) (M:A.depth≤d) (P:A.units<u) (X: ∀q∈E,∀j l m,Av w (q.2 j l m)) (Y: ∀q∈W,∀j l m,(q.2 j l m).1=(q.2 j l m).2)
  {s:Ab} (S:An (kt w) s L) {Q:T→Ab→Prop} {B:Value→Ab→Prop}
  (fi: ∀b c i o,Ag (kt w) s o L (J b c i)→Jb g Q B (en b c i) o) (F:BS I=true:=by rfl):wpAny (model pw w) (A.mark (some v)) t Q B s:=by
 have z:=NU GL (GM pw w w) (FK pw w) (hS w) K (R:=RQ g Q B) (qt:=false) n ⟨r,c0,[⟨c0,some v,kM,d,u⟩],L,[],[],[],H,E,W,0,d,u+1,.free⟩ s
  ⟨M,by refine (?_:A.units+1≤u+1);(first|lia|omega),M,Bw P⟩ (λq U j l m _ _=>(X q U j l m).frm) Y (.refl S) ⟨rfl,trivial⟩ (A8 _) λb c i=> ?_
 ·have z:wpAny (model pw w) (A.mark (some v)).in1.in1 r (postC pw w (A.in1.mark (some v)) (Hu pw w A (RQ g Q B) [⟨c0,some v,kM,d,u⟩])) (postE (Hu pw w A (RQ g Q B) [⟨c0,some v,kM,d,u⟩])) s:=z
  subst O;refine λD p a=> ?_;have y:=z D p ⟨a.1,a.2.1,a.2.2.1,a.2.2.2.1,AC a.2.2.2.2 (GF A.units 2)⟩;rw[Sem.wp_bind']at y;have C:({D with handled:=none}:Ctx).In A.in1:=⟨K.symm,a.2.1,a.2.2.1,a.2.2.2.1,AC a.2.2.2.2 (GF A.units 1)⟩
  exact Sem.wp_mono _ _ _ (λx G o h=>h {D with handled:=none} G C x rfl) (λe G o h=>h {D with handled:=none} G C) _ _ y
 ·have h:=Gf k b c i
  have V:=Am Prod.fst h;have Z:=Am (λx=>x.2.1) h;have h3:=Am (λx=>x.2.2.1) h;refine⟨V,λo st ri _=> ?_⟩;have e1:(Xa w n v b c i r L H E W d u).e=en b c i:=Z;have q:=Sf (w:=w) (A:=A) (fi b c i o (st.pick h3 F));rw[←e1]at q;exact q
section
noncomputable abbrev BN:=(Option Value)
noncomputable abbrev wS(o:Obj)(a:Array BN):Obj:={o with slots:=a}
noncomputable abbrev Di(f:Nat)(a:Value)(b:List Value):Obj:={cls:=.type "traceback",dict:=none,data:=.fields ⟨[Value.none,.ref f,.none,a,.none]++b⟩,slots:=⟨[]⟩}
noncomputable abbrev CO(t:Nat)(a c:Value):Obj:=fi Kj [.ref t,a,c,.none,.bool false,.none]
theorem Sg{o:Obj}{a:Array BN}(h:o.isFreed=false):(wS o a).isFreed=false:=by
 obtain⟨c,d,b,s⟩:=o;cases b <;> first|rfl|exact h
section
variable {w:Aa}{A:Al}{E:Value→Ab→Prop}{s:Ab}
theorem tI{b:Env}{f:Nat}{o:Obj}{R:Ae}{Q:Unit→Ab→Prop}(g:b.scope.kind≠ .module)(j:b.frame=some f)(k:o.isFreed=false)(S:An (kt w) s ((f,o)::R))
  (h: ∀c l,Ag (kt w) s c ((f,o)::R) ((f,wS o l)::R)→Q () c):wpAny (model pw w) A (readyFrames [b]) Q E s:=by
 have d:=S.mem _ Bj;simp only[readyFrames,j];refine Af (Jo d ?_)
 by_cases e:((o.slots.getD 3 none).isSome)=true
 ·rw[AS e];exact Ap (h _ o.slots (.refl S))
 ·rw[AI e]
  refine Af (GI (a:=false) (by simp[behindIsImport,g]) ?_);refine Af (wpAny_keptBack_nil λ_=> ?_);exact Af (wpAny_update d (Ap (h _ _ (S.set (i:=0) rfl (p:=(f,o)) (Sg k)))))
theorem tJ{d c:Env}{f g:Nat}{o p:Obj}{R:Ae}{Q:Unit→Ab→Prop}(v:d.scope.kind≠ .module)(l:c.scope.kind≠ .module)(y:d.frame=some f)(z:c.frame=some g)(B:o.isFreed=false)(C:p.isFreed=false)(S:An (kt w) s ((f,o)::(g,p)::R))
  (h: ∀e j m,Ag (kt w) s e ((f,o)::(g,p)::R) ((f,wS o j)::(g,wS p m)::R)→Q () e):wpAny (model pw w) A (readyFrames [d,c]) Q E s:=by
 have n:=S.mem _ Bj;rw[readyFrames];simp only[y];refine Af (Jo n ?_)
 by_cases r:((o.slots.getD 3 none).isSome)=true
 ·rw[AS r];exact Ap (h _ o.slots p.slots (.refl S))
 ·rw[AI r]
  refine Af (GI (a:=false) (by simp[behindIsImport,v]) ?_);refine Af ?_;refine (?_:wpAny _ _ (pure _) _ _ _);refine Ap ?_;have k: ∀(a b:Addr×Obj) (R:Ae),(a::b::R).Perm (b::a::R):=λa b R=>.swap ..;have fin: ∀G:Obj→Array BN,wpAny (model pw w) A (readyFrames [c]) Q E {s with heap:=s.heap.update f λo=>{o with slots:=G o}}:=λG=>by
   have t:=S.set (i:=0) rfl (p:=(f,o)) (f:=λo:Obj=>{o with slots:=G o}) (Sg B);exact tI l z C ((t.permR (k _ _ _)).sat) λe j u=>h e _ j ((t.permR (k _ _ _)).trans (u.permR (k _ _ _)))
  exact Af (wpAny_update n (fin _))
theorem tL{e j:Env}{f g k t:Nat}{c:Value}{o p:Obj}{R:Ae}{Q:Unit→Ab→Prop}(y:A.frames=some [e,j])(J:e.scope.kind≠ .module)(z:j.scope.kind≠ .module)(u:e.frame=some f)(K:j.frame=some g)(L:o.isFreed=false)(M:p.isFreed=false)
  (S:An (kt w) s ((f,o)::(g,p)::(k,CO t .none c)::R))
  (h: ∀B v l C n,Ag (kt w) s B ((f,o)::(g,p)::(k,CO t .none c)::R) ((f,wS o v)::(g,wS p l)::(k,CO t (.ref C) c)::(C,Di f (rawInt f) n)::R)→Q () B):wpAny (model pw w) A (noteFrame (.ref k) e) Q E s:=by
 have N:=S.mem (k,CO t .none c) (by (first|((repeat(first|exact .head _|apply List.mem_cons_of_mem));done)|simp));unfold noteFrame;simp only[u];refine Af (wpAny_field N (vs:=⟨[.ref t,.none,c,.none,.bool false,.none]⟩) rfl (x:=.none) rfl ?_);rw[AI (by decide)];unfold PySem.frameOf;refine Af (Af (wpAny_frameEnvs y ?_));have D:([e,j].dropWhile λx=>x.frame != e.frame)=[e,j]:=by simp[List.dropWhile]
 rw[D];unfold frameObject;refine Af (Af (tJ J z u K L M S λs1 v l r=>Ap ?_));rw[u];refine Ap ?_;refine Af (wpAny_entryPlaceOf λn F=> ?_);unfold EntryCells.newEntry newFields;refine Af (wpAny_newObj_type ?_ (F.sizeOk5 _ _ _ _ _));have G:=r.sat.push (o:={cls:=.type "traceback",dict:=none,data:=.fields ([Value.none,.ref f,.none,rawInt f,.none]++(if n.isEmpty then Cd 6 Value.none else n)).toArray}) rfl;have O: ∀(a b c d:Addr×Obj) (R:Ae),((a::b::c::R)++[d]).Perm (c::a::b::d::R):=λa b c d R=>AM [R] [a,b,c,d] [0,4,1,3,5,2,7] [5,1,3,7,2];have m:=G.permR (O _ _ _ _ _);have H:=m.sat.mem (k,CO t .none c) (by (first|((repeat(first|exact .head _|apply List.mem_cons_of_mem));done)|simp));refine wpAny_setField H (vs:=⟨[.ref t,.none,c,.none,.bool false,.none]⟩) rfl (show 1<6 by decide) ?_;have I:=m.sat.set (i:=0) rfl (p:=(k,CO t .none c)) (f:=Obj.mapFields (·.setIfInBounds 1 (.ref s1.heap.objs.size))) rfl;have P: ∀(a b c d:Addr×Obj) (R:Ae),(c::a::b::d::R).Perm (a::b::c::d::R):=λa b c d R=>AM [R] [a,b,c,d] [5,1,3,7,2] [1,3,5,7,2];exact h _ v l _ _ ((r.trans (m.trans I)).permR (P _ _ _ _ _))
noncomputable abbrev Fj(a b:Nat)(c:Value):=CO a (.ref b) c
theorem Ng{a:Env}{f b t d:Nat}{c:Value}{e:List Value}{L:Ae}{Q:Unit→Ab→Prop}(g:a.frame=some f)(S:An (kt w) s L)(i:(b,Fj t d c)∈L)(j:(d,Di f (rawInt f) e)∈L)(h:Q () s):wpAny (model pw w) A (noteFrame (.ref b) a) Q E s:=
 wpAny_noteFrame_inFlight g (S.mem _ i) rfl rfl (S.mem _ j) rfl rfl h
theorem Pj{f e t a:Nat}{c d:Value}{b:List Value}{R:Ae}{Q:Unit→Ab→Prop}(fr:Option Addr)(S:An (kt w) s ((a,Di f d b)::R))(j:(e,Fj t a c)∈R)
  (h: ∀g,Ag (kt w) s g ((a,Di f d b)::R) ((a,Di f (fr.elim .none λf=>rawInt f) b)::R)→Q () g):wpAny (model pw w) A (setFlight (.ref e) fr) Q E s:=by
 have k:=S.mem (e,Fj t a c) (BB _ j);have l:=S.mem (a,Di f d b) Bj;unfold setFlight;refine Af (wpAny_field k rfl (x:=.ref a) rfl ?_);rw[AS (show(Value.ref a != Value.none)=true from by (first|((repeat(first|exact .head _|apply List.mem_cons_of_mem));done)|simp))];refine wpAny_setField l rfl (by refine (?_:3<([Value.none,.ref f,.none,d,.none]++b).length);(first|((repeat(first|exact .head _|apply List.mem_cons_of_mem));done)|simp)) (h _ ?_);exact S.set (i:=0) rfl (p:=(a,Di f d b)) (f:=Obj.mapFields (·.setIfInBounds 3 (fr.elim .none λf=>rawInt f))) rfl
theorem tM{d:Env}{f b t a:Nat}{c g:Value}{e:List Value}{R:Ae}(k:d.frame=some f)(S:An (kt w) s ((a,Di f g e)::R))(i:(b,Fj t a c)∈R)
  (h: ∀j,Ag (kt w) s j ((a,Di f g e)::R) ((a,Di f (rawInt f) e)::R)→E (.ref b) j):cameBackBy (model pw w) A d E (.ref b) s:=by
 have l:=S.mem (b,Fj t a c) (BB _ i);refine Af (wpAny_field l rfl (x:=.ref a) rfl ?_);rw[AI (by (first|((repeat(first|exact .head _|apply List.mem_cons_of_mem));done)|simp))];rw[k];exact Pj (some f) S i h
theorem tN{e:Env}{f b t a:Nat}{c j:Value}{g:List Value}{R:Ae}{T:Type}{Q:T→Ab→Prop}{i:String}(l:e.frame=some f)(S:An (kt w) s ((a,Di f j g)::R))(k:(b,Fj t a c)∈R)
  (h: ∀d,Ag (kt w) s d ((a,Di f j g)::R) ((a,Di f (rawInt f) g)::R)→E (.ref b) d):wpAny (model pw w) A (PySem.passOn i (.ref b) e) Q E s:=by
 have m:=S.mem (b,Fj t a c) (BB _ k);unfold PySem.passOn;refine Af (wpAny_field m rfl (x:=.ref a) rfl ?_);rw[AI (by (first|((repeat(first|exact .head _|apply List.mem_cons_of_mem));done)|simp))];rw[l];exact Af (Pj (some f) S k λd n=>wpAny_throw (h d n))
end
end
noncomputable def Sh(e:Option Value)(a b:Nat)(d c:List Value)(n k:Nat):Ak:=
 {IF (.call (.builtin P7) ⟨[.ref a,.ref b],[]⟩) [(a,li d n),(b,li c k)] [li (d++c) (if c.isEmpty then n else n+1),li c k] .none with h:=e}
theorem Xe{w:Aa}{m:Option Value}{a b n k:Nat}{d c:List Value}(o:d.length+c.length≤1000):Av w (Sh m a b d c n k):=by
 intro A r t u s S _;have S:An (kt w) s [(a,li d n),(b,li c k)]:=S;have h:=S.mem (a,li d n) (by (first|((repeat(first|exact .head _|apply List.mem_cons_of_mem));done)|simp));have g:=S.mem (b,li c k) (by (first|((repeat(first|exact .head _|apply List.mem_cons_of_mem));done)|simp));have j:=S.set (i:=0) rfl (f:=Obj.mapSeq λx=>x++(⟨c⟩:Array Value)) (p:=(a,li d n)) rfl;have e:Obj.mapSeq (λx=>x++(⟨c⟩:Array Value)) (li d n)=li (d++c) (if c.isEmpty then n else n+1):=by
  cases c with
  |nil=>simp[Obj.mapSeq]
  |cons y c=>simp[Obj.mapSeq]
 dsimp only at h g j;rw[e]at j;rw[BX]at h g;have l:(⟨d⟩:Array Value).size+(⟨c⟩:Array Value).size≤sizeLine:=AC o (by decide);refine (?_:codeAny _ _ (.call (.builtin P7) _) _ s);rw[qI];refine Qc F.slot_list_extend (T:="list") ⟨_,h,rfl⟩ F.entry_list_extend (F.args_list_extend_2 _ _) (AutoSeq1.list_extend_list_list_0 a ⟨d⟩ n b ⟨c⟩ k (extend_door l) (AC (GF _ _) l) (Ip l)) ⟨h,g,?_⟩;refine⟨[],[],[],rfl,rfl,rfl,rfl,?_,j.toks⟩;refine (?_:Ag (kt w) s _ [(a,li d n),(b,li c k)] (Bk [(a,li d n),(b,li c k)] [li (d++c) (if c.isEmpty then n else n+1),li c k]++[]));rw[BR];exact j
noncomputable abbrev Nh(a:Array BN)(b:List DictEntry)(n:Nat):Obj:=⟨CT,none,.dict ⟨b⟩ n,a⟩
noncomputable abbrev CP(P:Aj)(b:Array BN)(a:Nat→Nat)(c d i e j g m u:Nat)(x:List DictEntry)(n:Nat):Obj:=Nh b ([Aq P CG (a 0) (.ref c),Aq P CF (a 1) (.ref d),Aq P By (a 2) (.int i e),Aq P CL (a 3) (.int j g),Aq P C0 (a 4) (.ref m),Aq P C1 (a 5) (.ref u)]++x) n
noncomputable abbrev Bn(P:Aj)(a b p tp q c:Nat):List DictEntry:=[Aq P CU a (.int p tp),Aq P Cq b (.int q c)]
noncomputable abbrev Pk:=[108,105,115,116,32,105,110,100,101,120,32,111,117,116,32,111,102,32,114,97,110,103,101]
noncomputable def Pl(e:Option Value)(g:Value)(F:Ae)(a:Nat)(b:List Value)(n i t:Nat):Ak:=
 {d:=900,u:=9000,h:=e,c:=.call (.builtin Jz) ⟨[.ref a,.int i t],[]⟩,idx:=[],pre:=(a,li b n)::F,na:=2,nt:=0,no:=1,r:=λa _=>.error (.ref (a.getD 1 0)),outs:=λ_ _ _=>li b n::F.map (·.2),news:=λa _ o=>[tu [.str ⟨⟨Pk⟩⟩ (Ao o 0)] 0,CO (a.getD 0 0) .none g]}
theorem tO(w:Aa)(c d:Nat):
  AD w 18 (.call (.ref 302) ⟨[.ref c,.ref d],[]⟩) ([]) [0,0,0,1,1,0,1,1,0,1] [] [] 0 480 2600 [0]
   (λa b e=>.again (.func Sc (Bs (a 0)))) (λa b e=>[(a 0,Nh ⟨[]⟩ [Ad w CG (b 0) (.ref c),Ad w CF (b 1) (.ref d)] 2)]) 2:=by
 kernel_rfl
theorem tP(w:Aa)(f d e:Nat)(c:Nat→Nat)(g:Array BN):
  AG w 44 (tw12221740135850211760 f) ([(f,Nh g [Ad w CG (c 0) (.ref d),Ad w CF (c 1) (.ref e)] 2)]) [0,1,1,0,1,1,0,1,1,0,1,1] [] [] 480 2600 [0,1,2]
   (λb a h=>.done .next) (λb a h=>[(f,⟨CT,none,.dict ⟨[Ad w CG (c 0) (.ref d),Ad w CF (c 1) (.ref e),Ad w By (a 2) (Bu (a 1)),Ad w CL (a 3) (Bu (a 1)),Ad w C0 (a 4) (.ref (b 0)),Ad w C1 (a 5) (.ref (b 1))]⟩ 6,⟨(g).toList⟩⟩),(b 0,li [] 0),(b 1,li [] 0)]) 6:=by
 kernel_rfl
theorem tQ(w:Aa)(f:Nat):
  AG w 7 (tw1421409607433010936 f) ([]) [] [] [] 480 2600 []
   (λa b c=>.done (.ret IJ)) (λa b c=>[]) 0:=by
 kernel_rfl
theorem tR(w:Aa)(f b c i d j e m u:Nat)(a:Nat→Nat)(o:Array BN)(g h p tp q r:Nat)(k l:List Value):
  AG w 40 (tw17455020850528331180 f) ([(f,CP w.2 o a b c i d j e m u [] 6),(b,li k g),(c,li l h)]) (dg 4 5813657541) (AB [(0,[1]),(0,[2])] ([λs t v=>Fd b k g i d (.int p tp),λs t v=>Fd c l h j e (.int q r)])) [] 480 2600 [0,1,2]
   (λy n z=>.done .next) (λy n z=>[(f,⟨CT,none,.dict ⟨[Ad w CG (a 0) (.ref b),Ad w CF (a 1) (.ref c),Ad w By (a 2) (AW i d),Ad w CL (a 3) (AW j e),Ad w C0 (a 4) (.ref m),Ad w C1 (a 5) (.ref u),Ad w CU (n 0) (AW p tp),Ad w Cq (n 1) (AW q r)]⟩ 8,⟨(o).toList⟩⟩),(b,li k g),(c,li l h)]) 2:=by
 kernel_rfl
theorem tS(w:Aa)(f b c i d j e m u:Nat)(a:Nat→Nat)(n:Array BN)(g h p tp q o:Nat)(k l:List Value)(r s:Nat)(t v:Value):
  AG w 40 (tw17455020850528331180 f) ([(f,CP w.2 n a b c i d j e m u [Ad w CU r t,Ad w Cq s v] 8),(b,li k g),(c,li l h)]) (dg 4 5813657541) (AB [(0,[1]),(0,[2])] ([λy z A=>Fd b k g i d (.int p tp),λy z A=>Fd c l h j e (.int q o)])) [] 480 2600 [0,1,2]
   (λB C D=>.done .next) (λB C D=>[(f,⟨CT,none,.dict ⟨[Ad w CG (a 0) (.ref b),Ad w CF (a 1) (.ref c),Ad w By (a 2) (AW i d),Ad w CL (a 3) (AW j e),Ad w C0 (a 4) (.ref m),Ad w C1 (a 5) (.ref u),Ad w CU r (AW p tp),Ad w Cq s (AW q o)]⟩ 8,⟨(n).toList⟩⟩),(b,li k g),(c,li l h)]) 2:=by
 kernel_rfl
noncomputable abbrev K0(a:Nat→Obj):=tu [.str ⟨⟨Pk⟩⟩ (Ao [a 0] 0)] 0
noncomputable abbrev J0(a:Nat→Nat)(b:Nat):=(a 1,fi Kj [.ref b,.none,.none,.none,.bool false,.none])
noncomputable abbrev Ni(a:Nat)(b:List Value)(c d e:Nat):=(AB [(0,[1])] ([λg h i=>Pl none .none [] a b c d e]))
theorem tT(w:Aa)(f b h i d j k m u:Nat)(a:Nat→Nat)(l:Array BN)(e:Nat)(g:List Value):
  AG w 16 (tw17455020850528331180 f) ([(f,CP w.2 l a b h i d j k m u [] 6),(b,li g e)]) [1,1,2,2,2] (Ni b g e i d) [] 480 2600 [0,1,2,3]
   (λc o n=>.err (.ref (c 1))) (λc o n=>[(f,⟨CT,none,.dict ⟨[Ad w CG (a 0) (.ref b),Ad w CF (a 1) (.ref h),Ad w By (a 2) (AW i d),Ad w CL (a 3) (AW j k),Ad w C0 (a 4) (.ref m),Ad w C1 (a 5) (.ref u)]⟩ 6,⟨(l).toList⟩⟩),(b,li g e),(c 0,K0 n),J0 c (c 0)]) 0:=by
 kernel_rfl
theorem Xf(w:Aa)(f c d i e j g m u:Nat)(a:Nat→Nat)(h:Array BN)(k l p tp q n:Nat)(b:Bool):
  AG w 15 (tw11312781009566750177 0 f) ([(f,CP w.2 h a c d i e j g m u (Bn w.2 k l p tp q n) 8)]) [1,1,1] [] (Bh [0] [λt v y=>(.bool (decide ((p:Int)<(q:Int))),.bool b)]) 480 2600 [0]
   (λo r s=>.done (.ret (.bool b))) (λo r s=>[(f,⟨CT,none,.dict ⟨[Ad w CG (a 0) (.ref c),Ad w CF (a 1) (.ref d),Ad w By (a 2) (AW i e),Ad w CL (a 3) (AW j g),Ad w C0 (a 4) (.ref m),Ad w C1 (a 5) (.ref u),Ad w CU k (.int (↑p) tp),Ad w Cq l (.int (↑q) n)]⟩ 8,⟨(h).toList⟩⟩)]) 0:=by
 kernel_rfl
theorem Xg(w:Aa)(f c d i e j g m u:Nat)(a:Nat→Nat)(h:Array BN)(k l p tp q n:Nat)(b:Bool):
  AG w 15 (tw11312781009566750177 1 f) ([(f,CP w.2 h a c d i e j g m u (Bn w.2 k l p tp q n) 8)]) [1,1,1] [] (Bh [0] [λt v y=>(.bool (decide ((p:Int)>(q:Int))),.bool b)]) 480 2600 [0]
   (λo r s=>.done (.ret (.bool b))) (λo r s=>[(f,⟨CT,none,.dict ⟨[Ad w CG (a 0) (.ref c),Ad w CF (a 1) (.ref d),Ad w By (a 2) (AW i e),Ad w CL (a 3) (AW j g),Ad w C0 (a 4) (.ref m),Ad w C1 (a 5) (.ref u),Ad w CU k (.int (↑p) tp),Ad w Cq l (.int (↑q) n)]⟩ 8,⟨(h).toList⟩⟩)]) 0:=by
 kernel_rfl
theorem tU(w:Aa)(f e g i s j h m u:Nat)(a:Nat→Nat)(k:Array BN)(l n p tp q o:Nat)(b:Nat)(c:List Value):
  AG w 35 (tw10261639450180429205 f) ([(f,CP w.2 k a e g i s j h m u (Bn w.2 l n p tp q o) 8),(m,li c b)]) [1,2,2,2,2,1,1,0,1,1] (AB [(0,[1])] ([λt d v=>Ck m c b (.int p tp)])) (Bh [0] [λt d v=>(.int ((i:Int)+1) (tk d 1),.int ((i+1:Nat):Int) (tk d 1))]) 480 2600 [0,1]
   (λy r z=>.done .next) (λy r z=>[(f,⟨CT,none,.dict ⟨[Ad w CG (a 0) (.ref e),Ad w CF (a 1) (.ref g),Ad w By (a 2) (.int (↑(i+1)) (r 1)),Ad w CL (a 3) (AW j h),Ad w C0 (a 4) (.ref m),Ad w C1 (a 5) (.ref u),Ad w CU l (AW p tp),Ad w Cq n (AW q o)]⟩ 8,⟨(k).toList⟩⟩),(m,li (c++[Value.int (↑p) tp]) b.succ)]) 3:=by
 kernel_rfl
theorem tV(w:Aa)(f g h i k j s m u:Nat)(a:Nat→Nat)(l:Array BN)(n o p tp q b:Nat)(c:Nat)(d:List Value):
  AG w 35 (tw5296470503964135419 f) ([(f,CP w.2 l a g h i k j s m u (Bn w.2 n o p tp q b) 8),(u,li d c)]) [1,2,2,2,2,1,1,0,1,1] (AB [(0,[1])] ([λt e v=>Ck u d c (.int q b)])) (Bh [0] [λt e v=>(.int ((j:Int)+1) (tk e 1),.int ((j+1:Nat):Int) (tk e 1))]) 480 2600 [0,1]
   (λy r z=>.done .next) (λy r z=>[(f,⟨CT,none,.dict ⟨[Ad w CG (a 0) (.ref g),Ad w CF (a 1) (.ref h),Ad w By (a 2) (AW i k),Ad w CL (a 3) (.int (↑(j+1)) (r 1)),Ad w C0 (a 4) (.ref m),Ad w C1 (a 5) (.ref u),Ad w CU n (AW p tp),Ad w Cq o (AW q b)]⟩ 8,⟨(l).toList⟩⟩),(u,li (d++[Value.int (↑q) b]) c.succ)]) 3:=by
 kernel_rfl
theorem tW(w:Aa)(f b c i o j d m u:Nat)(a:Nat→Nat)(e:Array BN)(g h p tp q k:Nat):
  AG w 21 (tw10216662923325704771 f) ([(f,CP w.2 e a b c i o j d m u (Bn w.2 g h p tp q k) 8)]) [1,0,1,1] [] (Bh [0] [λt l v=>(.int ((i:Int)+1) (tk l 1),.int ((i+1:Nat):Int) (tk l 1))]) 480 2600 [0]
   (λr n s=>.done .next) (λr n s=>[(f,⟨CT,none,.dict ⟨[Ad w CG (a 0) (.ref b),Ad w CF (a 1) (.ref c),Ad w By (a 2) (.int (↑(i+1)) (n 1)),Ad w CL (a 3) (AW j d),Ad w C0 (a 4) (.ref m),Ad w C1 (a 5) (.ref u),Ad w CU g (AW p tp),Ad w Cq h (AW q k)]⟩ 8,⟨(e).toList⟩⟩)]) 3:=by
 kernel_rfl
theorem tX(w:Aa)(f b c i d j o m u:Nat)(a:Nat→Nat)(e:Array BN)(g h p tp q k:Nat):
  AG w 21 (tw18127145149267159557 f) ([(f,CP w.2 e a b c i d j o m u (Bn w.2 g h p tp q k) 8)]) [1,0,1,1] [] (Bh [0] [λt l v=>(.int ((j:Int)+1) (tk l 1),.int ((j+1:Nat):Int) (tk l 1))]) 480 2600 [0]
   (λr n s=>.done .next) (λr n s=>[(f,⟨CT,none,.dict ⟨[Ad w CG (a 0) (.ref b),Ad w CF (a 1) (.ref c),Ad w By (a 2) (AW i d),Ad w CL (a 3) (.int (↑(j+1)) (n 1)),Ad w C0 (a 4) (.ref m),Ad w C1 (a 5) (.ref u),Ad w CU g (AW p tp),Ad w Cq h (AW q k)]⟩ 8,⟨(e).toList⟩⟩)]) 3:=by
 kernel_rfl
theorem tY(w:Aa)(f b c i d j o m u:Nat)(a:Nat→Nat)(e:Array BN)(g h p tp q k:Nat)(r:Nat):
  JZ w 21 (.ref r) (tw18127145149267159557 f) ([(f,CP w.2 e a b c i d j o m u (Bn w.2 g h p tp q k) 8)]) [1,0,1,1] [] (Bh [0] [λv l y=>(.int ((j:Int)+1) (tk l 1),.int ((j+1:Nat):Int) (tk l 1))]) 480 2600 [0]
   (λs n t=>.done .next) (λs n t=>[(f,⟨CT,none,.dict ⟨[Ad w CG (a 0) (.ref b),Ad w CF (a 1) (.ref c),Ad w By (a 2) (AW i d),Ad w CL (a 3) (.int (↑(j+1)) (n 1)),Ad w C0 (a 4) (.ref m),Ad w C1 (a 5) (.ref u),Ad w CU g (AW p tp),Ad w Cq h (AW q k)]⟩ 8,⟨(e).toList⟩⟩)]) 3:=by
 kernel_rfl
theorem tZ(w:Aa)(f b g i c j h m u:Nat)(a:Nat→Nat)(k:Array BN)(l n p tp q o:Nat)(d r s:Nat)(e:List Value):
  AG w 22 (tw11068680119571864600 f) ([(f,CP w.2 k a b g i c j h m u (Bn w.2 l n p tp q o) 8),(b,li e d)]) [1,1,2,2,2,1,1] (AB [(0,[1])] ([λt v y=>Fd b e d i c (.int r s)])) (Bh [0] [λt v y=>(.bool (decide ((r:Int)=(p:Int))),.bool false)]) 480 2600 [0,1]
   (λz A B=>.done (.ret DG)) (λz A B=>[(f,⟨CT,none,.dict ⟨[Ad w CG (a 0) (.ref b),Ad w CF (a 1) (.ref g),Ad w By (a 2) (AW i c),Ad w CL (a 3) (AW j h),Ad w C0 (a 4) (.ref m),Ad w C1 (a 5) (.ref u),Ad w CU l (.int (↑p) tp),Ad w Cq n (AW q o)]⟩ 8,⟨(k).toList⟩⟩),(b,li e d)]) 0:=by
 kernel_rfl
theorem Aaa(w:Aa)(f b h i d j k m u:Nat)(a:Nat→Nat)(l:Array BN)(n o p tp q r:Nat)(e:Nat)(g:List Value):
  AG w 15 (tw11068680119571864600 f) ([(f,CP w.2 l a b h i d j k m u (Bn w.2 n o p tp q r) 8),(b,li g e)]) [1,1,2,2,2] (Ni b g e i d) [] 480 2600 [0,1,2,3]
   (λc t s=>.err (.ref (c 1))) (λc t s=>[(f,⟨CT,none,.dict ⟨[Ad w CG (a 0) (.ref b),Ad w CF (a 1) (.ref h),Ad w By (a 2) (AW i d),Ad w CL (a 3) (AW j k),Ad w C0 (a 4) (.ref m),Ad w C1 (a 5) (.ref u),Ad w CU n (AW p tp),Ad w Cq o (AW q r)]⟩ 8,⟨(l).toList⟩⟩),(b,li g e),(c 0,K0 s),J0 c (c 0)]) 0:=by
 kernel_rfl
theorem Aab(w:Aa)(f g b i h j c m u:Nat)(a:Nat→Nat)(k:Array BN)(l n p tp q o:Nat)(d r s:Nat)(e:List Value):
  AG w 22 (tw6318051664192262566 f) ([(f,CP w.2 k a g b i h j c m u (Bn w.2 l n p tp q o) 8),(b,li e d)]) [1,1,2,2,2,1,1] (AB [(0,[1])] ([λt v y=>Fd b e d j c (.int r s)])) (Bh [0] [λt v y=>(.bool (decide ((r:Int)=(q:Int))),.bool false)]) 480 2600 [0,1]
   (λz A B=>.done (.ret DG)) (λz A B=>[(f,⟨CT,none,.dict ⟨[Ad w CG (a 0) (.ref g),Ad w CF (a 1) (.ref b),Ad w By (a 2) (AW i h),Ad w CL (a 3) (AW j c),Ad w C0 (a 4) (.ref m),Ad w C1 (a 5) (.ref u),Ad w CU l (AW p tp),Ad w Cq n (.int (↑q) o)]⟩ 8,⟨(k).toList⟩⟩),(b,li e d)]) 0:=by
 kernel_rfl
theorem Aac(w:Aa)(f h b i k j d m u:Nat)(a:Nat→Nat)(l:Array BN)(n o p tp q r:Nat)(e:Nat)(g:List Value):
  AG w 15 (tw6318051664192262566 f) ([(f,CP w.2 l a h b i k j d m u (Bn w.2 n o p tp q r) 8),(b,li g e)]) [1,1,2,2,2] (Ni b g e j d) [] 480 2600 [0,1,2,3]
   (λc t s=>.err (.ref (c 1))) (λc t s=>[(f,⟨CT,none,.dict ⟨[Ad w CG (a 0) (.ref h),Ad w CF (a 1) (.ref b),Ad w By (a 2) (AW i k),Ad w CL (a 3) (AW j d),Ad w C0 (a 4) (.ref m),Ad w C1 (a 5) (.ref u),Ad w CU n (AW p tp),Ad w Cq o (AW q r)]⟩ 8,⟨(l).toList⟩⟩),(b,li g e),(c 0,K0 s),J0 c (c 0)]) 0:=by
 kernel_rfl
theorem Aad(w:Aa)(f b g i c j h m u:Nat)(a:Nat→Nat)(k:Array BN)(l n p tp q o:Nat)(d r s:Nat)(e:List Value):
  AG w 22 (tw3257809080605712396 f) ([(f,CP w.2 k a b g i c j h m u (Bn w.2 l n p tp q o) 8),(b,li e d)]) [1,1,2,2,2,1,1] (AB [(0,[1])] ([λt v y=>Fd b e d i c (.int r s)])) (Bh [0] [λt v y=>(.bool (decide ((r:Int)=(p:Int))),.bool false)]) 480 2600 [0,1]
   (λz A B=>.done (.ret DG)) (λz A B=>[(f,⟨CT,none,.dict ⟨[Ad w CG (a 0) (.ref b),Ad w CF (a 1) (.ref g),Ad w By (a 2) (AW i c),Ad w CL (a 3) (AW j h),Ad w C0 (a 4) (.ref m),Ad w C1 (a 5) (.ref u),Ad w CU l (.int (↑p) tp),Ad w Cq n (AW q o)]⟩ 8,⟨(k).toList⟩⟩),(b,li e d)]) 0:=by
 kernel_rfl
theorem Aae(w:Aa)(f b h i d j k m u:Nat)(a:Nat→Nat)(l:Array BN)(n o p tp q r:Nat)(e:Nat)(g:List Value):
  AG w 15 (tw3257809080605712396 f) ([(f,CP w.2 l a b h i d j k m u (Bn w.2 n o p tp q r) 8),(b,li g e)]) [1,1,2,2,2] (Ni b g e i d) [] 480 2600 [0,1,2,3]
   (λc t s=>.err (.ref (c 1))) (λc t s=>[(f,⟨CT,none,.dict ⟨[Ad w CG (a 0) (.ref b),Ad w CF (a 1) (.ref h),Ad w By (a 2) (AW i d),Ad w CL (a 3) (AW j k),Ad w C0 (a 4) (.ref m),Ad w C1 (a 5) (.ref u),Ad w CU n (AW p tp),Ad w Cq o (AW q r)]⟩ 8,⟨(l).toList⟩⟩),(b,li g e),(c 0,K0 s),J0 c (c 0)]) 0:=by
 kernel_rfl
theorem Aaf(w:Aa)(f g b i h j c m u:Nat)(a:Nat→Nat)(k:Array BN)(l n p tp q o:Nat)(d r s:Nat)(e:List Value):
  AG w 22 (tw5774956086130822822 f) ([(f,CP w.2 k a g b i h j c m u (Bn w.2 l n p tp q o) 8),(b,li e d)]) [1,1,2,2,2,1,1] (AB [(0,[1])] ([λt v y=>Fd b e d j c (.int r s)])) (Bh [0] [λt v y=>(.bool (decide ((r:Int)=(q:Int))),.bool false)]) 480 2600 [0,1]
   (λz A B=>.done (.ret DG)) (λz A B=>[(f,⟨CT,none,.dict ⟨[Ad w CG (a 0) (.ref g),Ad w CF (a 1) (.ref b),Ad w By (a 2) (AW i h),Ad w CL (a 3) (AW j c),Ad w C0 (a 4) (.ref m),Ad w C1 (a 5) (.ref u),Ad w CU l (AW p tp),Ad w Cq n (.int (↑q) o)]⟩ 8,⟨(k).toList⟩⟩),(b,li e d)]) 0:=by
 kernel_rfl
theorem Aag(w:Aa)(f h b i k j d m u:Nat)(a:Nat→Nat)(l:Array BN)(n o p tp q r:Nat)(e:Nat)(g:List Value):
  AG w 15 (tw5774956086130822822 f) ([(f,CP w.2 l a h b i k j d m u (Bn w.2 n o p tp q r) 8),(b,li g e)]) [1,1,2,2,2] (Ni b g e j d) [] 480 2600 [0,1,2,3]
   (λc t s=>.err (.ref (c 1))) (λc t s=>[(f,⟨CT,none,.dict ⟨[Ad w CG (a 0) (.ref h),Ad w CF (a 1) (.ref b),Ad w By (a 2) (AW i k),Ad w CL (a 3) (AW j d),Ad w C0 (a 4) (.ref m),Ad w C1 (a 5) (.ref u),Ad w CU n (AW p tp),Ad w Cq o (AW q r)]⟩ 8,⟨(l).toList⟩⟩),(b,li g e),(c 0,K0 s),J0 c (c 0)]) 0:=by
 kernel_rfl
theorem Aah(w:Aa)(f g b i k j c m u:Nat)(a:Nat→Nat)(l:Array BN)(n o p tp q s:Nat)(d r v:Nat)(e:List Value)(t:Nat):
  JZ w 22 (.ref t) (tw5774956086130822822 f) ([(f,CP w.2 l a g b i k j c m u (Bn w.2 n o p tp q s) 8),(b,li e d)]) [1,1,2,2,2,1,1] (AB [(0,[1])] ([λy z A=>{Fd b e d j c (.int r v)with h:=some (.ref t)}])) (Bh [0] [λy z A=>(.bool (decide ((r:Int)=(q:Int))),.bool false)]) 480 2600 [0,1]
   (λB C D=>.done (.ret DG)) (λB C D=>[(f,⟨CT,none,.dict ⟨[Ad w CG (a 0) (.ref g),Ad w CF (a 1) (.ref b),Ad w By (a 2) (AW i k),Ad w CL (a 3) (AW j c),Ad w C0 (a 4) (.ref m),Ad w C1 (a 5) (.ref u),Ad w CU n (AW p tp),Ad w Cq o (.int (↑q) s)]⟩ 8,⟨(l).toList⟩⟩),(b,li e d)]) 0:=by
 kernel_rfl
theorem Aai(w:Aa)(f l c i n j e m u:Nat)(a:Nat→Nat)(o:Array BN)(r s p tp q v:Nat)(g:Nat)(h:List Value)(b t:Nat)(k:Value):
  JZ w 15 (.ref b) (tw5774956086130822822 f) ([(f,CP w.2 o a l c i n j e m u (Bn w.2 r s p tp q v) 8),(c,li h g),(b,CO t k .none)]) [1,1,2,2,2] (AB [(0,[1,2])] ([λA B C=>Pl (some (.ref b)) (.ref b) [(b,CO t k .none)] c h g j e])) [] 480 2600 (.range 5)
   (λd z y=>.err (.ref (d 1))) (λd z y=>[(f,⟨CT,none,.dict ⟨[Ad w CG (a 0) (.ref l),Ad w CF (a 1) (.ref c),Ad w By (a 2) (AW i n),Ad w CL (a 3) (AW j e),Ad w C0 (a 4) (.ref m),Ad w C1 (a 5) (.ref u),Ad w CU r (AW p tp),Ad w Cq s (AW q v)]⟩ 8,⟨(o).toList⟩⟩),(c,li h g),(b,fi Kj [.ref t,k,.none,.none,DG,.none]),(d 0,K0 y),(d 1,fi Kj [.ref (d 0),.none,.ref b,.none,DG,.none])]) 0:=by
 kernel_rfl
theorem Aaj(w:Aa)(f d e i r j s m u:Nat)(a:Nat→Nat)(F:Array BN)(x:List DictEntry)(n v y g k c t G:Nat)(H:Value)(z A B C I l o:List Value):
  AG w 67 (tw10982671374861550713 f c) ([(f,CP w.2 F a d e i r j s m u x n),(d,li z v),(e,li A y),(m,li B g),(u,li C k),(c,Fj t G H),(G,Di f .none I)]) (dg 8 0x40dbf32484a48db692db) (AB [(2,[1,7]),(0,[3,8]),(0,[2,9]),(0,[4,10])] ([λb D E=>{EW d (tk b 0) z v (.int i r) .none .none l with h:=some (.ref c)},λb D E=>Sh (some (.ref c)) m (tk b 1) B l g 0,λb D E=>{EW e (tk b 2) A y (.int j s) .none .none o with h:=some (.ref c)},λb D E=>Sh (some (.ref c)) u (tk b 3) C o k 0])) [] 480 2600 (.range 5)
   (λJ K L=>.done .brk) (λJ K L=>[(f,⟨CT,none,.dict ⟨{hash:=PyData.keyHash w.2 CG,key:=Value.str {cps:={toList:=[101,120,112,101,99,116,101,100]}} (a 0),val:=Value.ref d}::{hash:=PyData.keyHash w.2 CF,key:=Value.str {cps:={toList:=[97,99,116,117,97,108]}} (a 1),val:=Value.ref e}::{hash:=PyData.keyHash w.2 By,key:=Value.str {cps:={toList:=[105]}} (a 2),val:=Value.int (↑i) r}::{hash:=PyData.keyHash w.2 CL,key:=Value.str {cps:={toList:=[106]}} (a 3),val:=Value.int (↑j) s}::{hash:=PyData.keyHash w.2 C0,key:=Value.str {cps:={toList:=[109,105,115,115,105,110,103]}} (a 4),val:=Value.ref m}::{hash:=PyData.keyHash w.2 C1,key:=Value.str {cps:={toList:=[117,110,101,120,112,101,99,116,101,100]}} (a 5),val:=Value.ref u}::x⟩ n,⟨(F).toList⟩⟩),(d,li z v),(e,li A y),(m,li (B++l) (if l.isEmpty=true then g else g+1)),(u,li (C++o) (if o.isEmpty=true then k else k+1))]) 0:=by
 kernel_rfl
theorem Aak(w:Aa)(f c d i e j g m u:Nat)(a:Nat→Nat)(h:Array BN)(x:List DictEntry)(n:Nat):
  AG w 13 (tw17473257155629819926 f) ([(f,CP w.2 h a c d i e j g m u x n)]) [1,1] [] [] 480 2600 [0,1]
   (λb k l=>.done (.ret (.ref (b 0)))) (λb k l=>[(f,⟨CT,none,.dict ⟨{hash:=PyData.keyHash w.2 CG,key:=Value.str {cps:={toList:=[101,120,112,101,99,116,101,100]}} (a 0),val:=Value.ref c}::{hash:=PyData.keyHash w.2 CF,key:=Value.str {cps:={toList:=[97,99,116,117,97,108]}} (a 1),val:=Value.ref d}::{hash:=PyData.keyHash w.2 By,key:=Value.str {cps:={toList:=[105]}} (a 2),val:=Value.int (↑i) e}::{hash:=PyData.keyHash w.2 CL,key:=Value.str {cps:={toList:=[106]}} (a 3),val:=Value.int (↑j) g}::{hash:=PyData.keyHash w.2 C0,key:=Value.str {cps:={toList:=[109,105,115,115,105,110,103]}} (a 4),val:=Value.ref m}::{hash:=PyData.keyHash w.2 C1,key:=Value.str {cps:={toList:=[117,110,101,120,112,101,99,116,101,100]}} (a 5),val:=Value.ref u}::x⟩ n,⟨(h).toList⟩⟩),(b 0,tu [.ref m,.ref u] 0)]) 0:=by
 kernel_rfl
theorem Aal(w:Aa)(y:Nat):
  AG w 9 (tw11413755802565810072 ()) ([]) [] [] [] 910 9100 [0,1]
   (λa b c=>.done (.ret (.ref (a 1)))) (λa b c=>[(a 0,tu [.str ⟨⟨Pk⟩⟩ (b 0)] 0),J0 a (a 0)]) 1:=by
 kernel_rfl
theorem Aam(w:Aa)(v:Value):
  JZ w 9 v (tw11413755802565810072 ()) ([]) [] [] [] 910 9100 [0,1]
   (λa b c=>.done (.ret (.ref (a 1)))) (λa b c=>[(a 0,tu [.str ⟨⟨Pk⟩⟩ (b 0)] 0),J0 a (a 0)]) 1:=by
 kernel_rfl
noncomputable abbrev J1(a:Nat):=CO a .none .none
theorem Aan(w:Aa)(e a b t:Nat)(c:Value):
  JZ w 11 (.ref a) (tw13438513467388647416 e a) ([(a,CO t c .none),(e,J1 b)]) [1,2,2] [] [] 910 9100 [0,1]
   (λd g h=>.done .next) (λd g h=>[(a,fi Kj [.ref t,c,.none,.none,DG,.none]),(e,fi Kj [.ref b,.none,.ref a,.none,DG,.none])]) 0:=by
 kernel_rfl
section
structure LV where
 nw:Nat
 t0:Nat
 tn:Nat
 t1:Nat
 pl:Nat
 cd:Nat
 td:Nat
 v:Nat
 t5:Nat
 tr:Nat
 du:Nat
 y:Nat→Nat
section
variable (P:Aj)(sl:Array (Option Value))(l:LV)(x:List DictEntry)(n:Nat)(Z:Nat→Nat)(v0 v1 v2 v3:Value)
noncomputable abbrev Cg:Obj:=Nh sl ([Aq P Og (l.y 0) (.int l.nw l.t0),Aq P Of (l.y 1) (.int l.tn l.t1),Aq P Od (l.y 2) (.ref l.pl),Aq P Hz (l.y 3) (.ref l.cd),Aq P Oe (l.y 4) (.ref l.td),Aq P Fr (l.y 5) (.int l.v l.t5),Aq P LY (l.y 6) (.ref l.tr),Aq P LW (l.y 7) (.ref l.du)]++x) n
noncomputable def lwX:Nat→List DictEntry
 |0=>[]
 |1=>[Aq P HA (Z 0) v0,Aq P Gh (Z 1) v1,Aq P DE (Z 2) v2]
 |_=>[Aq P HA (Z 0) v0,Aq P Gh (Z 1) v1,Aq P DE (Z 2) v2,Aq P yT (Z 3) v3]
noncomputable def lwN:Nat→Nat
 |0=>8
 |1=>11
 |_=>12
noncomputable def CB(k:Nat):Obj:=Cg P sl l (lwX P Z v0 v1 v2 v3 k) (lwN k)
end
section
variable (w:Aa)(f cs cg:Nat)(l:LV)(sl:Array (Option Value))
theorem Aao:AG w 8 (tw4508568973332873282 f cs cg) [(f,Cg w.2 sl l [] 8)] [1] [] [] 440 2000 [0]
   (λc d e=>.done (.ret (.ref l.td))) (λc d e=>[(f,Cg w.2 sl l [] 8)]) 0:=by
 kernel_rfl
theorem Aap(n:Nat)(D:List TE):AG w 36 (tw4550174764539607127 f cs cg) [(f,Cg w.2 sl l [] 8),(l.du,li (AL D) n)] (dg 6 579548141567) (AB [(1,[2,1,3,4])] [λc h i=>Sb w.2 f (tk c 0) (tk c 1) (tk c 2) l.du n D]) [] 440 2000 [0,1,3]
   (λd e g=>.done (.ret (.ref (d 1)))) (λd e g=>[(f,Cg w.2 sl l [] 8),(l.du,li (AL D) n),(d 1,li (DS D) D.length)]) 0:=by
 kernel_rfl
theorem Aaq(d:List Value)(n:Nat):AG w 18 (tw1007703403832356925 f cs cg) [(f,Cg w.2 sl l [] 8),(l.du,li d n)] [1,2,2,1,2,3] [] [] 440 2000 [0,1,2]
   (λc e g=>.done (.ret (.ref (c 0)))) (λc e g=>[(f,Cg w.2 sl l [] 8),(l.du,li d n),(c 0,liO l.du 0)]) 0:=by
 kernel_rfl
theorem Aar:AG w 8 (tw11209589962911415932 f cs cg) [] [0] [] [] 440 2000 [] (λc d e=>.done (.ret (.ref 302))) (λc d e=>[]) 0:=by
 kernel_rfl
theorem Aas(gt:Nat):AG w 8 (tw17999581269091546004 f cs cg) [(cg,As gt)] [1] [] [] 440 2000 [0] (λc d e=>.done (.ret (.ref gt))) (λc d e=>[(cg,As gt)]) 0:=by
 kernel_rfl
theorem Aat(x:List DictEntry)(n:Nat):AG w 8 (tw17697714968690218824 f cs cg) [(f,Cg w.2 sl l x n)] [1] [] [] 440 2000 [0] (λc d e=>.done (.ret (.ref l.cd))) (λc d e=>[(f,Cg w.2 sl l x n)]) 0:=by
 kernel_rfl
theorem Aau(x:List DictEntry)(n:Nat)(xs e g h:List Value):AG w 35 (tw14837520834594988895 f cs cg) [(f,Cg w.2 sl l x n),(l.pl,li xs 16)] [1,1,2,2,2,1,1,2,2,2,4,6,4] (AB [(0,[1,2]),(0,[1,4]),(0,[3,5])] [λc i j=>EW l.pl (tk c 0) xs 16 (.int l.tn l.t1) .none .none e,λc i j=>EW l.pl (tk c 2) xs 16 .none (.int l.tn l.t1) .none g,λc i j=>Nb (tk c 1) (tk c 3) e g h 0 0]) [] 440 2000 [0,1,6]
   (λd k m=>.done (.ret (.ref (d 4)))) (λd k m=>[(f,Cg w.2 sl l x n),(l.pl,li xs 16),(d 4,li h 0)]) 0:=by
 kernel_rfl
variable (Z:Nat→Nat)(v0 v1 v2 v3:Value)(b:Bool)
theorem Aav(x c e g fj:Nat)(s:Str):AG w 83 (tw5274324696313484632 f cs cg x) [(f,CB w.2 sl l Z v0 v1 v2 v3 (cond b 2 0)),(x,tu [.int c e,.str s g,.ref fj] 0)] (dg 6 0x4ab2d31b909794e16e4ddd5ded3af) [] [] 440 2000 [0,1]
   (λh d j=>.done .next) (λh d j=>[(f,CB w.2 sl l (cond b Z λi=>[d 0,d 1,d 2].getD i 0) (.int c e) (.str s g) (.ref fj) v3 (Gl b)),(x,tu [.int c e,.str s g,.ref fj] 0)]) 3:=by
 cases b <;> kernel_rfl
theorem Aaw(x:Nat):AG w 13 (tw15463470008193624773 f cs cg x) [(f,CB w.2 sl l Z v0 v1 v2 v3 (Gl b))] [0,1,1] [] [] 440 2000 [0]
   (λd c e=>.done .next) (λd c e=>[(f,CB w.2 sl l (cond b Z λi=>[Z 0,Z 1,Z 2,c 0].getD i 0) v0 v1 v2 (.ref x) 2)]) 1:=by
 cases b <;> kernel_rfl
theorem Aax(c:Nat)(ch:Nat→Nat):AG w 14 (tw7115438052792442022 f cs cg) [(f,CB w.2 sl l Z v0 (AH ch c) v2 v3 (Gl b))] [0,1,0] (AB [(0,[])] [λh j k=>UY c ch]) [] 440 2000 [0,1]
   (λd g e=>.done (.ret (.ref (d 0)))) (λd g e=>[(f,CB w.2 sl l Z v0 (AH ch c) v2 v3 (Gl b)),(d 0,li (BD (Ec ch 8) λi=>Ao ((List.range 11).map e) (3+i)) (Ec ch 8).length)]) 0:=by
 cases b <;> kernel_rfl
theorem Aay:AG w 8 (tw1689745043323611982 f cs cg) [(f,CB w.2 sl l Z v0 v1 v2 v3 2)] [1] [] [] 440 2000 [0] (λc d e=>.done (.ret v3)) (λc d e=>[(f,CB w.2 sl l Z v0 v1 v2 v3 2)]) 0:=by
 kernel_rfl
variable (gt gn fj fk:Nat)(xs:List Value)(a:List Int)
theorem Aaz:AG w 40 (tw9533652250162126650 f cs cg) [(f,CB w.2 sl l Z v0 v1 (.ref fj) v3 2),(cg,As gt),(gt,li xs gn),(fj,li [] fk)] (dg 11 428004085812709) (AB [(1,[1,2,4,3,5,6]),(1,[1,2,7,3,8,9])] [λc e g=>R8 w.2 0 f cg (tk c 0) (tk c 1) (tk c 2) gt gn fj fk xs a,λc e g=>R8 w.2 1 f cg (tk c 3) (tk c 4) (tk c 5) gt gn fj fk xs a]) [] 440 2000 [0,1,2,3,5,8,10]
   (λd h i=>.done (.ret (.ref (d 6)))) (λd h i=>[(f,CB w.2 sl l Z v0 v1 (.ref fj) v3 2),(cg,As gt),(gt,li xs gn),(fj,li [] fk),(d 1,li [] 0),(d 4,li [] 0),(d 6,Da (d 1) (d 4))]) 0:=by
 kernel_rfl
theorem Aa0(c:List Value):AG w 48 (tw9533652250162126650 f cs cg) [(f,CB w.2 sl l Z v0 v1 (.ref fj) v3 2),(cg,As gt),(gt,li xs gn),(fj,li c fk)] (dg 11 0x56f6c0dbf65f7179) (AB [(1,[1,2,4,3,5,6]),(1,[1,2,7,3,8,9])] [λd g h=>R9 w.2 0 f cg (tk d 0) (tk d 1) (tk d 2) gt gn fj fk xs c a,λd g h=>R9 w.2 1 f cg (tk d 3) (tk d 4) (tk d 5) gt gn fj fk xs c a]) [] 440 2000 [0,1,2,3,5,8,10]
   (λe i j=>.done (.ret (.ref (e 6)))) (λe i j=>[(f,CB w.2 sl l Z v0 v1 (.ref fj) v3 2),(cg,As gt),(gt,li xs gn),(fj,li c fk),(e 1,li (c.filter (pk 0 a)) (c.filter (pk 0 a)).length),(e 4,li (c.filter (pk 1 a)) (c.filter (pk 1 a)).length),(e 6,Da (e 1) (e 4))]) 0:=by
 kernel_rfl
end
end
theorem Cp{w:Aa}{A:Al}{L:Ae}{H:List Nat}{E:List (Nat×(List Nat→List Nat→List Obj→Ak))}{W:List Wd}{d u n N:Nat}{o:List Nat}{en:Aw→Aw→AU→Dw}{r:Aw→Aw→AU→Ae}{v:Sem AE}{T:Type}{t:Sem T}
  (k:AG w n v L H E W d u o en r N) (g:T→Flow) (B:(t>>=λx=>pure (.done (g x)))=v) (C:A.handled=none) (D:A.depth≤d) (G:A.units≤u) (X: ∀q∈E,∀a b c,Av w (q.2 a b c)) (Y: ∀q∈W,∀a b c,(q.2 a b c).1=(q.2 a b c).2)
  {s:Ab} {l:Ae} (F:Ae) (y:(L++F).Perm l) (S:An (kt w) s l) {Q:T→Ab→Prop} {z:Value→Ab→Prop}
  (fi: ∀e h i j,Ag (kt w) s j l (r e h i++F)→Jb g Q z (en e h i) j) (m:BS o=true:=by rfl):wpAny (model pw w) A t Q z s:=
 Xc k g B C D G X Y (S.part F y) (λe h i j I=>fi e h i j (Ag.part F S y I)) m
theorem Hk{w:Aa}{A:Al}{L:Ae}{H:List Nat}{E:List (Nat×(List Nat→List Nat→List Obj→Ak))}{W:List Wd}{d u n N:Nat}{m:List Nat}{v:Aw→Aw→AU→Value}{o:Aw→Aw→AU→Ae}{r:Sem AE}{t:Sem Value}
  (k:AG w n r L H E W d u m (λa b c=>.done (.ret (v a b c))) o N) (y:(t>>=λx=>pure (.done (.ret x)))=r) (z:A.handled=none) (B:A.depth≤d) (C:A.units≤u) (X: ∀q∈E,∀e g h,Av w (q.2 e g h)) (Y: ∀q∈W,∀e g h,(q.2 e g h).1=(q.2 e g h).2)
  {s:Ab} {j:Ae} (F:Ae) (D:(L++F).Perm j) (S:An (kt w) s j) {Q:Value→Ab→Prop} {G:Value→Ab→Prop}
  (fi: ∀a b c i,Ag (kt w) s i j (o a b c++F)→Q (v a b c) i) (l:BS m=true:=by rfl):wpAny (model pw w) A t Q G s:=
 Cp k Flow.ret y z B C X Y F D S (λa b c i I x J=>CZ J▸fi a b c i I) l
theorem Pm{w:Aa}{A:Al}{v:Value}{L:Ae}{H:List Nat}{E:List (Nat×(List Nat→List Nat→List Obj→Ak))}{W:List Wd}{d u n N:Nat}{o:List Nat}{en:Aw→Aw→AU→Dw}{r:Aw→Aw→AU→Ae}{y:Sem AE}{T:Type}{t:Sem T}
  (k:JZ w n v y L H E W d u o en r N) (g:T→Flow) (C:(t>>=λx=>pure (.done (g x)))=y) (D:A.handled=none) (G:A.depth≤d) (I:A.units<u) (X: ∀q∈E,∀a b c,Av w (q.2 a b c)) (Y: ∀q∈W,∀a b c,(q.2 a b c).1=(q.2 a b c).2)
  {s:Ab} {l:Ae} (F:Ae) (z:(L++F).Perm l) (S:An (kt w) s l) {Q:T→Ab→Prop} {B:Value→Ab→Prop}
  (fi: ∀e h i j,Ag (kt w) s j l (r e h i++F)→Jb g Q B (en e h i) j) (m:BS o=true:=by rfl):wpAny (model pw w) (A.mark (some v)) t Q B s:=
 Xd k g C D G I X Y (S.part F z) (λe h i j J=>fi e h i j (Ag.part F S z J)) m
theorem Xh{w:Aa}{A:Al}{s:Ab}{a n i t:Nat}{c:List Value}{R:Result→Ab→Prop}(k:s.heap.get? a=some (li c n))(l:c.length≤i)(u:i<1000)
  (h:wpAny (model pw w) A.in1 (raiseErrorWords "IndexError" "list index out of range":Sem Unit) (λ_ _=>False) (λe v=>R (.error e) v) s):
  codeAny (model pw w) A (.call (.builtin Jz) ⟨[.ref a,.int i t],[]⟩) R s:=by
 rw[BX]at k;rw[P5];have d:(0:Int)≤(i:Int):=Int.natCast_nonneg i;have m:(i:Int)<1000:=by (first|lia|omega)
 have g:(i:Int)<2^63:=Int.lt_trans m (by decide);have b:(⟨c⟩:Array Value)[(i:Int).toNat]? =none:=by simpa using l
 clear m l u;revert d g b;generalize (i:Int)=z;intro d g b;refine DV slot_list_getitem.plain entry_list_getitem (slot_list_getitem.check _ _ _ _ _ _ _ _ ⟨_,k,rfl⟩ (args_list_getitem _ _) ?_);unfold Builtin.«list.__getitem__»;dsimp only;refine Af (GI (show selfAndOne "list.__getitem__" ⟨[.ref a,.int z t],[]⟩=pure (.ref a,.int z t)from rfl) ?_);dsimp only;refine Af (wpAny_listSubscript_int (fitsIndex_of d g) ?_);clear g;obtain⟨j,rfl⟩:=Int.eq_ofNat_of_zero_le d;have o:(⟨c⟩:Array Value)[j]? =none:=b;dsimp only;refine Af ?_;refine (?_:wpAny _ _ (seqItemAt a j>>=λr=>pure (r.map (j,·))) _ _ s);refine Af (wpAny_seqItemAt k rfl (Ap ?_));rw[o];exact Af (FI (Af (CE h (λ_ _ x=>x.elim) λ_ _ x=>x)))
theorem Aa1{A:Al}{v:Value}(h:A.handled=some v):A=({A with handled:=none}:Al).mark (some v):=by
 obtain⟨a,d,f,g,u⟩:=A;dsimp only at h;subst h;rfl
theorem Nk{w:Aa}{a n i t:Nat}{b:List Value}(d:b.length≤i)(l:i<1000):Av w (Pl none .none [] a b n i t):=by
 intro A e g c s S _;have S:An (kt w) s [(a,li b n)]:=S;have e:A.depth≤900:=e;have g:A.units≤9000:=g;have c:A.handled=none:=c;refine Xh (S.mem (a,li b n) (by (first|((repeat(first|exact .head _|apply List.mem_cons_of_mem));done)|simp))) d l ?_;refine (?_:wpAny _ _ (((mkText "list index out of range">>=λm=>newExc (.type "IndexError") [m]))>>=λv=>raiseNew v) _ _ s);have h:An (kt w) s ([]++[(a,li b n)]):=S;refine Af (Xc (A:=A.in1) (Aal w 0) (λv=>Flow.ret v) (Ai te11413755802565810072 ()) c (by refine (?_:A.depth≤910);(first|lia|omega)) (by refine (?_:A.units+1≤9100);(first|lia|omega)) AR Ar h.left λj m o s1 k x d=> ?_);cases d;refine wpAny_raiseNew_none c ?_;exact⟨[j 0,j 1],[],[Ac (m 0)],rfl,rfl,rfl,rfl,(k.frame h).permR EF,k.toks⟩
theorem Aa2{w:Aa}{a n i t c g:Nat}{j:Value}{d:List Value}(l:d.length≤i)(G:i<1000):Av w (Pl (some (.ref c)) (.ref c) [(c,CO g j .none)] a d n i t):=by
 intro A y z C s S _;have S:An (kt w) s [(a,li d n),(c,CO g j .none)]:=S;have y:A.depth≤900:=y;have z:A.units≤9000:=z;have C:A.handled=some (.ref c):=C;refine Xh (S.mem (a,li d n) (by (first|((repeat(first|exact .head _|apply List.mem_cons_of_mem));done)|simp))) l G ?_;refine (?_:wpAny _ _ (((mkText "list index out of range">>=λm=>newExc (.type "IndexError") [m]))>>=λv=>raiseNew v) _ _ s);have D:=Aa1 C;generalize k:({A with handled:=none}:Al)=B at D;have m:B.handled=none:=by rw[←k]
 have K:B.depth≤900:=by rw[←k];exact y
 have L:B.units≤9000:=by rw[←k];exact z
 rw[D,Around.in1_mark];have E:An (kt w) s ([]++[(a,li d n),(c,CO g j .none)]):=S;refine Af (Xd (A:=B.in1) (Aam w (.ref c)) (λv=>Flow.ret v) (Ai te11413755802565810072 ()) m (by refine (?_:B.depth≤910);(first|lia|omega)) (by refine (?_:B.units+1<9100);(first|lia|omega)) AR Ar E.left λb H P s1 I x l=> ?_);cases l;have o:=I.frame E;have J:c≠b 1:=by
  have h:=o.sat.nd;exact λe=>(List.nodup_cons.mp (List.nodup_cons.mp h).2).1 (by simp[e])
 have r:=o.permR (L'':=[(c,CO g j .none),(b 1,J1 (b 0)),(a,li d n),(b 0,_)]) (AM [] [_,_,_,_] [1,3,5,7] [7,3,5,1]);unfold raiseNew;refine Af (wpAny_handled ?_);refine (?_:wpAny _ _ (if(Value.ref c != Value.ref (b 1))=true then _ else _) _ _ _);rw[AS (by simp[J])];refine (?_:wpAny _ _ (holding [Value.ref (b 1)] (W9 (b 1) c)>>=λ_=>updateField (b 1) 2 (.ref c)>>=λ_=>throw (.ref (b 1))) _ _ _);rw[←bind_assoc];refine Af (Pm (A:=B.in1) (Aan w (b 1) c (b 0) g j) (λ_=>Flow.next) (Ai (Ai te13438513467388647416 (b 1)) c) m (by refine (?_:B.depth≤910);(first|lia|omega)) (by refine (?_:B.units+1<9100);(first|lia|omega)) AR Ar [(a,li d n),(b 0,_)] (.refl _) r.sat λM N O s2 F x l=> ?_);have u:=(r.trans F).permR (L'':=[(a,li d n),(c,CO g j .none),(b 0,_),(b 1,CO (b 0) .none (.ref c))]) (AM [] [_,_,_,_] [3,7,1,5] [1,3,5,7]);exact wpAny_throw ⟨[b 0,b 1],[],[Ac (H 0)],rfl,rfl,rfl,rfl,u,u.toks⟩
section
theorem Nl{w:Aa}{A:Al}{s:Ab}{c:Expr}{g:List Stmt}{a:Env}{i:Pos}{Q:Flow→Ab→Prop}{E:Value→Ab→Prop}(h:wpAny (model pw w) A (isTrue c a (eval c a)) (λb s2=>b=false∧Q .next s2) (notedBy (model pw w) A a (cameBackBy (model pw w) A a E)) s):wpAny (model pw w) A (exec (.While c g [] i) a) Q E s:=by
 refine wpAny_While (codeAny_whileLoop (λ_ j=>j=s) (λn s1 k=> ?_) 0 rfl);subst k;refine CE h (λb s2 d=> ?_) (λe s2 d=>d);obtain⟨rfl,d⟩:=d;exact Ap d
theorem Gz{a b c d e g h i:Addr×Obj}:[a,b,c,d,e,g,h,i].Perm [i,a,b,c,d,e,g,h]:=AM [] [a,b,c,d,e,g,h,i] [1,3,5,7,9,11,13,15] [15,1,3,5,7,9,11,13]
theorem Aa3{a b c d e g h i:Addr×Obj}:[a,b,c,d,e,h,i,g].Perm [i,a,b,c,d,e,g,h]:=AM [] [a,b,c,d,e,g,h,i] [1,3,5,7,9,13,15,11] [15,1,3,5,7,9,11,13]
theorem Pn{b c d e g h a:Addr×Obj}:a∈[b,c,d,e,g,h,a]:=by (first|((repeat(first|exact .head _|apply List.mem_cons_of_mem));done)|simp)
theorem Nm{b c d e g h a i:Addr×Obj}:a∈[b,c,d,e,g,h,a,i]:=by (first|((repeat(first|exact .head _|apply List.mem_cons_of_mem));done)|simp)
theorem Nn{b c d e g h i a:Addr×Obj}:a∈[b,c,d,e,g,h,i,a]:=by (first|((repeat(first|exact .head _|apply List.mem_cons_of_mem));done)|simp)
noncomputable def vl(X:List (Nat×Nat)):List Value:=X.map λp=>.int p.1 p.2
theorem F0{X:List (Nat×Nat)}:(vl X).length=X.length:=by simp[vl]
theorem Xi{X:List (Nat×Nat)}{i:Nat}:(vl X).drop i=vl (X.drop i):=by simp[vl]
theorem Xj{X Y:List (Nat×Nat)}:vl X++vl Y=vl (X++Y):=by simp[vl]
noncomputable abbrev AK(a:Nat)(b:List (Nat×Nat))(c:Nat):=(a,li (vl b) c)
noncomputable abbrev A7(w:Aa)(f g1 g2 m u G:Nat)(κ:Nat→Nat)(X Y:List (Nat×Nat))(n1 n2:Nat)(o:Obj)(b a:Array BN)(i c j d:Nat)(x:List DictEntry)(e:Nat)(g h:List (Nat×Nat))(k l:Nat):Ae:=
 [(f,CP w.2 b κ g1 g2 i c j d m u x e),AK g1 X n1,AK g2 Y n2,AK m g k,AK u h l,(G,wS o a)]
section
variable {w:Aa}{A:Al}{f g1 g2 m u G:Nat}{κ:Nat→Nat}{X Y:List (Nat×Nat)}{n1 n2:Nat}{o:Obj}
noncomputable abbrev Ii(w:Aa)(A:Al)(f:Nat)(Q:Flow→Ab→Prop)(E:Value→Ab→Prop):Value→Ab→Prop:=λe a=>wpAny (model pw w) A (noteFrame e (Bs f)) (λ_ b=>wpAny (model pw w) A (setFlight e none) (λ_ c=>wpAny (model pw w) A (handleBy e (Bs f) (LE Es)) Q E c) E b) E a
theorem Xk(M:A.handled=none)(N:A.depth≤480)(O:A.units≤2600){s:Ab}{g a:Array BN}{i k j l n r v:Nat}{x:List DictEntry}{c d:List (Nat×Nat)}{e t y:Nat}{z F:Value}{B:List Value}
  (S:An (kt w) s (A7 w f g1 g2 m u G κ X Y n1 n2 o g a i k j l x n c d r v++[(e,Fj t y z),(y,Di f F B)])) (P:X.length≤100∧Y.length≤100∧c.length≤100∧d.length≤100) {Q:Flow→Ab→Prop} {E:Value→Ab→Prop}
  (h: ∀H I J,Ag (kt w) s H (A7 w f g1 g2 m u G κ X Y n1 n2 o g a i k j l x n c d r v++[(e,Fj t y z),(y,Di f F B)]) (A7 w f g1 g2 m u G κ X Y n1 n2 o g a i k j l x n (c++X.drop i) (d++Y.drop j) I J)→Q .brk H):
  wpAny (model pw w) A (setFlight (.ref e) none) (λ_ C=>wpAny (model pw w) A (handleBy (.ref e) (Bs f) (LE Es)) Q E C) E s:=by
 refine Pj none (S.perm Gz) Pn λs1 b=> ?_;have b:=b.permL Gz.symm;refine Cp (Aaj w f g1 g2 i k j l m u κ g x n n1 n2 r v e t y z (vl X) (vl Y) (vl c) (vl d) B (vl (X.drop i)) (vl (Y.drop j))) id (Ai (Ai te10982671374861550713 f) e) M N O (Az _ _ (Ah (λD _ _=>Ry (.int _ _) .none .none (by (first|((repeat(first|exact .head _|apply List.mem_cons_of_mem));done)|simp)) (by rw[F0];(first|lia|omega)) (by rw[slicePick_from',Xi])) (Ah (λD _ _=>Xe (by simp only[F0,List.length_drop];(first|lia|omega))) (Ah (λD _ _=>Ry (.int _ _) .none .none (by (first|((repeat(first|exact .head _|apply List.mem_cons_of_mem));done)|simp)) (by rw[F0];(first|lia|omega)) (by rw[slicePick_from',Xi])) (Ah (λD _ _=>Xe (by simp only[F0,List.length_drop];(first|lia|omega))) Ay))))) Ar [(G,wS o a)] Aa3 b.sat λR T U s2 K=>Fi ?_;have L:Ag (kt w) s s2 _ ([(f,CP w.2 g κ g1 g2 i k j l m u x n),AK g1 X n1,AK g2 Y n2,(m,li (vl c++vl (X.drop i)) (if(vl (X.drop i)).isEmpty then r else r+1)),(u,li (vl d++vl (Y.drop j)) (if(vl (Y.drop j)).isEmpty then v else v+1))]++[(G,wS o a)]):=b.trans K;rw[Xj,Xj]at L;exact h s2 _ _ L
theorem Aa4(F:A.handled=none)(H:A.depth≤480)(I:A.units≤2600){s:Ab}{e a:Array BN}{i g j k l r v:Nat}{x:List DictEntry}{b c:List (Nat×Nat)}{n t d:Nat}{y:Value}{z:List Value}
  (S:An (kt w) s (A7 w f g1 g2 m u G κ X Y n1 n2 o e a i g j k x l b c r v++[(n,Fj t d y),(d,Di f (rawInt f) z)])) (J:X.length≤100∧Y.length≤100∧b.length≤100∧c.length≤100) {Q:Flow→Ab→Prop} {E:Value→Ab→Prop}
  (h: ∀B C D,Ag (kt w) s B (A7 w f g1 g2 m u G κ X Y n1 n2 o e a i g j k x l b c r v++[(n,Fj t d y),(d,Di f (rawInt f) z)]) (A7 w f g1 g2 m u G κ X Y n1 n2 o e a i g j k x l (b++X.drop i) (c++Y.drop j) C D)→Q .brk B):
  Ii w A f Q E (.ref n) s:=
 Ng rfl S Nm Nn (Xk F H I S J h)
end
end
section
noncomputable def Ch:Nat→List (Nat×Nat)→List (Nat×Nat)→List (Nat×Nat)×List (Nat×Nat)
 |0,a,b=>(a,b)
 |_+1,[],b=>([],b)
 |_+1,x::a,[]=>(x::a,[])
 |n+1,x::a,y::b=>if x.1<y.1 then(x::(Ch n a (y::b)).1,(Ch n a (y::b)).2)else if y.1<x.1 then((Ch n (x::a) b).1,y::(Ch n (x::a) b).2)else Ch n a b
noncomputable def Dr(X Y M U:List (Nat×Nat))(i j:Nat)(ms us:List (Nat×Nat)):Prop:= ∃n,(X.drop i).length+(Y.drop j).length≤n∧M=ms++(Ch n (X.drop i) (Y.drop j)).1∧U=us++(Ch n (X.drop i) (Y.drop j)).2
section
variable {X Y M U ms us:List (Nat×Nat)}{i j p q tp tq:Nat}
theorem Dr.fin(g:Dr X Y M U i j ms us)(h:X.length≤i∨Y.length≤j):M=ms++X.drop i∧U=us++Y.drop j:=by
 obtain⟨n,r,b,d⟩:=g;cases n with
 |zero=>exact⟨b,d⟩
 |succ n=>
  rcases h with h|h
  ·rw[List.drop_eq_nil_of_le h]at b d⊢
   exact⟨b,d⟩
  ·rw[List.drop_eq_nil_of_le h]at b d⊢
   cases k:X.drop i with
   |nil=>rw[k]at b d;exact⟨b,d⟩
   |cons a l=>rw[k]at b d;exact⟨b,d⟩
theorem F6{X:List (Nat×Nat)}{i p tp:Nat}(h:X[i]? =some (p,tp)):X.drop i=(p,tp)::X.drop (i+1):=by
 obtain⟨a,e⟩:=List.getElem?_eq_some_iff.mp h;rw[Ny a,e]
theorem Dr.lt(g:Dr X Y M U i j ms us)(l:X[i]? =some (p,tp))(a:Y[j]? =some (q,tq))(h:p<q):Dr X Y M U (i+1) j (ms++[(p,tp)]) us:=by
 obtain⟨n,b,d,k⟩:=g;rw[F6 l,F6 a]at b d k;cases n with
 |zero=>simp at b
 |succ n=>
  rw[Ch,AS h]at d k;refine⟨n,?_,?_,?_⟩
  ·rw[F6 a];simp only[GG]at b⊢;(first|lia|omega)
  ·rw[F6 a,Dt];exact d
  ·rw[F6 a];exact k
theorem Dr.gt(g:Dr X Y M U i j ms us)(a:X[i]? =some (p,tp))(l:Y[j]? =some (q,tq))(h:q<p):Dr X Y M U i (j+1) ms (us++[(q,tq)]):=by
 obtain⟨n,b,d,k⟩:=g;rw[F6 a,F6 l]at b d k;cases n with
 |zero=>simp at b
 |succ n=>
  rw[Ch,AI (show¬p<q by (first|lia|omega)),AS h]at d k;refine⟨n,?_,?_,?_⟩
  ·rw[F6 a];simp only[GG]at b⊢;(first|lia|omega)
  ·rw[F6 a];exact d
  ·rw[F6 a,Dt];exact k
theorem Dr.eq(g:Dr X Y M U i j ms us)(k:X[i]? =some (p,tp))(l:Y[j]? =some (q,tq))(h:p=q):Dr X Y M U (i+1) (j+1) ms us:=by
 obtain⟨n,a,b,d⟩:=g;rw[F6 k,F6 l]at a b d;cases n with
 |zero=>simp at a
 |succ n=>
  rw[Ch,AI (show¬p<q by (first|lia|omega)),AI (show¬q<p by (first|lia|omega))]at b d;refine⟨n,?_,b,d⟩;simp only[GG]at a;(first|lia|omega)
end
theorem No{X:List (Nat×Nat)}(b:X.Pairwise (·.1< ·.1)){i p tp r d:Nat}(g:X[i]? =some (p,tp))(k:X[i+1]? =some (r,d)):r≠p:=by
 obtain⟨l,e⟩:=List.getElem?_eq_some_iff.mp g;obtain⟨a,n⟩:=List.getElem?_eq_some_iff.mp k;have:=List.pairwise_iff_getElem.mp b i (i+1) l a (by (first|lia|omega));rw[e,n]at this;exact λh=>by simp at this;(first|lia|omega)
theorem Ij{X:List (Nat×Nat)}{i p tp:Nat}(h:X[i]? =some (p,tp)):(vl X)[i]? =some (.int p tp):=by simp[vl,h]
noncomputable abbrev Xl:ExceptHandler:=(LE Es).headD (.ExceptHandler none none [] ⟨0,0,0,0⟩)
theorem Xm:Es= .Try ([AF (AO Es) 0,AF (AO Es) 1]++[Fh]) [Xl] [] [] (sP Es):=by kernel_rfl
theorem Xn:[Xl]=LE Es:=by kernel_rfl
theorem Aa5:Fh= .If (sT Fh) ([AF (AO Fh) 0,AF (AO Fh) 1]++[I9]) [Et] (sP Fh):=by kernel_rfl
theorem Aa6:Et= .If (sT Et) ([AF (AO Et) 0,AF (AO Et) 1]++[Ja]) [AF (Dv Et) 0,Hi] (sP Et):=by kernel_rfl
theorem Aa7:Hi= .Try [JY] [] [] [AF (LD Hi) 0,Ig] (sP Hi):=by kernel_rfl
theorem Aa8:I8= .While (sT I8) [Es] [] (sP I8):=by kernel_rfl
theorem Aa9:I9= .While (sT I9) (AO I9) [] (sP I9):=by kernel_rfl
theorem Aba:Ja= .While (sT Ja) (AO Ja) [] (sP Ja):=by kernel_rfl
theorem Abb:JY= .While (sT JY) (AO JY) [] (sP JY):=by kernel_rfl
theorem Xo:Ig= .While (sT Ig) (AO Ig) [] (sP Ig):=by kernel_rfl
theorem Abc:Sc=[Gy 0,Gy 1,Gy 2,Gy 3]++(I8::[Gy 5]):=by kernel_rfl
theorem Abd(f:Nat):(Bs f).scope.kind≠ .module:=by
 have:(Bs f).scope.kind= .function:=by kernel_rfl
 rw[this];exact λh=>nomatch h
section
variable {w:Aa}{A:Al}{f g1 g2 m u G:Nat}{κ:Nat→Nat}{X Y M U:List (Nat×Nat)}{n1 n2:Nat}{o:Obj}{env2:Env}
inductive GA (w:Aa) (f g1 g2 m u G:Nat) (κ:Nat→Nat) (X Y M U:List (Nat×Nat)) (n1 n2:Nat) (o:Obj) (k:Nat) (s:Ab) (Λ:Ae) (s':Ab):Prop
 |mk (sl sl2:Array (Option Value)) (i ti j tj y8 y9:Nat) (v8 v9:Value) (ms us:List (Nat×Nat)) (nm nu:Nat) (st:Ag (kt w) s s' Λ (A7 w f g1 g2 m u G κ X Y n1 n2 o sl sl2 i ti j tj [Ad w CU y8 v8,Ad w Cq y9 v9] 8 ms us nm nu)) (hi:i<X.length) (hj:j<Y.length) (hk:k<i+j) (hm:ms.length≤i) (hu:us.length≤j) (g:Dr X Y M U i j ms us)
inductive F7 (w:Aa) (f g1 g2 m u G:Nat) (κ:Nat→Nat) (X Y M U:List (Nat×Nat)) (n1 n2:Nat) (o:Obj) (s:Ab) (Λ:Ae) (s':Ab):Prop
 |mk (sl sl2:Array (Option Value)) (i ti j tj:Nat) (x:List DictEntry) (nx nm nu:Nat) (st:Ag (kt w) s s' Λ (A7 w f g1 g2 m u G κ X Y n1 n2 o sl sl2 i ti j tj x nx M U nm nu))
structure GB(A:Al)(f G:Nat)(env2:Env)(o:Obj)(X Y:List (Nat×Nat)):Prop where
 hA:A.handled=none
 dA:A.depth≤480
 uA:A.units<2600
 hfr:A.frames=some [Bs f,env2]
 hk2:env2.scope.kind≠ .module
 hg:env2.frame=some G
 ho:o.isFreed=false
 lX:X.length≤40
 lY:Y.length≤40
 sX:X.Pairwise (·.1< ·.1)
 sY:Y.Pairwise (·.1< ·.1)
noncomputable abbrev DT(w:Aa)(f g1 g2 m u G:Nat)(κ:Nat→Nat)(X Y:List (Nat×Nat))(n1 n2:Nat)(o:Obj)(sl sl2:Array BN)(i ti j tj:Nat)(x:List DictEntry)(nx:Nat)(ms us:List (Nat×Nat))(nm nu e t tb:Nat)(c fl:Value)(pl:List Value):Ae:=
 A7 w f g1 g2 m u G κ X Y n1 n2 o sl sl2 i ti j tj x nx ms us nm nu++[(e,Fj t tb c),(tb,Di f fl pl)]
section
variable {B:Al}{s:Ab}{sl sl2:Array (Option Value)}{i ti j tj nx nm nu e t tb:Nat}{x:List DictEntry}{ms us:List (Nat×Nat)}{c fl:Value}{pl:List Value}
theorem Xp(d:B.frames=some [Bs f,env2])(g:env2.scope.kind≠ .module)(v:env2.frame=some G)(y:o.isFreed=false){R:Ae}
  (S:An (kt w) s (A7 w f g1 g2 m u G κ X Y n1 n2 o sl sl2 i ti j tj x nx ms us nm nu++((e,CO t .none c)::R))) {k:Unit→Ab→Prop} {z:Value→Ab→Prop}
  (h: ∀l b a tb pl,Ag (kt w) s l (A7 w f g1 g2 m u G κ X Y n1 n2 o sl sl2 i ti j tj x nx ms us nm nu++((e,CO t .none c)::R)) (DT w f g1 g2 m u G κ X Y n1 n2 o b a i ti j tj x nx ms us nm nu e t tb c (rawInt f) pl)→k () l):
  wpAny (model pw w) B (noteFrame (.ref e) (Bs f)) k z s:=by
 have n:=AM [R] [(f,CP w.2 sl κ g1 g2 i ti j tj m u x nx),AK g1 X n1,AK g2 Y n2,AK m ms nm,AK u us nu,(G,wS o sl2),(e,CO t .none c)] [1,3,5,7,9,11,13,2] [1,11,13,3,5,7,9,2];refine tL d (Abd f) g rfl v rfl (Sg y) (S.perm n) λs1 b a tb pl r=>h s1 b a tb pl ?_;have C:=AM [R] [(f,CP w.2 b κ g1 g2 i ti j tj m u x nx),AK g1 X n1,AK g2 Y n2,AK m ms nm,AK u us nu,(G,wS o a),(e,Fj t tb c),(tb,Di f (rawInt f) pl)] [1,11,13,15,3,5,7,9,2] [1,3,5,7,9,11,13,15,2];exact((r.permL n.symm).permR C).subs (EY (DT w f g1 g2 m u G κ X Y n1 n2 o b a i ti j tj x nx ms us nm nu e t tb c (rawInt f) pl) R)
theorem Si(S:An (kt w) s (DT w f g1 g2 m u G κ X Y n1 n2 o sl sl2 i ti j tj x nx ms us nm nu e t tb c fl pl)){a:Value→Ab→Prop}
  (h: ∀b,Ag (kt w) s b (DT w f g1 g2 m u G κ X Y n1 n2 o sl sl2 i ti j tj x nx ms us nm nu e t tb c fl pl) (DT w f g1 g2 m u G κ X Y n1 n2 o sl sl2 i ti j tj x nx ms us nm nu e t tb c (rawInt f) pl)→a (.ref e) b):cameBackBy (model pw w) B (Bs f) a (.ref e) s:=
 tM rfl (S.perm Gz) Pn λs1 d=>h s1 ((d.permL Gz.symm).permR Gz.symm)
theorem Np(g:B.frames=some [Bs f,env2])(k:env2.scope.kind≠ .module)(v:env2.frame=some G)(y:o.isFreed=false){R:Ae}
  (S:An (kt w) s (A7 w f g1 g2 m u G κ X Y n1 n2 o sl sl2 i ti j tj x nx ms us nm nu++((e,CO t .none c)::R))) {l:Value→Ab→Prop}
  (h: ∀n b a tb pl,Ag (kt w) s n (A7 w f g1 g2 m u G κ X Y n1 n2 o sl sl2 i ti j tj x nx ms us nm nu++((e,CO t .none c)::R)) (DT w f g1 g2 m u G κ X Y n1 n2 o b a i ti j tj x nx ms us nm nu e t tb c (rawInt f) pl)→l (.ref e) n):
  notedBy (model pw w) B (Bs f) (cameBackBy (model pw w) B (Bs f) l) (.ref e) s:=
 Xp g k v y S λs1 b a tb pl d=>Si d.sat λs2 r=>h s2 b a tb pl (d.trans r)
theorem Abe(S:An (kt w) s (DT w f g1 g2 m u G κ X Y n1 n2 o sl sl2 i ti j tj x nx ms us nm nu e t tb c fl pl)){T:Type}{k:T→Ab→Prop}{a:String}{b:Value→Ab→Prop}
  (h: ∀d,Ag (kt w) s d (DT w f g1 g2 m u G κ X Y n1 n2 o sl sl2 i ti j tj x nx ms us nm nu e t tb c fl pl) (DT w f g1 g2 m u G κ X Y n1 n2 o sl sl2 i ti j tj x nx ms us nm nu e t tb c (rawInt f) pl)→b (.ref e) d):wpAny (model pw w) B (PySem.passOn a (.ref e) (Bs f)) k b s:=
 tN rfl (S.perm Gz) Pn λs1 g=>h s1 ((g.permL Gz.symm).permR Gz.symm)
theorem Abf(S:An (kt w) s (DT w f g1 g2 m u G κ X Y n1 n2 o sl sl2 i ti j tj x nx ms us nm nu e t tb c fl pl)){a:Unit→Ab→Prop}{g:Value→Ab→Prop}
  (h: ∀b,Ag (kt w) s b (DT w f g1 g2 m u G κ X Y n1 n2 o sl sl2 i ti j tj x nx ms us nm nu e t tb c fl pl) (DT w f g1 g2 m u G κ X Y n1 n2 o sl sl2 i ti j tj x nx ms us nm nu e t tb c .none pl)→a () b):wpAny (model pw w) B (setFlight (.ref e) none) a g s:=
 Pj none (S.perm Gz) Pn λs1 d=>h s1 ((d.permL Gz.symm).permR Gz.symm)
theorem F7.via{s0 s1:Ab}{b a:Ae}(d:Ag (kt w) s s0 b a)(h:F7 w f g1 g2 m u G κ X Y M U n1 n2 o s0 a s1):F7 w f g1 g2 m u G κ X Y M U n1 n2 o s b s1:=by
 obtain⟨sl,sl2,i,ti,j,tj,x,nx,nm,nu,h⟩:=h;exact⟨sl,sl2,i,ti,j,tj,x,nx,nm,nu,d.trans h⟩
theorem GA.via{s0 s1:Ab}{l g:Ae}{k:Nat}(n:Ag (kt w) s s0 l g)(h:GA w f g1 g2 m u G κ X Y M U n1 n2 o k s0 g s1):GA w f g1 g2 m u G κ X Y M U n1 n2 o k s l s1:=by
 obtain⟨sl,sl2,i,ti,j,tj,v,y,z,C,ms,us,nm,nu,h,a,b,c,d,e,r⟩:=h;exact⟨sl,sl2,i,ti,j,tj,v,y,z,C,ms,us,nm,nu,n.trans h,a,b,c,d,e,r⟩
theorem GA.mono{s1:Ab}{g:Ae}{k l:Nat}(h:GA w f g1 g2 m u G κ X Y M U n1 n2 o k s g s1)(n:l≤k):GA w f g1 g2 m u G κ X Y M U n1 n2 o l s g s1:=by
 obtain⟨sl,sl2,i,ti,j,tj,v,y,z,C,ms,us,nm,nu,h,a,b,c,d,e,r⟩:=h;exact⟨sl,sl2,i,ti,j,tj,v,y,z,C,ms,us,nm,nu,h,a,b,CQ n c,d,e,r⟩
theorem Nq(C:GB A f G env2 o X Y)(S:An (kt w) s (DT w f g1 g2 m u G κ X Y n1 n2 o sl sl2 i ti j tj x nx ms us nm nu e t tb c (rawInt f) pl))(n:ms.length≤i)(r:us.length≤j)(v:i≤X.length)(y:j≤Y.length)(g:Dr X Y M U i j ms us)(a:X.length≤i∨Y.length≤j){Q:Flow→Ab→Prop}{E:Value→Ab→Prop}
  (h: ∀b,F7 w f g1 g2 m u G κ X Y M U n1 n2 o s (DT w f g1 g2 m u G κ X Y n1 n2 o sl sl2 i ti j tj x nx ms us nm nu e t tb c (rawInt f) pl) b→Q .brk b):Ii w A f Q E (.ref e) s:=by
 have z:=C.lX;have D:=C.lY;refine Aa4 C.hA C.dA (Bw C.uA) S (by (first|lia|omega)) λs2 k l d=>h s2 ?_;obtain⟨rfl,rfl⟩:=g.fin a;exact⟨_,_,_,_,_,_,_,_,_,_,d⟩
end
theorem Abg(C:GB A f G env2 o X Y){s:Ab}{sl sl2:Array BN}{i ti j tj nx nm nu p tp q tq:Nat}{x:List DictEntry}{ms us:List (Nat×Nat)}
  (S:An (kt w) s (A7 w f g1 g2 m u G κ X Y n1 n2 o sl sl2 i ti j tj x nx ms us nm nu)) (z:(x=[]∧nx=6)∨Kc λa b g k=>x=[Ad w CU a g,Ad w Cq b k]∧nx=8) (l:X[i]? =some (p,tp)) (n:Y[j]? =some (q,tq)) {Q:Flow→Ab→Prop} {E:Value→Ab→Prop}
  (h: ∀r a b,Ag (kt w) s r (A7 w f g1 g2 m u G κ X Y n1 n2 o sl sl2 i ti j tj x nx ms us nm nu) (A7 w f g1 g2 m u G κ X Y n1 n2 o sl sl2 i ti j tj (Bn w.2 a b p tp q tq) 8 ms us nm nu)→Q .next r):wpAny (model pw w) A (execs [AF (AO Es) 0,AF (AO Es) 1] (Bs f)) Q E s:=by
 have v:i<1000:=by have:=(List.getElem?_eq_some_iff.mp l).1;have:=C.lX;(first|lia|omega)
 have y:j<1000:=by have:=(List.getElem?_eq_some_iff.mp n).1;have:=C.lY;(first|lia|omega)
 rcases z with⟨rfl,rfl⟩|⟨a,b,g,k,rfl,rfl⟩
 ·refine Cp (tR w f g1 g2 i ti j tj m u κ sl n1 n2 p tp q tq (vl X) (vl Y)) id (Ai te17455020850528331180 f) C.hA C.dA (Bw C.uA) (Az _ _ (Ah (λ_ _ _=>FB (Ij l) v) (Ah (λ_ _ _=>FB (Ij n) y) Ay))) Ar [AK m ms nm,AK u us nu,(G,wS o sl2)] (.refl _) S λD F H s1 d=>Fi ?_
  exact h _ _ _ d
 ·refine Cp (tS w f g1 g2 i ti j tj m u κ sl n1 n2 p tp q tq (vl X) (vl Y) a b g k) id (Ai te17455020850528331180 f) C.hA C.dA (Bw C.uA) (Az _ _ (Ah (λ_ _ _=>FB (Ij l) v) (Ah (λ_ _ _=>FB (Ij n) y) Ay))) Ar [AK m ms nm,AK u us nu,(G,wS o sl2)] (.refl _) S λD F H s1 d=>Fi ?_
  exact h _ _ _ d
theorem Abh(C:GB A f G env2 o X Y){s:Ab}{sl sl2:Array BN}{i ti j tj nm nu h k p tp q tq:Nat}{ms us:List (Nat×Nat)}
  (S:An (kt w) s (A7 w f g1 g2 m u G κ X Y n1 n2 o sl sl2 i ti j tj (Bn w.2 h k p tp q tq) 8 ms us nm nu)) (F:X[i]? =some (p,tp)) (J:Y[j]? =some (q,tq)) (K:p<q) (hm:ms.length≤i) (L:us.length≤j) (g:Dr X Y M U i j ms us) {Q N:Flow→Ab→Prop} {E:Value→Ab→Prop}
  (T: ∀l,GA w f g1 g2 m u G κ X Y M U n1 n2 o (i+j) s (A7 w f g1 g2 m u G κ X Y n1 n2 o sl sl2 i ti j tj (Bn w.2 h k p tp q tq) 8 ms us nm nu) l→Q .next l)
  (V: ∀l,F7 w f g1 g2 m u G κ X Y M U n1 n2 o s (A7 w f g1 g2 m u G κ X Y n1 n2 o sl sl2 i ti j tj (Bn w.2 h k p tp q tq) 8 ms us nm nu) l→N .brk l):
  wpAny (model pw w) A (execs ([AF (AO Fh) 0,AF (AO Fh) 1]++[I9]) (Bs f)) Q (Ii w A f N E) s:=by
 have hi:=(List.getElem?_eq_some_iff.mp F).1;have W:=(List.getElem?_eq_some_iff.mp J).1;have lX:=C.lX;have lY:=C.lY;refine Hd (Cp (tU w f g1 g2 i ti j tj m u κ sl h k p tp q tq nm (vl ms)) id (Ai te10261639450180429205 f) C.hA C.dA (Bw C.uA) (Az _ _ (Ah (λ_ _ _=>EB (by rw[F0];(first|lia|omega))) Ay)) (Bi _ _ (AA (λ_ _ _=>by (first|((repeat(first|exact .head _|apply List.mem_cons_of_mem));done)|simp)) Bp)) [AK g1 X n1,AK g2 Y n2,AK u us nu,(G,wS o sl2)] (AM [] [_,_,_,_,_,_] [1,7,3,5,9,11] Er) S λn H O s1 a=>Fi ?_);have Z:vl ms++[.int p tp]=vl (ms++[(p,tp)]):=by simp[vl]
 rw[Z]at a;generalize H 1=v at a;have a:Ag (kt w) s s1 (A7 w f g1 g2 m u G κ X Y n1 n2 o sl sl2 i ti j tj (Bn w.2 h k p tp q tq) 8 ms us nm nu) (A7 w f g1 g2 m u G κ X Y n1 n2 o sl sl2 (i+1) v j tj (Bn w.2 h k p tp q tq) 8 (ms++[(p,tp)]) us (nm+1) nu):=a.permR (AM [] [_,_,_,_,_,_] [1,7,3,5,9,11] Er);have P:=g.lt F J K;have z:(ms++[(p,tp)]).length≤i+1:=by (first|((repeat(first|exact .head _|apply List.mem_cons_of_mem));done)|simp);(first|lia|omega)
 refine CX ?_;rw[Aa9];refine Nl ?_;rcases Lw (i+1) X.length with y|y
 ·obtain⟨r,I,R⟩:B6 λr I=>X[i+1]? =some (r,I):=⟨_,_,Eu y⟩
  have ne:=No C.sX F R;refine Cp (tZ w f g1 g2 (i+1) v j tj m u κ sl h k p tp q tq n1 r I (vl X)) (λb=>Flow.ret (.bool b)) (Ai te11068680119571864600 f) C.hA C.dA (Bw C.uA) (Az _ _ (Ah (λ_ _ _=>FB (Ij R) (by (first|lia|omega))) Ay)) (Bi _ _ (AA (λ_ _ _=>by rw[BH (show¬((r:Int)=(p:Int)) by (first|lia|omega))]) Bp)) [AK g2 Y n2,(m,li (vl (ms++[(p,tp)])) (nm+1)),AK u us nu,(G,wS o sl2)] (.refl _) a.sat λn H O s2 d=>Hj ?_;exact⟨rfl,Ap (T s2 ⟨_,_,_,_,_,_,_,_,_,_,_,_,_,_,a.trans d,y,W,by (first|lia|omega),z,L,P⟩)⟩
 ·refine Cp (Aaa w f g1 g2 (i+1) v j tj m u κ sl h k p tp q tq n1 (vl X)) (λb=>Flow.ret (.bool b)) (Ai te11068680119571864600 f) C.hA C.dA (Bw C.uA) (Az _ _ (Ah (λ_ _ _=>Nk (by rw[F0];(first|lia|omega)) (by (first|lia|omega))) Ay)) Ar [AK g2 Y n2,(m,li (vl (ms++[(p,tp)])) (nm+1)),AK u us nu,(G,wS o sl2)] (.refl _) a.sat λn H O s2 d=> ?_
  have d:=a.trans (d.permR (L'':=A7 w f g1 g2 m u G κ X Y n1 n2 o sl sl2 (i+1) v j tj (Bn w.2 h k p tp q tq) 8 (ms++[(p,tp)]) us (nm+1) nu++((n 1,J1 (n 0))::[(n 0,_)])) (AM [] [_,_,_,_,_,_,_,_] [1,3,15,13,5,7,9,11] [1,3,5,7,9,11,13,15]));exact Np C.hfr C.hk2 C.hg C.ho d.sat λs3 _ _ _ _ D=>Nq C D.sat z L (by (first|lia|omega)) (by (first|lia|omega)) P (.inl y) λs4 h4=>V s4 (.via (d.trans D) h4)
theorem Abi(C:GB A f G env2 o X Y){s:Ab}{sl sl2:Array BN}{i ti j tj nm nu h k p tp q tq:Nat}{ms us:List (Nat×Nat)}
  (S:An (kt w) s (A7 w f g1 g2 m u G κ X Y n1 n2 o sl sl2 i ti j tj (Bn w.2 h k p tp q tq) 8 ms us nm nu)) (J:X[i]? =some (p,tp)) (F:Y[j]? =some (q,tq)) (K:q<p) (L:ms.length≤i) (hu:us.length≤j) (g:Dr X Y M U i j ms us) {Q N:Flow→Ab→Prop} {E:Value→Ab→Prop}
  (T: ∀l,GA w f g1 g2 m u G κ X Y M U n1 n2 o (i+j) s (A7 w f g1 g2 m u G κ X Y n1 n2 o sl sl2 i ti j tj (Bn w.2 h k p tp q tq) 8 ms us nm nu) l→Q .next l)
  (V: ∀l,F7 w f g1 g2 m u G κ X Y M U n1 n2 o s (A7 w f g1 g2 m u G κ X Y n1 n2 o sl sl2 i ti j tj (Bn w.2 h k p tp q tq) 8 ms us nm nu) l→N .brk l):
  wpAny (model pw w) A (execs ([AF (AO Et) 0,AF (AO Et) 1]++[Ja]) (Bs f)) Q (Ii w A f N E) s:=by
 have W:=(List.getElem?_eq_some_iff.mp J).1;have hj:=(List.getElem?_eq_some_iff.mp F).1;have lX:=C.lX;have lY:=C.lY;refine Hd (Cp (tV w f g1 g2 i ti j tj m u κ sl h k p tp q tq nu (vl us)) id (Ai te5296470503964135419 f) C.hA C.dA (Bw C.uA) (Az _ _ (Ah (λ_ _ _=>EB (by rw[F0];(first|lia|omega))) Ay)) (Bi _ _ (AA (λ_ _ _=>by (first|((repeat(first|exact .head _|apply List.mem_cons_of_mem));done)|simp)) Bp)) [AK g1 X n1,AK g2 Y n2,AK m ms nm,(G,wS o sl2)] (AM [] [_,_,_,_,_,_] [1,9,3,5,7,11] Er) S λn H O s1 a=>Fi ?_);have Z:vl us++[.int q tq]=vl (us++[(q,tq)]):=by simp[vl]
 rw[Z]at a;generalize H 1=v at a;have a:Ag (kt w) s s1 (A7 w f g1 g2 m u G κ X Y n1 n2 o sl sl2 i ti j tj (Bn w.2 h k p tp q tq) 8 ms us nm nu) (A7 w f g1 g2 m u G κ X Y n1 n2 o sl sl2 i ti (j+1) v (Bn w.2 h k p tp q tq) 8 ms (us++[(q,tq)]) nm (nu+1)):=a.permR (AM [] [_,_,_,_,_,_] [1,9,3,5,7,11] Er);have P:=g.gt J F K;have z:(us++[(q,tq)]).length≤j+1:=by (first|((repeat(first|exact .head _|apply List.mem_cons_of_mem));done)|simp);(first|lia|omega)
 refine CX ?_;rw[Aba];refine Nl ?_;rcases Lw (j+1) Y.length with y|y
 ·obtain⟨r,I,R⟩:B6 λr I=>Y[j+1]? =some (r,I):=⟨_,_,Eu y⟩
  have ne:=No C.sY F R;refine Cp (Aab w f g1 g2 i ti (j+1) v m u κ sl h k p tp q tq n2 r I (vl Y)) (λb=>Flow.ret (.bool b)) (Ai te6318051664192262566 f) C.hA C.dA (Bw C.uA) (Az _ _ (Ah (λ_ _ _=>FB (Ij R) (by (first|lia|omega))) Ay)) (Bi _ _ (AA (λ_ _ _=>by rw[BH (show¬((r:Int)=(q:Int)) by (first|lia|omega))]) Bp)) [AK g1 X n1,AK m ms nm,(u,li (vl (us++[(q,tq)])) (nu+1)),(G,wS o sl2)] (AM [] [_,_,_,_,_,_] [1,5,3,7,9,11] Er) a.sat λn H O s2 d=>Hj ?_;exact⟨rfl,Ap (T s2 ⟨_,_,_,_,_,_,_,_,_,_,_,_,_,_,a.trans (d.permR (AM [] [_,_,_,_,_,_] [1,5,3,7,9,11] Er)),W,y,by (first|lia|omega),L,z,P⟩)⟩
 ·refine Cp (Aac w f g1 g2 i ti (j+1) v m u κ sl h k p tp q tq n2 (vl Y)) (λb=>Flow.ret (.bool b)) (Ai te6318051664192262566 f) C.hA C.dA (Bw C.uA) (Az _ _ (Ah (λ_ _ _=>Nk (by rw[F0];(first|lia|omega)) (by (first|lia|omega))) Ay)) Ar [AK g1 X n1,AK m ms nm,(u,li (vl (us++[(q,tq)])) (nu+1)),(G,wS o sl2)] (AM [] [_,_,_,_,_,_] [1,5,3,7,9,11] Er) a.sat λn H O s2 d=> ?_
  have d:=a.trans (d.permR (L'':=A7 w f g1 g2 m u G κ X Y n1 n2 o sl sl2 i ti (j+1) v (Bn w.2 h k p tp q tq) 8 ms (us++[(q,tq)]) nm (nu+1)++((n 1,J1 (n 0))::[(n 0,_)])) (AM [] [_,_,_,_,_,_,_,_] [1,5,15,13,3,7,9,11] [1,3,5,7,9,11,13,15]));exact Np C.hfr C.hk2 C.hg C.ho d.sat λs3 _ _ _ _ D=>Nq C D.sat L z (by (first|lia|omega)) (by (first|lia|omega)) P (.inr y) λs4 h4=>V s4 (.via (d.trans D) h4)
end
end
section
section
variable {w:Aa}{A:Al}{f g1 g2 m u G:Nat}{κ:Nat→Nat}{X Y M U:List (Nat×Nat)}{n1 n2:Nat}{o:Obj}{env2:Env}
 {s:Ab} {sl sl2:Array (Option Value)} {i ti j tj nm nu y8 y9 p tp q tq:Nat} {ms us:List (Nat×Nat)}
theorem Abj(C:GB A f G env2 o X Y)(S:An (kt w) s (A7 w f g1 g2 m u G κ X Y n1 n2 o sl sl2 i ti j tj (Bn w.2 y8 y9 p tp q tq) 8 ms us nm nu))(H:i<X.length)(y:Y[j]? =some (q,tq))(z:ms.length≤i)(N:us.length≤j)(g:Dr X Y M U i (j+1) ms us){Q B:Flow→Ab→Prop}{E:Value→Ab→Prop}
  (I: ∀d,GA w f g1 g2 m u G κ X Y M U n1 n2 o (i+j) s (A7 w f g1 g2 m u G κ X Y n1 n2 o sl sl2 i ti j tj (Bn w.2 y8 y9 p tp q tq) 8 ms us nm nu) d→Q .next d)
  (J: ∀d,F7 w f g1 g2 m u G κ X Y M U n1 n2 o s (A7 w f g1 g2 m u G κ X Y n1 n2 o sl sl2 i ti j tj (Bn w.2 y8 y9 p tp q tq) 8 ms us nm nu) d→B .brk d):
  wpAny (model pw w) A (execs [AF (LD Hi) 0,Ig] (Bs f)) Q (notedBy (model pw w) A (Bs f) (cameBackBy (model pw w) A (Bs f) (Ii w A f B E))) s:=by
 have O:=(List.getElem?_eq_some_iff.mp y).1;have P:=C.lX;have R:=C.lY;refine CX (Cp (tX w f g1 g2 i ti j tj m u κ sl y8 y9 p tp q tq) id (Ai te18127145149267159557 f) C.hA C.dA (Bw C.uA) AR (Bi _ _ (AA (λ_ _ _=>by (first|((repeat(first|exact .head _|apply List.mem_cons_of_mem));done)|simp)) Bp)) [AK g1 X n1,AK g2 Y n2,AK m ms nm,AK u us nu,(G,wS o sl2)] (.refl _) S λe t D s1 a=>Fi ?_);generalize t 1=k at a;have a:Ag (kt w) s s1 (A7 w f g1 g2 m u G κ X Y n1 n2 o sl sl2 i ti j tj (Bn w.2 y8 y9 p tp q tq) 8 ms us nm nu) (A7 w f g1 g2 m u G κ X Y n1 n2 o sl sl2 i ti (j+1) k (Bn w.2 y8 y9 p tp q tq) 8 ms us nm nu):=a;refine CX ?_;rw[Xo];refine Nl ?_;rcases Lw (j+1) Y.length with l|l
 ·obtain⟨r,v,F⟩:B6 λr v=>Y[j+1]? =some (r,v):=⟨_,_,Eu l⟩
  have T:=No C.sY y F;refine Cp (Aaf w f g1 g2 i ti (j+1) k m u κ sl y8 y9 p tp q tq n2 r v (vl Y)) (λb=>Flow.ret (.bool b)) (Ai te5774956086130822822 f) C.hA C.dA (Bw C.uA) (Az _ _ (Ah (λ_ _ _=>FB (Ij F) (by (first|lia|omega))) Ay)) (Bi _ _ (AA (λ_ _ _=>by rw[BH (show¬((r:Int)=(q:Int)) by (first|lia|omega))]) Bp)) [AK g1 X n1,AK m ms nm,AK u us nu,(G,wS o sl2)] (AM [] [_,_,_,_,_,_] [1,5,3,7,9,11] Er) a.sat λe t D s2 c=>Hj ?_;exact⟨rfl,Ap (I s2 ⟨_,_,_,_,_,_,_,_,_,_,_,_,_,_,a.trans (c.permR (AM [] [_,_,_,_,_,_] [1,5,3,7,9,11] Er)),H,l,by (first|lia|omega),z,by (first|lia|omega),g⟩)⟩
 ·refine Cp (Aag w f g1 g2 i ti (j+1) k m u κ sl y8 y9 p tp q tq n2 (vl Y)) (λb=>Flow.ret (.bool b)) (Ai te5774956086130822822 f) C.hA C.dA (Bw C.uA) (Az _ _ (Ah (λ_ _ _=>Nk (by rw[F0];(first|lia|omega)) (by (first|lia|omega))) Ay)) Ar [AK g1 X n1,AK m ms nm,AK u us nu,(G,wS o sl2)] (AM [] [_,_,_,_,_,_] [1,5,3,7,9,11] Er) a.sat λe t D s2 c=> ?_
  have c:=a.trans (c.permR (L'':=A7 w f g1 g2 m u G κ X Y n1 n2 o sl sl2 i ti (j+1) k (Bn w.2 y8 y9 p tp q tq) 8 ms us nm nu++((e 1,J1 (e 0))::[(e 0,_)])) (AM [] [_,_,_,_,_,_,_,_] [1,5,15,13,3,7,9,11] [1,3,5,7,9,11,13,15]));exact Np C.hfr C.hk2 C.hg C.ho c.sat λs3 _ _ _ _ h=>Ng rfl h.sat Nm Nn (Si h.sat λV n=>Nq C n.sat z (by (first|lia|omega)) (by (first|lia|omega)) (by (first|lia|omega)) g (.inr l) λK L=>J K (.via (c.trans (h.trans n)) L))
theorem Abk(C:GB A f G env2 o X Y){e t c:Nat}{k:List Value}(S:An (kt w) s (DT w f g1 g2 m u G κ X Y n1 n2 o sl sl2 i ti j tj (Bn w.2 y8 y9 p tp q tq) 8 ms us nm nu e t c .none .none k))(V:X.length=i)(L:Y[j]? =some (q,tq))(N:ms.length≤i)(W:us.length≤j)(g:Dr X Y M U i (j+1) ms us){Q y:Flow→Ab→Prop}{E:Value→Ab→Prop}
  (O: ∀P,F7 w f g1 g2 m u G κ X Y M U n1 n2 o s (DT w f g1 g2 m u G κ X Y n1 n2 o sl sl2 i ti j tj (Bn w.2 y8 y9 p tp q tq) 8 ms us nm nu e t c .none .none k) P→y .brk P):
  wpAny (model pw w) (A.mark (some (.ref e))) (execs [AF (LD Hi) 0,Ig] (Bs f))
   (λg l=>match g with| .next=>wpAny (model pw w) A (PySem.passOn "try.finally" (.ref e) (Bs f)) Q (Ii w A f y E) l|g=>wpAny (model pw w) A (setFlight (.ref e) none) (λ_ D=>Q g D) (Ii w A f y E) l)
   (notedBy (model pw w) (A.mark (some (.ref e))) (Bs f) (cameBackBy (model pw w) A (Bs f) (Ii w A f y E))) s:=by
 have Z:=(List.getElem?_eq_some_iff.mp L).1;have lX:=C.lX;have lY:=C.lY;refine CX (Pm (tY w f g1 g2 i ti j tj m u κ sl y8 y9 p tp q tq e) id (Ai te18127145149267159557 f) C.hA C.dA C.uA AR (Bi _ _ (AA (λ_ _ _=>by (first|((repeat(first|exact .head _|apply List.mem_cons_of_mem));done)|simp)) Bp)) [AK g1 X n1,AK g2 Y n2,AK m ms nm,AK u us nu,(G,wS o sl2),(e,CO t (.ref c) .none),(c,Di f .none k)] (.refl _) S λn F R s1 d=>Fi ?_);generalize F 1=v at d;have d:Ag (kt w) s s1 (DT w f g1 g2 m u G κ X Y n1 n2 o sl sl2 i ti j tj (Bn w.2 y8 y9 p tp q tq) 8 ms us nm nu e t c .none .none k) (DT w f g1 g2 m u G κ X Y n1 n2 o sl sl2 i ti (j+1) v (Bn w.2 y8 y9 p tp q tq) 8 ms us nm nu e t c .none .none k):=d;refine CX ?_;rw[Xo];refine Nl ?_;rcases Lw (j+1) Y.length with H|H
 ·obtain⟨r,I,T⟩:B6 λr I=>Y[j+1]? =some (r,I):=⟨_,_,Eu H⟩
  have ne:=No C.sY L T;refine Pm (Aah w f g1 g2 i ti (j+1) v m u κ sl y8 y9 p tp q tq n2 r I (vl Y) e) (λb=>Flow.ret (.bool b)) (Ai te5774956086130822822 f) C.hA C.dA C.uA (Az _ _ (Ah (λ_ _ _=>Wx (hv:=some (.ref e)) (Ij T) (by (first|lia|omega))) Ay)) (Bi _ _ (AA (λ_ _ _=>by rw[BH (show¬((r:Int)=(q:Int)) by (first|lia|omega))]) Bp)) [AK g1 X n1,AK m ms nm,AK u us nu,(G,wS o sl2),(e,CO t (.ref c) .none),(c,Di f .none k)] (AM [] [_,_,_,_,_,_,_,_] [1,5,3,7,9,11,13,15] [1,3,5,7,9,11,13,15]) d.sat λn F R s2 a=>Hj ?_;have a:=d.trans (a.permR (L'':=DT w f g1 g2 m u G κ X Y n1 n2 o sl sl2 i ti (j+1) v (Bn w.2 y8 y9 p tp q tq) 8 ms us nm nu e t c .none .none k) (AM [] [_,_,_,_,_,_,_,_] [1,5,3,7,9,11,13,15] [1,3,5,7,9,11,13,15]));exact⟨rfl,Ap (Abe a.sat λs3 h=>Nq C h.sat N (by (first|lia|omega)) (by (first|lia|omega)) (by (first|lia|omega)) g (.inl (by (first|lia|omega))) λJ K=>O J (.via (a.trans h) K))⟩
 ·refine Pm (Aai w f g1 g2 i ti (j+1) v m u κ sl y8 y9 p tp q tq n2 (vl Y) e t (.ref c)) (λb=>Flow.ret (.bool b)) (Ai te5774956086130822822 f) C.hA C.dA C.uA (Az _ _ (Ah (λ_ _ _=>Aa2 (by rw[F0];(first|lia|omega)) (by (first|lia|omega))) Ay)) Ar [AK g1 X n1,AK m ms nm,AK u us nu,(G,wS o sl2),(c,Di f .none k)] (AM [] [_,_,_,_,_,_,_,_] [1,5,13,3,7,9,11,15] [1,3,5,7,9,11,13,15]) d.sat λn F R s2 a=> ?_
  have a:=d.trans (a.permR (L'':=A7 w f g1 g2 m u G κ X Y n1 n2 o sl sl2 i ti (j+1) v (Bn w.2 y8 y9 p tp q tq) 8 ms us nm nu++((n 1,CO (n 0) .none (.ref e))::[(n 0,_),(e,_),(c,_)])) (AM [] [_,_,_,_,_,_,_,_,_,_] [1,5,17,15,13,3,7,9,11,19] [1,3,5,7,9,11,13,15,17,19]));exact Np (B:=A.mark (some (.ref e))) C.hfr C.hk2 C.hg C.ho a.sat λs3 _ _ _ _ h=>Ng rfl h.sat Nm Nn (Si h.sat λs4 z=>Nq C z.sat N (by (first|lia|omega)) (by (first|lia|omega)) (by (first|lia|omega)) g (.inr H) λJ K=>O J (.via (a.trans (h.trans z)) K))
theorem Abl(C:GB A f G env2 o X Y)(S:An (kt w) s (A7 w f g1 g2 m u G κ X Y n1 n2 o sl sl2 i ti j tj (Bn w.2 y8 y9 p tp q tq) 8 ms us nm nu))(t:X[i]? =some (p,tp))(l:Y[j]? =some (q,tq))(L:p=q)(R:ms.length≤i)(D:us.length≤j)(g:Dr X Y M U i j ms us){Q F:Flow→Ab→Prop}{E:Value→Ab→Prop}
  (N: ∀e,GA w f g1 g2 m u G κ X Y M U n1 n2 o (i+j) s (A7 w f g1 g2 m u G κ X Y n1 n2 o sl sl2 i ti j tj (Bn w.2 y8 y9 p tp q tq) 8 ms us nm nu) e→Q .next e)
  (H: ∀e,F7 w f g1 g2 m u G κ X Y M U n1 n2 o s (A7 w f g1 g2 m u G κ X Y n1 n2 o sl sl2 i ti j tj (Bn w.2 y8 y9 p tp q tq) 8 ms us nm nu) e→F .brk e):
  wpAny (model pw w) A (execs [AF (Dv Et) 0,Hi] (Bs f)) Q (Ii w A f F E) s:=by
 have T:=(List.getElem?_eq_some_iff.mp t).1;have V:=(List.getElem?_eq_some_iff.mp l).1;have W:=C.lX;have Z:=C.lY;refine CX (Cp (tW w f g1 g2 i ti j tj m u κ sl y8 y9 p tp q tq) id (Ai te10216662923325704771 f) C.hA C.dA (Bw C.uA) AR (Bi _ _ (AA (λ_ _ _=>by (first|((repeat(first|exact .head _|apply List.mem_cons_of_mem));done)|simp)) Bp)) [AK g1 X n1,AK g2 Y n2,AK m ms nm,AK u us nu,(G,wS o sl2)] (.refl _) S λh v I s1 c=>Fi ?_);generalize v 1=k at c;have c:Ag (kt w) s s1 (A7 w f g1 g2 m u G κ X Y n1 n2 o sl sl2 i ti j tj (Bn w.2 y8 y9 p tp q tq) 8 ms us nm nu) (A7 w f g1 g2 m u G κ X Y n1 n2 o sl sl2 (i+1) k j tj (Bn w.2 y8 y9 p tp q tq) 8 ms us nm nu):=c;have J:=g.eq t l L;refine CX ?_;rw[Aa7];refine wpAny_Try_finally ?_;refine CX ?_;rw[Abb];refine Nl ?_;rcases Lw (i+1) X.length with y|y
 ·obtain⟨r,z,K⟩:B6 λr z=>X[i+1]? =some (r,z):=⟨_,_,Eu y⟩
  have ne:=No C.sX t K;refine Cp (Aad w f g1 g2 (i+1) k j tj m u κ sl y8 y9 p tp q tq n1 r z (vl X)) (λb=>Flow.ret (.bool b)) (Ai te3257809080605712396 f) C.hA C.dA (Bw C.uA) (Az _ _ (Ah (λ_ _ _=>FB (Ij K) (by (first|lia|omega))) Ay)) (Bi _ _ (AA (λ_ _ _=>by rw[BH (show¬((r:Int)=(p:Int)) by (first|lia|omega))]) Bp)) [AK g2 Y n2,AK m ms nm,AK u us nu,(G,wS o sl2)] (.refl _) c.sat λh v I s2 a=>Hj ?_;have a:Ag (kt w) s s2 (A7 w f g1 g2 m u G κ X Y n1 n2 o sl sl2 i ti j tj (Bn w.2 y8 y9 p tp q tq) 8 ms us nm nu) (A7 w f g1 g2 m u G κ X Y n1 n2 o sl sl2 (i+1) k j tj (Bn w.2 y8 y9 p tp q tq) 8 ms us nm nu):=c.trans a;exact⟨rfl,Ap (Ap (Abj C a.sat y l (by (first|lia|omega)) D J (λs3 B=>Ap (N s3 ((B.mono (by (first|lia|omega))).via a))) λs3 B=>H s3 (B.via a)))⟩
 ·refine Cp (Aae w f g1 g2 (i+1) k j tj m u κ sl y8 y9 p tp q tq n1 (vl X)) (λb=>Flow.ret (.bool b)) (Ai te3257809080605712396 f) C.hA C.dA (Bw C.uA) (Az _ _ (Ah (λ_ _ _=>Nk (by rw[F0];(first|lia|omega)) (by (first|lia|omega))) Ay)) Ar [AK g2 Y n2,AK m ms nm,AK u us nu,(G,wS o sl2)] (.refl _) c.sat λh v I s2 a=> ?_
  have a:=c.trans (a.permR (L'':=A7 w f g1 g2 m u G κ X Y n1 n2 o sl sl2 (i+1) k j tj (Bn w.2 y8 y9 p tp q tq) 8 ms us nm nu++((h 1,J1 (h 0))::[(h 0,_)])) (AM [] [_,_,_,_,_,_,_,_] [1,3,15,13,5,7,9,11] [1,3,5,7,9,11,13,15]));exact Np C.hfr C.hk2 C.hg C.ho a.sat λs3 _ _ _ _ d=>Ng rfl d.sat Nm Nn ⟨ref_ne_byPass _,Ng rfl d.sat Nm Nn (Abf d.sat λs4 n=>Abk C n.sat (by (first|lia|omega)) l (by (first|lia|omega)) D J λO P=>H O (P.via (a.trans (d.trans n))))⟩
end
end
section
section
variable {w:Aa}{A:Al}{f g1 g2 m u G:Nat}{κ:Nat→Nat}{X Y M U:List (Nat×Nat)}{n1 n2:Nat}{o:Obj}{env2:Env}
 {s:Ab} {sl sl2:Array (Option Value)} {i ti j tj nx nm nu:Nat} {x:List DictEntry} {ms us:List (Nat×Nat)}
theorem Abm(C:GB A f G env2 o X Y)(S:An (kt w) s (A7 w f g1 g2 m u G κ X Y n1 n2 o sl sl2 i ti j tj x nx ms us nm nu))(L:(x=[]∧nx=6)∨Kc λe h N O=>x=[Ad w CU e N,Ad w Cq h O]∧nx=8)(P:i<X.length)(R:j<Y.length)(z:ms.length≤i)(B:us.length≤j)(g:Dr X Y M U i j ms us){Q:Flow→Ab→Prop}{E:Value→Ab→Prop}
  (D: ∀n,GA w f g1 g2 m u G κ X Y M U n1 n2 o (i+j) s (A7 w f g1 g2 m u G κ X Y n1 n2 o sl sl2 i ti j tj x nx ms us nm nu) n→Q .next n)
  (F: ∀n,F7 w f g1 g2 m u G κ X Y M U n1 n2 o s (A7 w f g1 g2 m u G κ X Y n1 n2 o sl sl2 i ti j tj x nx ms us nm nu) n→Q .brk n):
  wpAny (model pw w) A (exec Es (Bs f)) Q E s:=by
 obtain⟨p,tp,v⟩:B6 λr H=>X[i]? =some (r,H):=⟨_,_,Eu P⟩
 obtain⟨q,k,y⟩:B6 λr H=>Y[j]? =some (r,H):=⟨_,_,Eu R⟩
 rw[Xm];refine wpAny_Try_except ?_;rw[Xn];refine Hd (Abg C S L v y λs1 e h l=> ?_);refine CX ?_;rw[Aa5];refine wpAny_If ?_
 by_cases T:p<q
 ·refine Cp (Xf w f g1 g2 i ti j tj m u κ sl e h p tp q k true) (λb=>Flow.ret (.bool b)) (Ai (Ai te11312781009566750177 0) f) C.hA C.dA (Bw C.uA) AR (Bi _ _ (AA (λ_ _ _=>by rw[CD (show(p:Int)<(q:Int) by (first|lia|omega))]) Bp)) [AK g1 X n1,AK g2 Y n2,AK m ms nm,AK u us nu,(G,wS o sl2)] (.refl _) l.sat λI J K s2 a=>Hj ?_
  have c:Ag (kt w) s s2 (A7 w f g1 g2 m u G κ X Y n1 n2 o sl sl2 i ti j tj x nx ms us nm nu) (A7 w f g1 g2 m u G κ X Y n1 n2 o sl sl2 i ti j tj (Bn w.2 e h p tp q k) 8 ms us nm nu):=l.trans a;exact Abh C c.sat v y T z B g (λs3 d=>Ap (Ap (D s3 (d.via c)))) λs3 d=>F s3 (d.via c)
 ·refine Cp (Xf w f g1 g2 i ti j tj m u κ sl e h p tp q k false) (λb=>Flow.ret (.bool b)) (Ai (Ai te11312781009566750177 0) f) C.hA C.dA (Bw C.uA) AR (Bi _ _ (AA (λ_ _ _=>by rw[BH (show¬((p:Int)<(q:Int)) by (first|lia|omega))]) Bp)) [AK g1 X n1,AK g2 Y n2,AK m ms nm,AK u us nu,(G,wS o sl2)] (.refl _) l.sat λI J K s2 a=>Hj ?_
  have a:Ag (kt w) s s2 (A7 w f g1 g2 m u G κ X Y n1 n2 o sl sl2 i ti j tj x nx ms us nm nu) (A7 w f g1 g2 m u G κ X Y n1 n2 o sl sl2 i ti j tj (Bn w.2 e h p tp q k) 8 ms us nm nu):=l.trans a;refine CX ?_;rw[Aa6];refine wpAny_If ?_
  by_cases V:q<p
  ·refine Cp (Xg w f g1 g2 i ti j tj m u κ sl e h p tp q k true) (λb=>Flow.ret (.bool b)) (Ai (Ai te11312781009566750177 1) f) C.hA C.dA (Bw C.uA) AR (Bi _ _ (AA (λ_ _ _=>by rw[CD (show(p:Int)>(q:Int) by (first|lia|omega))]) Bp)) [AK g1 X n1,AK g2 Y n2,AK m ms nm,AK u us nu,(G,wS o sl2)] (.refl _) a.sat λI J K s3 t=>Hj ?_
   have c:Ag (kt w) s s3 (A7 w f g1 g2 m u G κ X Y n1 n2 o sl sl2 i ti j tj x nx ms us nm nu) (A7 w f g1 g2 m u G κ X Y n1 n2 o sl sl2 i ti j tj (Bn w.2 e h p tp q k) 8 ms us nm nu):=a.trans t;exact Abi C c.sat v y V z B g (λs3 d=>Ap (Ap (Ap (D s3 (d.via c))))) λs3 d=>F s3 (d.via c)
  ·refine Cp (Xg w f g1 g2 i ti j tj m u κ sl e h p tp q k false) (λb=>Flow.ret (.bool b)) (Ai (Ai te11312781009566750177 1) f) C.hA C.dA (Bw C.uA) AR (Bi _ _ (AA (λ_ _ _=>by rw[BH (show¬((p:Int)>(q:Int)) by (first|lia|omega))]) Bp)) [AK g1 X n1,AK g2 Y n2,AK m ms nm,AK u us nu,(G,wS o sl2)] (.refl _) a.sat λI J K s3 t=>Hj ?_
   have c:Ag (kt w) s s3 (A7 w f g1 g2 m u G κ X Y n1 n2 o sl sl2 i ti j tj x nx ms us nm nu) (A7 w f g1 g2 m u G κ X Y n1 n2 o sl sl2 i ti j tj (Bn w.2 e h p tp q k) 8 ms us nm nu):=a.trans t;exact Abl C c.sat v y (by (first|lia|omega)) z B g (λs3 d=>Ap (Ap (Ap (D s3 (d.via c))))) λs3 d=>F s3 (d.via c)
theorem Abn(C:GB A f G env2 o X Y)(S:An (kt w) s (A7 w f g1 g2 m u G κ X Y n1 n2 o sl sl2 i ti j tj [] 6 ms us nm nu))(r:X.length=i)(t:j≤Y.length)(v:ms.length≤i)(y:us.length≤j)(g:Dr X Y M U i j ms us){Q:Flow→Ab→Prop}{E:Value→Ab→Prop}
  (h: ∀d,F7 w f g1 g2 m u G κ X Y M U n1 n2 o s (A7 w f g1 g2 m u G κ X Y n1 n2 o sl sl2 i ti j tj [] 6 ms us nm nu) d→Q .brk d):
  wpAny (model pw w) A (exec Es (Bs f)) Q E s:=by
 have z:=C.lX;have B:=C.lY;rw[Xm];refine wpAny_Try_except ?_;rw[Xn];refine Hd (Cp (tT w f g1 g2 i ti j tj m u κ sl n1 (vl X)) id (Ai te17455020850528331180 f) C.hA C.dA (Bw C.uA) (Az _ _ (Ah (λ_ _ _=>Nk (by rw[F0];(first|lia|omega)) (by (first|lia|omega))) Ay)) Ar [AK g2 Y n2,AK m ms nm,AK u us nu,(G,wS o sl2)] (.refl _) S λc D F s2 a=> ?_);have a:=a.permR (L'':=A7 w f g1 g2 m u G κ X Y n1 n2 o sl sl2 i ti j tj [] 6 ms us nm nu++((c 1,J1 (c 0))::[(c 0,_)])) (AM [] [_,_,_,_,_,_,_,_] [1,3,15,13,5,7,9,11] [1,3,5,7,9,11,13,15]);refine Xp C.hfr C.hk2 C.hg C.ho a.sat λs3 _ _ _ _ b=>Xk C.hA C.dA (Bw C.uA) b.sat (by (first|lia|omega)) λk l n e=>h k ?_;obtain⟨rfl,rfl⟩:=g.fin (.inl (by (first|lia|omega)));exact⟨_,_,_,_,_,_,_,_,_,_,(a.trans b).trans e⟩
inductive SdI (w:Aa) (f g1 g2 m u G:Nat) (κ:Nat→Nat) (X Y M U:List (Nat×Nat)) (n1 n2:Nat) (o:Obj) (s:Ab) (Λ:Ae) (n:Nat) (s':Ab):Prop
 |mk (sl sl2:Array (Option Value)) (i ti j tj:Nat) (x:List DictEntry) (nx:Nat) (ms us:List (Nat×Nat)) (nm nu:Nat) (st:Ag (kt w) s s' Λ (A7 w f g1 g2 m u G κ X Y n1 n2 o sl sl2 i ti j tj x nx ms us nm nu)) (hx:(x=[]∧nx=6)∨Kc λy8 y9 v8 v9=>x=[Ad w CU y8 v8,Ad w Cq y9 v9]∧nx=8) (hij:(i<X.length∧j<Y.length)∨(X.length=i∧j≤Y.length∧x=[]∧nx=6)) (hm:ms.length≤i) (hu:us.length≤j) (g:Dr X Y M U i j ms us) (hn:n=X.length+Y.length-(i+j))
theorem Abo{a b i j c d n:Nat}(g:n=a+b-(i+j))(e:i+j<c+d)(h:c<a)(k:d<b):a+b-(c+d)<n:=g▸Jd (DC e (Nat.add_lt_add h k)) e
theorem Abp(C:GB A f G env2 o X Y)(S:An (kt w) s (A7 w f g1 g2 m u G κ X Y n1 n2 o sl sl2 0 ti 0 tj [] 6 [] [] nm nu))(y:X≠[]→Y≠[]){Q:Flow→Ab→Prop}{E:Value→Ab→Prop}
  (e: ∀z,F7 w f g1 g2 m u G κ X Y (Ch (X.length+Y.length) X Y).1 (Ch (X.length+Y.length) X Y).2 n1 n2 o s (A7 w f g1 g2 m u G κ X Y n1 n2 o sl sl2 0 ti 0 tj [] 6 [] [] nm nu) z→Q .next z):
  wpAny (model pw w) A (exec I8 (Bs f)) Q E s:=by
 rw[Aa8];generalize hM:(Ch (X.length+Y.length) X Y).1=M at e;generalize hU:(Ch (X.length+Y.length) X Y).2=U at e;have g0:Dr X Y M U 0 0 [] []:=⟨X.length+Y.length,by (first|((repeat(first|exact .head _|apply List.mem_cons_of_mem));done)|simp),by rw[←hM];rfl,by rw[←hU];rfl⟩
 refine wpAny_While (codeAny_whileLoop (SdI w f g1 g2 m u G κ X Y M U n1 n2 o s (A7 w f g1 g2 m u G κ X Y n1 n2 o sl sl2 0 ti 0 tj [] 6 [] [] nm nu)) (λn s1 h1=> ?_) (X.length+Y.length) ?_)
 ·obtain⟨ad,ac,i,ae,j,ai,x,nx,ms,us,aj,ak,h,hx,B,D,F,g,hn⟩:=h1
  refine Cp (tQ w f) (λb=>Flow.ret (.bool b)) (Ai te1421409607433010936 f) C.hA C.dA (Bw C.uA) AR Ar _ (.refl _) h.sat λα τ ω s2 H=>Hj ?_;have c:=h.trans H;rcases B with⟨t,v⟩|⟨t,v,rfl,rfl⟩
  ·refine CX (Abm C c.sat hx t v D F g (λs3 d=>Ap ?_) λs3 d=>e s3 (d.via c))
   obtain⟨I,J,K,L,N,O,y8,y9,v8,v9,P,R,T,V,W,k,r,hk,Z,aa,g'⟩:=d;exact⟨X.length+Y.length-(K+N),Abo hn hk k r,I,J,K,L,N,O,_,_,P,R,T,V,c.trans W,.inr ⟨y8,y9,v8,v9,rfl,rfl⟩,.inl ⟨k,r⟩,Z,aa,g',rfl⟩
  ·exact CX (Abn C c.sat t v D F g λs3 d=>e s3 (d.via c))
 ·refine⟨sl,sl2,0,ti,0,tj,[],6,[],[],nm,nu,.refl S,.inl ⟨rfl,rfl⟩,?_,A8 _,A8 _,g0,rfl⟩
  cases X with
  |nil=>exact .inr ⟨rfl,B8 _,rfl,rfl⟩
  |cons a l=>exact .inl ⟨by (first|((repeat(first|exact .head _|apply List.mem_cons_of_mem));done)|simp),List.length_pos_iff.mpr (y (by (first|((repeat(first|exact .head _|apply List.mem_cons_of_mem));done)|simp)))⟩
end
theorem Abq{a b c d e g h:Addr×Obj}:[h,g,a,b,d,e,c].Perm [a,b,c,d,e,g,h]:=AM [] [a,b,c,d,e,g,h] [13,11,1,3,7,9,5] [1,3,5,7,9,11,13]
inductive Abr (w:Aa) (g1 g2 G:Nat) (X Y:List (Nat×Nat)) (n1 n2:Nat) (o:Obj) (r:Result) (L':Ae) (ts:List Nat):Prop
 |mk (ht:ts=[]) (sl2:Array (Option Value)) (m u t nm nu:Nat) (hr:r= .ok (.ret (.ref t))) (hL:L'=[(g1,li (vl X) n1),(g2,li (vl Y) n2),(G,wS o sl2),(m,li (vl (Ch (X.length+Y.length) X Y).1) nm),(u,li (vl (Ch (X.length+Y.length) X Y).2) nu),(t,tu [.ref m,.ref u] 0)])
theorem Abs{w:Aa}{B:Al}{g1 g2 G n1 n2:Nat}{X Y:List (Nat×Nat)}{o:Obj}{env2:Env}{sl2:Array BN}(n:B.handled=none)(Q:B.depth≤470)(uB:B.units≤2500)(r:B.frames=some [env2])(t:env2.scope.kind≠ .module)(D:env2.frame=some G)(E:o.isFreed=false)
  (F:X.length≤40) (H:Y.length≤40) (I:X.Pairwise (·.1< ·.1)) (J:Y.Pairwise (·.1< ·.1)) (v:X≠[]→Y≠[]):
  RunsW w B (.call (.ref 302) ⟨[.ref g1,.ref g2],[]⟩) [AK g1 X n1,AK g2 Y n2,(G,wS o sl2)] (Abr w g1 g2 G X Y n1 n2 o):=by
 refine ER (tO w g1 g2) [AK g1 X n1,AK g2 Y n2,(G,wS o sl2)] (.refl _) [] n (by (first|lia|omega)) (by (first|lia|omega)) AR Ar λK e R=>⟨_,.refl _,?_⟩
 generalize K 0=f;intro s S;have S:An (kt w) s [(f,Nh ⟨[]⟩ [Ad w CG (e 0) (.ref g1),Ad w CF (e 1) (.ref g2)] 2),AK g1 X n1,AK g2 Y n2,(G,wS o sl2)]:=S;have C:GB (B.deeper (Bs f)) f G env2 o X Y:=⟨n,by refine (?_:B.depth+1≤480);(first|lia|omega),by refine (?_:B.units+3<2600);(first|lia|omega),Around.frames_deeper r,t,D,E,F,H,I,J⟩
 refine codeAny_func ?_;rw[Abc];refine Hd (Cp (tP w f g1 g2 (λi=>e i) ⟨[]⟩) id (Ai te12221740135850211760 f) C.hA C.dA (Bw C.uA) AR Ar [AK g1 X n1,AK g2 Y n2,(G,wS o sl2)] (.refl _) S λa b P s1 g=>Fi ?_);have g:Ag (kt w) s s1 _ (A7 w f g1 g2 (a 0) (a 1) G (λi=>[e 0,e 1,b 2,b 3,b 4,b 5].getD i 0) X Y n1 n2 o ⟨[]⟩ sl2 0 (b 1) 0 (b 1) [] 6 [] [] 0 0):=g.permR (AM [] [_,_,_,_,_,_] [1,7,9,3,5,11] Er);refine CX (Abp C g.sat v λs2 L=> ?_);obtain⟨y,c,i,ti,j,tj,x,nx,nm,nu,l⟩:=L;refine Cp (Aak w f g1 g2 i ti j tj (a 0) (a 1) (λi=>[e 0,e 1,b 2,b 3,b 4,b 5].getD i 0) y x nx) id (Ai te17473257155629819926 f) C.hA C.dA (Bw C.uA) AR Ar [AK g1 X n1,AK g2 Y n2,(a 0,li (vl (Ch (X.length+Y.length) X Y).1) nm),(a 1,li (vl (Ch (X.length+Y.length) X Y).2) nu),(G,wS o c)] (AM [] [_,_,_,_,_,_] Er Er) l.sat λd N O s3 z=>Fi ?_;obtain⟨h,k⟩: ∃h,Ag (kt w) s s3 _ [(f,h),(d 0,tu [.ref (a 0),.ref (a 1)] 0),(g1,li (vl X) n1),(g2,li (vl Y) n2),(a 0,li (vl (Ch (X.length+Y.length) X Y).1) nm),(a 1,li (vl (Ch (X.length+Y.length) X Y).2) nu),(G,wS o c)]:=⟨_,(g.trans l).trans z⟩
 have k:=k.permR (L'':=[AK g1 X n1,AK g2 Y n2,(G,wS o c),(a 0,li (vl (Ch (X.length+Y.length) X Y).1) nm),(a 1,li (vl (Ch (X.length+Y.length) X Y).2) nu),(d 0,tu [.ref (a 0),.ref (a 1)] 0),(f,h)]) Abq;exact⟨_,[],⟨rfl,c,a 0,a 1,d 0,nm,nu,rfl,rfl⟩,k.subs (EY [AK g1 X n1,AK g2 Y n2,(G,wS o c),(a 0,li (vl (Ch (X.length+Y.length) X Y).1) nm),(a 1,li (vl (Ch (X.length+Y.length) X Y).2) nu),(d 0,tu [.ref (a 0),.ref (a 1)] 0)] [(f,h)]),k.toks⟩
end
section
section
variable {A:Al}{s:Ab}
theorem Po{a n:Nat}{b:List Value}(h:s.heap.get? a=some (li b n)):s.heap.IsList a ⟨b⟩:=by
 rw[BX]at h;exact⟨_,h,rfl,n,rfl⟩
theorem Xq{a n:Nat}{b:List Value}(h:s.heap.get? a=some (tu b n)):s.heap.IsTuple a ⟨b⟩:=by
 rw[JF]at h;exact⟨_,h,rfl,n,rfl⟩
noncomputable def Lc(A:Al)(s:Ab)(a b:List Value):Prop:=a.length=b.length∧ ∀j (c:j<a.length) (d:j<b.length),EqAt A s a[j] b[j] true
theorem Sj(n:Nat):((List.range n).all λ_=>true)=true:=by (first|((repeat(first|exact .head _|apply List.mem_cons_of_mem));done)|simp)
theorem Abt{a b n k:Nat}{c d:List Value}(g:s.heap.get? a=some (li c n))(i:s.heap.get? b=some (li d k))(m:A.units<cLine)(h:Lc A.in1 s c d):RcNeAt A s (.ref a) (.ref b) false:=by
 have:=RcNeAt.lists (A:=A) (e:=λ_=>true) (Po g) (Po i) h.1 m λj o r=>h.2 j o r;rwa[Sj]at this
theorem Sk{a b n k:Nat}{c d:List Value}(g:s.heap.get? a=some (li c n))(i:s.heap.get? b=some (li d k))(m:A.units<cLine)(h:Lc A.in1 s c d):RcAt A s (.ref a) (.ref b) true:=by
 have:=RcAt.lists (A:=A) (e:=λ_=>true) (Po g) (Po i) h.1 m λj o r=>h.2 j o r;rwa[Sj]at this
theorem Abu{a b n k:Nat}{c d:List Value}(g:s.heap.get? a=some (tu c n))(i:s.heap.get? b=some (tu d k))(m:A.units<cLine)(h:Lc A.in1 s c d):RcNeAt A s (.ref a) (.ref b) false:=by
 have:=RcNeAt.tuples (A:=A) (e:=λ_=>true) (Xq g) (Xq i) m λj o r=>h.2 j o r;have e:((⟨c⟩:Array Value).size==(⟨d⟩:Array Value).size)=true:=by simpa using h.1
 rw[Sj,e]at this;exact this
end
theorem Xr{w:Aa}{B:Al}{s:Ab}{g:Stmt}{l r:Expr}{k p:Pos}{d:List Stmt}{a:Env}{Q:Flow→Ab→Prop}{E:Value→Ab→Prop}(i:g= .If (.Compare l [.NotEq] [r] k) d [] p)(m:markedBehindIn .NotEq r (eval r a)=eval r a)
  (h:wpAny (model pw w) B (eval l a) (λb s1=>wpAny (model pw w) B (eval r a) (λc s2=>RcNeAt B s2 b c false∧Q .next s2) E s1) E s):wpAny (model pw w) B (exec g a) Q E s:=by
 rw[i,exec_If];refine Af (Du ?_);rw[isTrue_Compare1];refine Af (Af (CE h (λb s1 n=> ?_) λ_ _ e=>e));refine Af (Dl ?_);rw[m];refine CE n (λc s2 j=> ?_) λ_ _ e=>e;refine Af (Du ?_);refine Af ?_;refine (?_:wpAny _ _ (holding [b,c] (compareOp .NotEq b c)>>=λr=>release [b,c] [r]>>=λ_=>pure r) _ _ _);refine Af (Dl (j.1 pw w _ _ ?_));refine Af (wpAny_release (Ap ?_));refine (?_:wpAny _ _ (holding [.bool false] (truthy DG)) _ _ _);refine Dl (wpAny_truthy_bool ?_);simp only[CR,if_false];exact Ap j.2
theorem Abv:lw 9= .If (.Compare (A9 ((Br (sT (lw 9)))) 0) [.NotEq] [A9 ((Br (sT (lw 9)))) 1] (gP (sT (lw 9)))) (AO (lw 9)) [] (sP (lw 9)):=by kernel_rfl
theorem Abw:lw 11= .Return (some (.Compare (A9 (Br ((sk (lw 11) 0 []))) 0) [.Eq] [A9 (Br ((sk (lw 11) 0 []))) 1] (gP ((sk (lw 11) 0 []))))) (sP (lw 11)):=by kernel_rfl
section
variable {w:Aa}{B:Al}{f cs cg:Nat}{l:LV}{sl:Array (Option Value)}{s:Ab}
theorem Abx(k:B.handled=none)(m:B.depth≤440)(uB:B.units≤2000){g d:Nat}{D:List TE}{e:List Value}{R:Ae}(u:0<D.length)(v:D.length≤900)
  (S:An (kt w) s ([(f,Cg w.2 sl l [] 8),(l.du,li (AL D) g),(l.td,li e d)]++TL D++R)) (y: ∀A s,Lc A s e (DS D)) {Q:Flow→Ab→Prop} {E:Value→Ab→Prop}
  (z: ∀n,Ag (kt w) s n ([(f,Cg w.2 sl l [] 8),(l.du,li (AL D) g),(l.td,li e d)]++TL D++R) ([(f,Cg w.2 sl l [] 8),(l.du,li (AL D) g),(l.td,li e d)]++TL D++R)→Q .next n):
  wpAny (model pw w) B (exec (lw 9) (Bv f cs cg)) Q E s:=by
 refine Xr Abv (by rfl) ?_;refine Hk (Aao w f cs cg l sl) (Ai (Ai (Ai te4508568973332873282 f) cs) cg) k m uB AR Ar ([(l.du,li (AL D) g),(l.td,li e d)]++TL D++R) (.refl _) S λo C F s1 i=> ?_;have j: ∀{a b c:Addr×Obj} {X Y:Ae},([a,b,c]++X++Y).Perm (([a,b]++X)++(c::Y)):=λ {a b c X Y}=>(EJ (l₁:=X)).symm.append_left [a,b];have r:=(i.permR j).sat;refine H3 (Aap w f cs cg l sl g D) Flow.ret (Ai (Ai (Ai te4550174764539607127 f) cs) cg) (TL D) [] k m uB (G8 _ _ (FW (λ_ _ _ _ _ _=>tH v u) G7)) Ar r.left λo C F s2 H t _ G=> ?_;refine CZ G▸ ?_;have h:=((i.permR j).trans (Ag.part ((l.td,li e d)::R) r (.refl _) t)).permR (L'':=(o 1,li (DS D) D.length)::([(f,Cg w.2 sl l [] 8),(l.du,li (AL D) g),(l.td,li e d)]++TL D++R)) ((EJ (l₁:=[_,_])).trans (j.symm.cons _));exact⟨Abt (h.sat.mem (l.td,li e d) (.tail _ (.tail _ (.tail _ (.head _))))) (h.sat.mem _ (.head _)) (CQ uB (by decide)) (y _ _),z s2 (h.subs (Pw _ _))⟩
theorem Aby(i:B.handled=none)(k:B.depth≤440)(uB:B.units≤2000){c d:Nat}{a b:List Value}{x:List DictEntry}{R:Ae}(h:a.length≤400)(hz:a.drop l.tn++a.take l.tn=b)
  (S:An (kt w) s ([(f,Cg w.2 sl l x d),(l.pl,li a 16),(l.cd,li b c)]++R)) {Q:Flow→Ab→Prop} {E:Value→Ab→Prop}
  (r: ∀m,Ag (kt w) s m ([(f,Cg w.2 sl l x d),(l.pl,li a 16),(l.cd,li b c)]++R) ([(f,Cg w.2 sl l x d),(l.pl,li a 16),(l.cd,li b c)]++R)→Q (.ret IJ) m):
  wpAny (model pw w) B (exec (lw 11) (Bv f cs cg)) Q E s:=by
 rw[Abw,exec_Return_some];refine Af (Du (Af (wpAny_Compare1 ?_ (by rfl))));refine Hk (Aat w f cs cg l sl x d) (Ai (Ai (Ai te17697714968690218824 f) cs) cg) i k uB AR Ar ([(l.pl,li a 16),(l.cd,li b c)]++R) (.refl _) S λn t u s1 g=> ?_;have v:(a.take l.tn).length≤400:=AC (List.length_take_le' _ _) h;refine Hk (Aau w f cs cg l sl x d a (a.drop l.tn) (a.take l.tn) b) (Ai (Ai (Ai te14837520834594988895 f) cs) cg) i k uB (Az _ _ (Ah (λ_ _ _=>H4 (.int _ _) .none .none (by (first|((repeat(first|exact .head _|apply List.mem_cons_of_mem));done)|simp)) (AC h (by decide)) (by rw[slicePick_from'])) (Ah (λ_ _ _=>H4 .none (.int _ _) .none (by (first|((repeat(first|exact .head _|apply List.mem_cons_of_mem));done)|simp)) (AC h (by decide)) (by rw[slicePick_upto'])) (Ah (λ_ _ _=>WV (by (first|((repeat(first|exact .head _|apply List.mem_cons_of_mem));done)|simp);(first|lia|omega)) hz) Ay)))) Ar ((l.cd,li b c)::R) (.refl _) g.sat λn t u s2 o=> ?_;have e:=(g.trans o).permR (L'':=(n 4,li b 0)::([(f,Cg w.2 sl l x d),(l.pl,li a 16),(l.cd,li b c)]++R)) (EJ (l₁:=[_,_]));refine Sk (e.sat.mem (l.cd,li b c) (.tail _ (.tail _ (.tail _ (.head _))))) (e.sat.mem _ (.head _)) (CQ uB (by decide)) ⟨rfl,λj y z=>EqAt.same _⟩ pw w _ _ ?_;exact Ap (r s2 (e.subs (Pw _ _)))
end
end
section
noncomputable def zI(X:List (Nat×Nat)):List Int:=X.map λp=>(p.1:Int)
noncomputable def Fk:Nat→List Int→List Int→List Int×List Int
 |0,a,b=>(a,b)
 |_+1,[],b=>([],b)
 |_+1,x::a,[]=>(x::a,[])
 |n+1,x::a,y::b=>if x<y then(x::(Fk n a (y::b)).1,(Fk n a (y::b)).2)else if y<x then((Fk n (x::a) b).1,y::(Fk n (x::a) b).2)else Fk n a b
theorem Abz: ∀(n:Nat) (X Y:List (Nat×Nat)),Fk n (zI X) (zI Y)=(zI (Ch n X Y).1,zI (Ch n X Y).2):=by
 intro n
 induction n with
 |zero=>intro X Y;rfl
 |succ n a=>
  intro X Y;cases X with
  |nil=>rfl
  |cons x X=>
   cases Y with
   |nil=>rfl
   |cons y Y=>
    refine (?_:Fk (n+1) ((x.1:Int)::zI X) ((y.1:Int)::zI Y)=_);rw[Fk,Ch];have b:=a X (y::Y);have c:=a (x::X) Y;have e:=a X Y
    by_cases h:x.1<y.1
    ·rw[AS h,AS (by (first|lia|omega))]
     have b:Fk n (zI X) ((y.1:Int)::zI Y)=_:=b;rw[b];rfl
    ·rw[AI h,AI (by (first|lia|omega))]
     by_cases d:y.1<x.1
     ·rw[AS d,AS (by (first|lia|omega))]
      have c:Fk n ((x.1:Int)::zI X) (zI Y)=_:=c;rw[c];rfl
     ·rw[AI d,AI (by (first|lia|omega)),e]
theorem Xs{a:List Value}{F:List Int}(h:AV a F)(b: ∀n∈F,0≤n): ∃X,a=vl X∧zI X=F:=by
 induction h with
 |nil=>exact⟨[],rfl,rfl⟩
 | @cons n t j k _ d=>
  obtain⟨X,e,g⟩:=d λm i=>b m (BB _ i);have c:=b n Bj;refine⟨(n.toNat,t)::X,?_,?_⟩
  ·refine (?_:_=Value.int (n.toNat:Int) t::vl X)
   rw[Int.toNat_of_nonneg c,e]
  ·show(n.toNat:Int)::zI X=_
   rw[Int.toNat_of_nonneg c,g]
theorem Sl: ∀X:List (Nat×Nat),AV (vl X) (zI X)
 |[]=>.nil
 |x::X=>.cons _ _ (Sl X)
theorem Xu{m:Nat}{a:List Int}{c:List Value}{F:List Int}(h:AV c F):AV (c.filter (pk m a)) (F.filter λk=>if m=0 then !decide (k∈a)else decide (k∈a)):=by
 induction h with
 |nil=>exact .nil
 | @cons n t e g _ d=>
  by_cases b:pk m a (.int n t)=true
  ·rw[Pu b,Pu (p:=λk=>if m=0 then !decide (k∈a)else decide (k∈a)) (show(if m=0 then !decide (n∈a)else decide (n∈a))=true from b)]
   exact .cons _ _ d
  ·rw[Pv b,Pv (p:=λk=>if m=0 then !decide (k∈a)else decide (k∈a)) (show¬(if m=0 then !decide (n∈a)else decide (n∈a))=true from b)]
   exact d
theorem Xv{A:Al}{s:Ab}{d:List Value}{F:List Int}(h:AV d F): ∀{a:List Value},AV a F→Lc A s d a:=by
 intro a b;refine⟨(G1 h).trans (G1 b).symm,?_⟩
 induction h generalizing a with
 |nil=>intro j c _;exact absurd c (J7 j)
 | @cons n t i k _ e=>
  cases b with
  |cons _ u g=>
   intro j c b;cases j with
   |zero=>have:=EqAt.int_int (A:=A) (s:=s) n t n u;rwa[show(n==n)=true by (first|((repeat(first|exact .head _|apply List.mem_cons_of_mem));done)|simp)]at this
   |succ j=>exact e g j (by simpa using c) (by simpa using b)
structure Pp(a G F:List Int):Prop where
 e1:(Fk (G.length+a.length) G a).1=F.filter λk=> !decide (k∈a)
 e2:(Fk (G.length+a.length) G a).2=F.filter λk=>decide (k∈a)
 sG:G.Pairwise (· < ·)
 sa:a.Pairwise (· < ·)
 hG:G≠[]→a≠[]
 zG: ∀k∈G,(0:Int)≤k
 za: ∀k∈a,(0:Int)≤k
 lG:G.length≤40
 la:a.length≤40
 lF:F.length≤900
theorem Xw{X:List (Nat×Nat)}(h:(zI X).Pairwise (· < ·)):X.Pairwise (·.1< ·.1):=by
 unfold zI at h;rw[GE]at h;exact h.imp λh=>by simpa using h
theorem Xx{X:List (Nat×Nat)}:(zI X).length=X.length:=by simp[zI]
theorem Ab0:AO (lw 10)=[JW,Gx]:=by kernel_rfl
theorem Ab1:JW= .Assign [sk JW 1 []] (.Call (.Name (PD (A9 (Br EX) 0)) (gP (A9 (Br EX) 0))) [A9 (Br EX) 1,A9 (Br EX) 2] [] (gP EX)) (sP JW):=by kernel_rfl
theorem Ab2:Expr.Name (PD (A9 (Br EX) 0)) (gP (A9 (Br EX) 0))=A9 (Br EX) 0:=by kernel_rfl
theorem Ab3:Gx= .If (.Compare (A9 (Br (sT Gx)) 0) [.NotEq] [A9 (Br (sT Gx)) 1] (gP (sT Gx))) (AO Gx) [] (sP Gx):=by kernel_rfl
theorem Ab4(p:Pos)(a:Env):backTo p (starEach [A9 (Br EX) 1,A9 (Br EX) 2] a)=[(false,eval (A9 (Br EX) 1) a),(false,eval (A9 (Br EX) 2) a)]:=by kernel_rfl
theorem Ab5(f cs cg:Nat):(Bv f cs cg).scope.kind≠ .module:=by
 have:(Bv f cs cg).scope.kind= .function:=by kernel_rfl
 rw[this];exact λh=>nomatch h
theorem Ab6(w:Aa):B6 λo a=>(kt w).get 302=some o∧o.data= .func a:=by
 have h:(match(kt w).get 302 with|some o=>(match o.data with| .func _=>true|_=>false)|none=>false)=true:=by kernel_rfl
 cases e:(kt w).get 302 with
 |none=>rw[e]at h;cases h
 |some o=>
  rw[e]at h;cases d:o.data <;> simp only[d]at h <;> first|exact⟨o,_,rfl,d⟩|cases h
theorem Ab7{M:Ae}{x y:Addr×Obj}(g:x∈M)(i:y∈M)(h:y≠x): ∃j,M.Perm (x::y::j):=by
 obtain⟨a,b,rfl⟩:=List.append_of_mem g;have c:(a++x::b).Perm (x::(a++b)):=EJ;have d:y∈a++b:=by
  rcases List.mem_cons.mp (c.mem_iff.mp i)with e|e
  ·exact absurd e h
  ·exact e
 obtain⟨k,m,e⟩:=List.append_of_mem d;exact⟨k++m,c.trans (by rw[e];exact List.perm_middle.cons x)⟩
section
variable {w:Aa}{B:Al}{f cs cg gt gn:Nat}{l:LV}{s:Ab}{M:Ae}{sl:Array (Option Value)}{Z:Nat→Nat}{v0 v1 v2 v3:Value}
theorem Ab8(d:B.handled=none)(g:B.depth≤440)(uB:B.units≤2000){e:TE}{b:Bool}{R:Ae}(S:An (kt w) s ([(f,CB w.2 sl l Z v0 v1 v2 v3 (cond b 2 0)),(e.T,CJ e)]++R)){Q:Unit→Ab→Prop}{E:Value→Ab→Prop}
  (h: ∀a i,Ag (kt w) s a ([(f,CB w.2 sl l Z v0 v1 v2 v3 (cond b 2 0)),(e.T,CJ e)]++R) ([(f,CB w.2 sl l i (.int e.c e.ct) (.str e.s e.st) (.ref e.fj) v3 (Gl b)),(e.T,CJ e)]++R)→Q () a):
  wpAny (model pw w) B (assign ((sT (lw 10))) (Bv f cs cg) (.ref e.T)) Q E s:=
 Cp (Aav w f cs cg l sl Z v0 v1 v2 v3 b e.T e.c e.ct e.st e.fj e.s) (λ_:Unit=>Flow.next) (Ai (Ai (Ai (Ai te5274324696313484632 f) cs) cg) e.T) d g uB AR Ar R (.refl _) S λj k m s1 c _ _=>h s1 _ c
theorem Ab9(m:B.handled=none)(n:B.depth≤440)(uB:B.units≤2000)(aa:B.frames=some [Bv f cs cg]){ch:Nat→Nat}{b:Bool}{y:List Value}{a F:List Int}(hx:AV y a)(C:Pp a (Ec ch 8) F){d:Nat}
  (S:An (kt w) s ([(f,CB w.2 sl l Z v0 (AH ch d) v2 v3 (Gl b)),(cg,As gt),(gt,li y gn)]++M)) {Q:Flow→Ab→Prop} {E:Value→Ab→Prop}
  (hQ: ∀s' j Z' g z A R T D G,AV D (F.filter λk=> !decide (k∈a))→AV G (F.filter λk=>decide (k∈a))→Ag (kt w) s s' ([(f,CB w.2 sl l Z v0 (AH ch d) v2 v3 (Gl b)),(cg,As gt),(gt,li y gn)]++M) ([(f,CB w.2 j l Z' v0 (AH ch d) v2 (.ref g) 2),(cg,As gt),(gt,li y gn)]++M++[(z,li D R),(A,li G T),(g,Da z A)])→Q .next s'):
  wpAny (model pw w) B (exec JW (Bv f cs cg)) Q E s:=by
 obtain⟨Y,rfl,H⟩:=Xs hx C.za;clear hx;rw[Ab1];refine wpAny_Assign_stores (wpAny_Call_Name_kw ?_) (by kernel_rfl) (by kernel_rfl);rw[Ab2];refine Hk (Aar w f cs cg) (Ai (Ai (Ai te11209589962911415932 f) cs) cg) m n uB AR Ar _ (.refl _) S λI U J s1 c=> ?_;rw[Ab4];obtain⟨o,fd,ho,hd⟩:=Ab6 w;refine Calls.callWith_function (o:=o) (fd:=fd) (Calls.evalArgs_plain (Calls.spliced_cons ?_));refine Hk (Aax w f cs cg l sl Z v0 v2 v3 b d ch) (Ai (Ai (Ai te7115438052792442022 f) cs) cg) m n uB (Az _ _ (Ah (λ_ _ _=>uV) Ay)) Ar _ (.refl _) c.sat λI U J s2 N=> ?_;replace c:=c.trans N;clear N;obtain⟨X,eX,K⟩:=Xs (JJ (Ec ch 8) λi=>Ao ((List.range 11).map J) (3+i)) C.zG;rw[eX]at c;clear eX;generalize I 0=g1 at c;refine Calls.spliced_cons (Hk (Aas w f cs cg gt) (Ai (Ai (Ai te17999581269091546004 f) cs) cg) m n uB AR Ar _ (EJ (l₁:=[_,_])).symm c.sat λI U J s3 O=> ?_);replace c:=(c.trans O).permR (L'':=[(g1,li (vl X) (Ec ch 8).length),AK gt Y gn,(f,CB w.2 sl l Z v0 (AH ch d) v2 v3 (Gl b))]++((cg,As gt)::M)) (AM [M] [_,_,_,_] [7,5,1,3,2] [1,3,5,7,2]);clear O;refine Calls.spliced_nil ⟨⟨c.sat.old 302 o ho,hd⟩,wpAny_call ?_⟩;have t:X.length=(Ec ch 8).length:=by rw[←K,Xx]
 have u:Y.length=a.length:=by rw[←H,Xx]
 have P:X≠[]→Y≠[]:=λh e=>C.hG (λe=>h (Ps (t.trans (Am Ir e)))) (Ps (u.symm.trans (Am Ir e)));refine B5 (Abs (o:=CB w.2 ⟨[]⟩ l Z v0 (AH ch d) v2 v3 (Gl b)) m (AC n (by decide)) (AC uB (by decide)) aa (Ab5 f cs cg) rfl rfl (t▸C.lG) (u▸C.la) (Xw (K▸C.sG)) (Xw (H▸C.sa)) P s3 c.sat.left) λr s4 hz=> ?_;obtain⟨L',ts,⟨h1,j,z,A,g,R,T,h2,h3⟩,v,ri⟩:=hz;rw[h3]at v;rw[h2];replace c:=c.trans (Ag.part ((cg,As gt)::M) c.sat (.refl _) v);clear v h1 h2 h3 ri P;have L:=Abz (X.length+Y.length) X Y;rw[K,H,t,u]at L;rw[t,u]at c;have V:=Sl (Ch ((Ec ch 8).length+a.length) X Y).1;have W:=Sl (Ch ((Ec ch 8).length+a.length) X Y).2;rw[←show _=zI _ from Am Prod.fst L,C.e1]at V;rw[←show _=zI _ from Am Prod.snd L,C.e2]at W;generalize vl (Ch ((Ec ch 8).length+a.length) X Y).1=D at c V;generalize vl (Ch ((Ec ch 8).length+a.length) X Y).2=G at c W;clear L t u K H C;refine Cp (Aaw w f cs cg l j Z v0 (AH ch d) v2 v3 b g) (λ_:Unit=>Flow.next) (Ai (Ai (Ai (Ai te15463470008193624773 f) cs) cg) g) m n uB AR Ar _ (EJ (l₁:=[_,_])).symm c.sat λI U J s5 ac _ _=>hQ s5 j _ g z A R T D G V W (((c.trans ac).permR (AM [M] [_,_,_,_,_,_,_] [1,13,5,7,9,11,3,2] [0,11,0,6,0,3,1,3,5,2,7,9,11,13])).subs (EY _ _))
end
end
noncomputable def Ld(a:List Int):Bool:=decide (a.length%2=1)
noncomputable def Ds(a:List Int):Nat:=(a.map Int.toNat).foldl Nat.xor 0
noncomputable def AN(a:List Int):List (List Int):=I5 (Ld a) (Ds a)
noncomputable def Dj(a F:List Int):List Int:=DP a F 8
noncomputable def Nr(a F G:List Int):Bool:=KY (8-F.length) (BY (Dj a F)) (8-G.length) (BY (Dj a G))
noncomputable def Xy(a:List Int)(j:Nat):List Nat→List Nat
 |[]=>[j]
 |k::l=>if Nr a ((AN a).getD j []) ((AN a).getD k [])then j::k::l else k::Xy a j l
noncomputable def CK(a:List Int):List Nat:=(List.range (AN a).length).foldr (λj l=>Xy a j l) []
noncomputable def DB(a:List Int):List Nat:=(CK a).map λj=>ED.idxOf (Dj a ((AN a).getD j []))
noncomputable def CY(a:List Int)(i:Nat):List Int:=(AN a).getD ((CK a).getD i 0) []
noncomputable def Sm(h:Nat)(f:Nat→Nat→Bool):Bool:=(List.range h).all λj=>(List.range j).all λi=>f i j
noncomputable def Xz(a:List Int):Bool:=
 let F:=AN a;let h:=F.length;let o:=CK a;let b:=DB a
 (if Ld a then h==8 else if Ds a==0 then h==1 else h==4)&&decide (Ds a<8)&&o.isPerm (List.range h)&&b.all (λc=>decide (c<16))&&a.all (λk=>decide (0≤k)&&decide (k<8))
 &&(List.range h).all (λi=>ED.getD (b.getD i 0) []==Dj a (CY a i)&&cnt (chOf (ED.getD (b.getD i 0) [])) (chOf a) 8==8-(CY a i).length)
 &&(List.range 16).all (λc=>decide (5≤cnt (chOf (ED.getD c [])) (chOf a) 8)==b.contains c)
 &&Sm h (λi j=>Nr a (CY a i) (CY a j)&& !Nr a (CY a j) (CY a i)&& !(BY (Dj a (CY a i))==BY (Dj a (CY a j)))&& !(b.getD i 0==b.getD j 0))
noncomputable def srt(l:List Int):Bool:=match l with
 |[]=>true
 |[_]=>true
 |x::y::l=>decide (x<y)&&srt (y::l)
noncomputable def XA(a G F:List Int):Bool:=
 (Fk (G.length+a.length) G a).1==F.filter (λk=> !decide (k∈a))&&(Fk (G.length+a.length) G a).2==F.filter (λk=>decide (k∈a))&&srt G&&srt a&&(G.isEmpty|| !a.isEmpty)&&G.all (λk=>decide (0≤k))&&a.all (λk=>decide (0≤k))&&decide (G.length≤40)&&decide (a.length≤40)&&decide (F.length≤900)
noncomputable def Aca(a:List Int):Bool:=(AN a).all λF=>XA a (Ec (chOf (Dj a F)) 8) F
noncomputable def Sn(a b c d e g h j:Bool):List Int:=Bz (λi=>[a,b,c,d,e,g,h,j].getD i false) 8
theorem Acb: ∀a b c d e g h i:Bool,Xz (Sn a b c d e g h i)=true:=by decide+kernel
theorem Acc: ∀a b c d e g h i:Bool,Aca (Sn a b c d e g h i)=true:=by decide+kernel
theorem XB(p:Nat→Bool):Bz p 8=Sn (p 0) (p 1) (p 2) (p 3) (p 4) (p 5) (p 6) (p 7):=rfl
structure Ef(a:List Int):Prop where
 hF:if Ld a=true then(AN a).length=8 else if Ds a=0 then(AN a).length=1 else(AN a).length=4
 v8:Ds a<8
 perm:(CK a).Perm (List.range (AN a).length)
 blt: ∀c∈DB a,c<16
 a8: ∀k∈a,0≤k∧k<8
 word: ∀i,i<(AN a).length→ED.getD ((DB a).getD i 0) []=Dj a (CY a i)∧cnt (chOf (ED.getD ((DB a).getD i 0) [])) (chOf a) 8=8-(CY a i).length
 hit: ∀c,c<16→(5≤cnt (chOf (ED.getD c [])) (chOf a) 8↔c∈DB a)
 ord: ∀i j,i<j→j<(AN a).length→Nr a (CY a i) (CY a j)=true∧Nr a (CY a j) (CY a i)=false∧BY (Dj a (CY a i))≠BY (Dj a (CY a j))∧(DB a).getD i 0≠(DB a).getD j 0
theorem Acd{h:Nat}{f:Nat→Nat→Bool}(e:Sm h f=true): ∀i j,i<j→j<h→f i j=true:=by
 unfold Sm at e;intro i j a b;exact List.all_eq_true.mp (List.all_eq_true.mp e j (List.mem_range.mpr b)) i (List.mem_range.mpr a)
theorem XC(p:Nat→Bool):Ef (Bz p 8):=by
 have e:=Acb (p 0) (p 1) (p 2) (p 3) (p 4) (p 5) (p 6) (p 7);rw[←XB]at e;generalize Bz p 8=a at e;unfold Xz at e;dsimp only at e;simp only[Fn]at e;obtain⟨⟨⟨⟨⟨⟨⟨b,o⟩,r⟩,s⟩,t⟩,u⟩,v⟩,w⟩:=e;refine⟨?_,of_decide_eq_true o,List.isPerm_iff.mp r,λc g=>of_decide_eq_true (List.all_eq_true.mp s c g),λk y=> ?_,λi l=> ?_,λc g=> ?_,λi j l z=> ?_⟩
 ·by_cases h:Ld a=true
  ·rw[AS h]at b⊢;exact eq_of_beq b
  ·rw[AI h]at b⊢
   by_cases d:Ds a=0
   ·rw[AS d,AS (by simp[d])]at*;exact eq_of_beq b
   ·rw[AI d];rw[AI (by simp[d])]at b;exact eq_of_beq b
 ·have:=List.all_eq_true.mp t k y
  simp only[Fn,decide_eq_true_eq]at this;exact this
 ·have:=List.all_eq_true.mp u i (List.mem_range.mpr l)
  simp only[Fn]at this;exact⟨eq_of_beq this.1,eq_of_beq this.2⟩
 ·have:=eq_of_beq (List.all_eq_true.mp v c (List.mem_range.mpr g))
  rw[←decide_eq_true_iff (p:=5≤cnt (chOf (ED.getD c [])) (chOf a) 8),this,List.contains_iff_mem]
 ·have:=Acd w i j l z
  simp only[Fn,Lm]at this;obtain⟨⟨⟨A,d⟩,m⟩,n⟩:=this;exact⟨A,d,λq=>by rw[q]at m;simp at m,λq=>by rw[q]at n;simp at n⟩
theorem So: ∀l:List Int,srt l=true→l.Pairwise (· < ·)
 |[],_=>.nil
 |[_],_=>List.pairwise_singleton ..
 |x::y::l,h=>by
  unfold srt at h;simp only[Fn,decide_eq_true_eq]at h;have a:=So (y::l) h.2;refine List.pairwise_cons.mpr ⟨λz hz=> ?_,a⟩;rcases List.mem_cons.mp hz with rfl|hz
  ·exact h.1
  ·exact Int.lt_trans h.1 ((List.pairwise_cons.mp a).1 z hz)
theorem Ace(p:Nat→Bool): ∀F∈AN (Bz p 8),Pp (Bz p 8) (Ec (chOf (Dj (Bz p 8) F)) 8) F:=by
 have e:=Acc (p 0) (p 1) (p 2) (p 3) (p 4) (p 5) (p 6) (p 7);rw[←XB]at e;generalize Bz p 8=a at e;intro F g;have e:=List.all_eq_true.mp e F g;unfold XA at e;simp only[Fn,decide_eq_true_eq,Bool.or_eq_true]at e;obtain⟨⟨⟨⟨⟨⟨⟨⟨⟨i,j⟩,l⟩,m⟩,b⟩,n⟩,o⟩,r⟩,s⟩,d⟩:=e;refine⟨eq_of_beq i,eq_of_beq j,So _ l,So _ m,λh=> ?_,λk c=>of_decide_eq_true (List.all_eq_true.mp n k c),λk c=>of_decide_eq_true (List.all_eq_true.mp o k c),r,s,d⟩;rcases b with b|b
 ·exact absurd (List.isEmpty_iff.mp b) h
 ·exact λq=>by rw[q]at b;simp at b
theorem XD(a b:Nat→Nat): ∀n,cnt a b n≤n
 |0=>A8 _
 |n+1=>by
  have:=XD a b n;refine (?_:cnt a b n+(if a n=b n then 1 else 0)≤n+1)
  split <;> (first|lia|omega)
theorem Acf: ∀k,k<9→IV (Bl k)=decide (5≤k):=by decide+kernel
theorem Acg(A:Nat→Nat→Nat)(b:Nat→Nat)(i:Nat):ME A b i=decide (5≤cnt (A i) b 8):=Acf _ (Gb (XD _ _ 8))
theorem Ach{l:List Nat}{a:Nat→Nat}{h:Nat}(v:l.Nodup)(z:((List.range h).map a).Nodup)(w: ∀x,x∈l↔x∈(List.range h).map a):B6 λt E=>IX h t E∧l=(List.range h).map λj=>a (t j):=by
 have F:=(Nu v z).mpr w;have G:l.length=h:=by have:=F.length_eq;simpa using this
 have u: ∀j (b:j<h),((List.range h).map a)[j]'(by simpa using b)=a j:=λj b=>by (first|((repeat(first|exact .head _|apply List.mem_cons_of_mem));done)|simp)
 have y: ∀j,j<h→((List.range h).map a).idxOf (a j)=j:=λj b=>by
  have:=z.idxOf_getElem j (by simpa using b);rwa[u j b]at this
 have o: ∀j (b:j<h),((List.range h).map a).idxOf (l.getD j 0)<h∧a (((List.range h).map a).idxOf (l.getD j 0))=l.getD j 0:=λj b=>by
  have c:j<l.length:=by (first|lia|omega)
  have e:l.getD j 0=l[j]:=by simp[List.getD,c]
  have d:l[j]∈(List.range h).map a:=(w _).mp (Db c);have g:=List.idxOf_lt_length_iff.mpr d;rw[e];refine⟨by simpa using g,?_⟩;have A:((List.range h).map a).idxOf l[j]<h:=by simpa using g
  rw[←u _ A];exact List.getElem_idxOf g
 have r: ∀k,k<h→l.idxOf (a k)<h∧l.getD (l.idxOf (a k)) 0=a k:=λk m=>by
  have d:a k∈l:=(w _).mpr (B7 (List.mem_range.mpr m));have g:=List.idxOf_lt_length_iff.mpr d;refine⟨by (first|lia|omega),?_⟩;have:l.getD (l.idxOf (a k)) 0=l[l.idxOf (a k)]'g:=by simp[List.getD,g]
  rw[this];exact List.getElem_idxOf g
 refine⟨λj=>((List.range h).map a).idxOf (l.getD j 0),λk=>l.idxOf (a k),⟨λj b=>(o j b).1,λj b=> ?_,λk m=> ?_,?_⟩,?_⟩
 ·refine (?_:l.idxOf (a _)=j)
  rw[(o j b).2];have c:j<l.length:=by (first|lia|omega)
  have e:l.getD j 0=l[j]:=by simp[List.getD,c]
  rw[e];exact v.idxOf_getElem j c
 ·show((List.range h).map a).idxOf (l.getD _ 0)=k
  rw[(r k m).2,y k m]
 ·have B: ∀i,i<h→ ∀j,j<h→l.idxOf (a i)=l.idxOf (a j)→i=j:=λi s j b e=>by
   have C:=(r i s).2;rw[e,(r j b).2]at C;have:=y i s;rw[←C,y j b]at this;exact this.symm
  refine(Nu ?_ J5).mpr λx=> ?_
  ·rw[GC,GE]
   refine(List.nodup_iff_pairwise_ne.mp (J5 (n:=h))).imp_of_mem λ {i j} s b H e=>H (B i (List.mem_range.mp s) j (List.mem_range.mp b) e)
  ·rw[List.mem_map,List.mem_range]
   constructor
   ·rintro⟨k,m,rfl⟩
    exact(r k (List.mem_range.mp m)).1
   ·intro D
    refine⟨_,List.mem_range.mpr (o x D).1,?_⟩;rw[(o x D).2];have c:x<l.length:=by (first|lia|omega)
    have e:l.getD x 0=l[x]:=by simp[List.getD,c]
    rw[e];exact v.idxOf_getElem x c
 ·refine Ho (by simpa using G) λj I J=> ?_
  have b:j<h:=by (first|lia|omega)
  rw[J6,List.getElem_range];rw[(o j b).2];simp[List.getD,I]
section
noncomputable def F8(a:List Int)(b k:Nat):Nat:=((DB a).getD k 0+16-b)%16
theorem Sq: ∀b,b<16→ ∀x,x<16→((x+16-b)%16+b)%16=x:=by decide+kernel
theorem Sr: ∀b,b<16→ ∀x,x<16→((x+b)%16+16-b)%16=x:=by decide+kernel
theorem Aci{Y:List TE}(d:Y.Pairwise λx y=>I6 x y=true∧I6 y x=false∧x.s≠y.s): ∃f,Na Y f:=by
 classical
 have m:Y.Nodup:=d.imp λh e=>h.2.2 (by rw[e]);have g: ∀i (b:i<Y.length),Y.idxOf Y[i]=i:=λi b=>m.idxOf_getElem i b;refine⟨λe=>Y.length-Y.idxOf e,?_,λx n y o k=> ?_⟩
 ·rw[F9]
  intro i j b c l;rw[g i b,g j c];exact Jd b l
 ·obtain⟨i,b,rfl⟩:=Ga n
  obtain⟨j,c,rfl⟩:=Ga o;rw[g i b,g j c]at k⊢;rw[F9]at d;rcases Jf i j with h|h|h
  ·have:=d i j b c h
   exact⟨this.2.2,by rw[this.2.1,BH (Jj (Nat.sub_le_sub_left (Bw h) _))]⟩
  ·subst h;exact absurd rfl k
  ·have:=d j i c b h
   exact⟨λe=>this.2.2 e.symm,by rw[this.1,CD (Jd c h)]⟩
section
variable {a:List Int}(K:Ef a)
include K
theorem Ef.h3:(AN a).length=1∨(AN a).length=4∨(AN a).length=8:=by
 have:=K.hF
 split at this
 ·exact .inr (.inr this)
 ·split at this
  ·exact .inl this
  ·exact .inr (.inl this)
theorem Ef.ol:(CK a).length=(AN a).length:=by have:=K.perm.length_eq;simpa using this
theorem Ef.bl:(DB a).length=(AN a).length:=by rw[←K.ol];simp[DB]
theorem Ef.b16{k:Nat}(b:k<(AN a).length):(DB a).getD k 0<16:=by
 have l:k<(DB a).length:=by rw[K.bl];exact b
 have:(DB a).getD k 0=(DB a)[k]:=by simp[List.getD,l]
 rw[this];exact K.blt _ (Db l)
theorem Ef.rot{b k:Nat}(c:b<16)(d:k<(AN a).length):Cz b (F8 a b k)=chOf (ED.getD ((DB a).getD k 0) []):=by
 have:=K.b16 d;unfold Cz F8;rw[Sq b c _ this]
theorem Ef.text{b k:Nat}(d:b<16)(c:k<(AN a).length):sf (Cz b (F8 a b k))=BY (Dj a (CY a k)):=by
 rw[K.rot d c,(K.word k c).1];rfl
theorem Ef.best{e:Nat}(c:e<16):RI (Cz e) (chOf a) (F8 a e) (AN a).length:=by
 refine⟨λk h=>GJ _ (by decide),λi j d b=> ?_⟩;have g:i<(AN a).length:=by (first|lia|omega)
 rw[K.text c g,K.text c b,K.rot c g,K.rot c b,(K.word i g).2,(K.word j b).2];exact⟨(K.ord i j d b).1,(K.ord i j d b).2.1⟩
theorem Ef.ranked{b:Nat}(r:b<16):B6 λm s=>Rk (Cz b) (chOf a) 16 (AN a).length (F8 a b) m s:=by
 have v: ∀i,i<(AN a).length→ ∀j,j<(AN a).length→i≠j→(DB a).getD i 0≠(DB a).getD j 0:=λi d j g t=>by
  rcases Nat.lt_or_gt_of_ne t with h|h
  ·exact(K.ord i j h g).2.2.2
  ·exact λe=>(K.ord j i h d).2.2.2 e.symm
 have w:((List.range (AN a).length).map (F8 a b)).Nodup:=by
  rw[GC,GE];refine(List.nodup_iff_pairwise_ne.mp (J5 (n:=(AN a).length))).imp_of_mem λ {i j} d g t e=> ?_;have d:=List.mem_range.mp d;have g:=List.mem_range.mp g;have y:=K.b16 d;have A:=K.b16 g;unfold F8 at e;exact v i d j g t (Sq b r _ y▸Sq b r _ A▸Am (λz=>(z+b)%16) e)
 have B:(hits (Cz b) (chOf a) 16).Nodup:=List.Nodup.sublist List.filter_sublist J5;have C: ∀x,x∈hits (Cz b) (chOf a) 16↔x∈(List.range (AN a).length).map (F8 a b):=λx=>by
  unfold hits;rw[List.mem_filter,List.mem_range,Acg,decide_eq_true_eq,List.mem_map];constructor
  ·rintro⟨D,E⟩
   have:=(K.hit ((x+b)%16) (GJ _ (by decide))).mp E;obtain⟨k,c,e⟩:=Ga this;have u:k<(AN a).length:=by rw[←K.bl];exact c
   refine⟨k,List.mem_range.mpr u,?_⟩;have F:(DB a).getD k 0=(x+b)%16:=by rw[←e];simp[List.getD,c]
   unfold F8;rw[F];exact Sr b r x D
  ·rintro⟨k,c,rfl⟩
   have c:=List.mem_range.mp c;refine⟨GJ _ (by decide),?_⟩;have l:k<(DB a).length:=by rw[K.bl];exact c
   have e:(DB a).getD k 0=(DB a)[k]:=by simp[List.getD,l]
   rw[K.rot r c];exact(K.hit _ (K.b16 c)).mpr (by rw[e];exact Db l)
 obtain⟨m,s,o,e⟩:=Ach B w C;exact⟨m,s,o,e⟩
theorem Ef.oat{i:Nat}(b:i<(AN a).length): ∃h:i<(CK a).length,(CK a)[i]<(AN a).length∧CY a i=(AN a).getD (CK a)[i] []:=by
 have l:i<(CK a).length:=by rw[K.ol];exact b
 refine⟨l,List.mem_range.mp (K.perm.mem_iff.mp (Db l)),?_⟩;unfold CY;rw[show(CK a).getD i 0=(CK a)[i] by simp[List.getD,l]]
theorem Ef.dnt{X:List TE}(g: ∀j,j<(AN a).length→(X.getD j tz).c=8-((AN a).getD j []).length∧(X.getD j tz).s=BY (Dj a ((AN a).getD j []))): ∃f,Na ((CK a).map λj=>X.getD j tz) f:=by
 refine Aci ?_;rw[F9];intro i j l m h;have k:i<(AN a).length:=by rw[←K.ol];simpa using l
 have b:j<(AN a).length:=by rw[←K.ol];simpa using m
 obtain⟨li,n,o⟩:=K.oat k;obtain⟨u,r,t⟩:=K.oat b;rw[J6,J6];have d:=g _ n;have e:=g _ r;rw[←o]at d;rw[←t]at e;unfold I6;rw[d.1,d.2,e.1,e.2];have:=K.ord i j h b;exact⟨this.1,this.2.1,this.2.2.1⟩
end
end
section
theorem XE{kt:KT}{s:Ab}{L:Ae}(S:An kt s L){i j:Nat}(h:i<j){p q:Addr×Obj}(c:L[i]? =some p)(d:L[j]? =some q):p.1≠q.1:=by
 have b:=S.nd;rw[GC,GE]at b;obtain⟨e,g⟩:=List.getElem?_eq_some_iff.mp c;obtain⟨k,m⟩:=List.getElem?_eq_some_iff.mp d;have:=List.pairwise_iff_getElem.mp b i j e k h;rwa[g,m]at this
theorem Acj:lw 10= .For ((sT (lw 10))) (Ex (lw 10)) (AO (lw 10)) (Dv (lw 10)) (sP (lw 10)):=by kernel_rfl
theorem Ack:Dv (lw 10)=[]:=by kernel_rfl
theorem Acl(b:Env):exec (lw 10) b=(standAt (sP (lw 10))>>=λ_=>((eval (Ex (lw 10)) b>>=λv=>foldedSetIterable (Ex (lw 10)) b v>>=λx=>standAt (Ex (lw 10)).pos>>=λ_=>holding [x] (pyIter x))>>=λv=>runOwn (.forLoop ((sT (lw 10))) v (AO (lw 10)) (Dv (lw 10)) b) b)):=by
 rw[show exec (lw 10) b=exec (.For (sT (lw 10)) (Ex (lw 10)) (AO (lw 10)) (Dv (lw 10)) (sP (lw 10))) b from Am (λc=>exec c b) Acj,arm_exec_For];simp only[bind_assoc]
theorem Acm:sT (lw 10)= .Tuple (Br ((sT (lw 10)))) (tK ((sT (lw 10)))) (gP ((sT (lw 10)))):=by kernel_rfl
theorem Acn{w:Aa}{B:Al}{s:Ab}{t:Expr}{d:List Expr}{k:Nat}{p:Pos}{b c i v:Nat}(e:t= .Tuple d k p)(h:s.heap.get? b=some (liO c i)){Q:Unit→Ab→Prop}{E:Value→Ab→Prop}(g:Q () s):wpAny (model pw w) B (letOwnedTupleGo t (.ref b) (.ref v)) Q E s:=by
 rw[e];unfold letOwnedTupleGo;dsimp only;refine Af (Jo h ?_);dsimp only;rw[show((⟨[Value.ref c,.int i 0]⟩:Array Value)[0]? ==some (rawInt v))=false from rfl,Bool.and_false,AI (by decide)];exact Ap g
section
variable {w:Aa}{B:Al}{f cs cg gt gn:Nat}{l:LV}{s:Ab}{M:Ae}{sl:Array (Option Value)}{Z:Nat→Nat}{v0 v1:Value}{fj ma ua tu1 nm nu fk:Nat}{xs ys us vs:List Value}{a F:List Int}
theorem XF(uB:B.units≤2000)(g:AV ys F)(z:AV us (F.filter λk=> !decide (k∈a)))(C:AV vs (F.filter λk=>decide (k∈a))){n o r t:Addr×Obj}{c d e u v:Nat}
  (S:An (kt w) s ([n,o,r,t,(c,li (ys.filter (pk 0 a)) u),(d,li (ys.filter (pk 1 a)) v),(e,Da c d)]++([(ma,li us nm),(ua,li vs nu),(tu1,Da ma ua)]++M))):RcNeAt B s (.ref tu1) (.ref e) false:=by
 have b: ∀(i:Nat) {p:Addr×Obj},([n,o,r,t,(c,li (ys.filter (pk 0 a)) u),(d,li (ys.filter (pk 1 a)) v),(e,Da c d)]++([(ma,li us nm),(ua,li vs nu),(tu1,Da ma ua)]++M))[i]? =some p→s.heap.get? p.1=some p.2:=λi p h=>S.mem p (List.mem_of_getElem? h);have D:=XE S (i:=4) (j:=7) (by decide) rfl rfl;have E:=XE S (i:=5) (j:=8) (by decide) rfl rfl;have y:B.in1.units<cLine:=CQ (CC uB 1) (by decide);have G:=EqAt.of_refs D.symm (Sk (A:=B.in1) (b 7 rfl) (b 4 rfl) y (Xv z (Xu (m:=0) (a:=a) g)));have H:=EqAt.of_refs E.symm (Sk (A:=B.in1) (b 8 rfl) (b 5 rfl) y (Xv C (Xu (m:=1) (a:=a) g)));refine Abu (b 9 rfl) (b 6 rfl) (CQ uB (by decide)) ⟨rfl,λj I J=> ?_⟩
 match j,I with
 |0,_=>exact G
 |1,_=>exact H
theorem Aco(t:B.handled=none)(u:B.depth≤440)(uB:B.units≤2000)(r:AV xs a)(o:AV ys F)(K:F.length≤900)(v:AV us (F.filter λk=> !decide (k∈a)))(y:AV vs (F.filter λk=>decide (k∈a)))
  (S:An (kt w) s ([(f,CB w.2 sl l Z v0 v1 (.ref fj) (.ref tu1) 2),(cg,As gt),(gt,li xs gn),(fj,li ys fk)]++([(ma,li us nm),(ua,li vs nu),(tu1,Da ma ua)]++M))) {Q:Flow→Ab→Prop} {E:Value→Ab→Prop}
  (z: ∀A,Ag (kt w) s A ([(f,CB w.2 sl l Z v0 v1 (.ref fj) (.ref tu1) 2),(cg,As gt),(gt,li xs gn),(fj,li ys fk)]++([(ma,li us nm),(ua,li vs nu),(tu1,Da ma ua)]++M)) ([(f,CB w.2 sl l Z v0 v1 (.ref fj) (.ref tu1) 2),(cg,As gt),(gt,li xs gn),(fj,li ys fk)]++M)→Q .next A):
  wpAny (model pw w) B (exec Gx (Bv f cs cg)) Q E s:=by
 refine Xr Ab3 (by rfl) (Hk (Aay w f cs cg l sl Z v0 v1 (.ref fj) (.ref tu1)) (Ai (Ai (Ai te1689745043323611982 f) cs) cg) t u uB AR Ar _ (.refl _) S λC D G s1 n=> ?_);have H: ∀{a b c d e f g h i j:Addr×Obj},([a,b,c,d]++M).Sublist ([a,b,c,d,e,f,g]++([h,i,j]++M)):=λ {a b c d e f g h i j}=>(Nx [e,f,g,h,i,j] M).append_left [a,b,c,d];cases ys with
 |nil=>exact Hk (Aaz w f cs cg l sl Z v0 v1 (.ref tu1) gt gn fj fk xs a) (Ai (Ai (Ai te9533652250162126650 f) cs) cg) t u uB (Az _ _ (Ah (λ_ _ _=>W7 (by decide) r) (Ah (λ_ _ _=>W7 (by decide) r) Ay))) Ar _ (.refl _) n.sat λC D G s2 m=>⟨XF uB o v y m.sat,z s2 ((n.trans m).subs H)⟩
 |cons I ys=>
  have J:(I::ys).length≤900:=(G1 o).symm▸K;exact Hk (Aa0 w f cs cg l sl Z v0 v1 (.ref tu1) gt gn fj fk xs a (I::ys)) (Ai (Ai (Ai te9533652250162126650 f) cs) cg) t u uB (Az _ _ (Ah (λ_ _ _=>W8 (by decide) r o J (Ji _)) (Ah (λ_ _ _=>W8 (by decide) r o J (Ji _)) Ay))) Ar _ (.refl _) n.sat λC D G s2 m=>⟨XF uB o v y m.sat,z s2 ((n.trans m).subs H)⟩
end
end
section
section
variable {w:Aa}{B:Al}{f cs cg gt gn:Nat}{l:LV}{s:Ab}{M:Ae}
noncomputable def Pq(M:Ae)(a:List Int)(e:TE):Prop:=(e.T,CJ e)∈M∧Kc λch F b c=>e.s=sf ch∧(e.fj,li b c)∈M∧AV b F∧Pp a (Ec ch 8) F
theorem Acp{a b:List Value}{n k:Nat}:li b k≠tu a n:=λe=>by
 have:=Am Obj.cls e;rw[BX,JF]at this;exact absurd (show "list"="tuple" from Value.type.inj this) (by decide)
theorem Acq(k:B.handled=none)(m:B.depth≤440)(uB:B.units≤2000)(u:B.frames=some [Bv f cs cg]){v:Array BN}{e:TE}{Z:Nat→Nat}{y z A v3:Value}{b:Bool}{d:List Value}{a:List Int}(h:AV d a)(U:Pq M a e)
  (S:An (kt w) s ([(f,CB w.2 v l Z y z A v3 (cond b 2 0)),(cg,As gt),(gt,li d gn)]++M)) {Q:Flow→Ab→Prop} {E:Value→Ab→Prop}
  (V: ∀D g G H I J K,Ag (kt w) s D ([(f,CB w.2 v l Z y z A v3 (cond b 2 0)),(cg,As gt),(gt,li d gn)]++M) ([(f,CB w.2 g l G H I J K 2),(cg,As gt),(gt,li d gn)]++M)→Q .next D):
  wpAny (model pw w) B (assign ((sT (lw 10))) (Bv f cs cg) (.ref e.T)>>=λ_=>execs (AO (lw 10)) (Bv f cs cg)) Q E s:=by
 obtain⟨W,ch,F,L,N,X,Y,hy,C⟩:=U;obtain⟨n,r⟩:=Ab7 W Y (λe=>Acp (Prod.mk.inj e).2);have t: ∀o:Addr×Obj,([o,(cg,As gt),(gt,li d gn)]++M).Perm ([o,(e.T,CJ e)]++((cg,As gt)::(gt,li d gn)::(e.fj,li L N)::n)):=λo=>(r.append_left [_,_,_]).trans ((EJ (l₁:=[_,_])).cons o);refine Af (Ab8 k m uB (S.perm (t _)) λs1 G c=> ?_);replace c:=(c.permL (t _).symm).permR ((t _).symm.trans (r.append_left [_,_,_]));rw[X]at c;rw[Ab0];refine CX (Ab9 k m uB u h C c.sat λs2 g O i P R nm nu us vs i1 i2 j=> ?_);replace c:=(c.trans j).permR (L'':=[(f,CB w.2 g l O (.int e.c e.ct) (.str (sf ch) e.st) (.ref e.fj) (.ref i) 2),(cg,As gt),(gt,li d gn),(e.fj,li L N)]++([(P,li us nm),(R,li vs nu),(i,Da P R)]++((e.T,CJ e)::n))) (AM [n] [_,_,_,_,_,_,_,_] [1,3,5,7,9,0,1,2,11,13,15] [1,3,5,9,11,13,15,7,2]);clear j;refine CX (Aco k m uB h hy C.lF i1 i2 c.sat λs3 T=>Ap ?_);exact V s3 g O _ _ _ _ ((c.trans T).permR (((List.Perm.swap _ _ _).append_left [_,_,_]).trans (r.symm.append_left [_,_,_])))
noncomputable abbrev XG(f cs cg a:Nat):Code:=.forLoop ((sT (lw 10))) (.ref a) (AO (lw 10)) (Dv (lw 10)) (Bv f cs cg)
inductive lwP (w:Aa) (f cg gt gn:Nat) (l:LV) (M:Ae) (D:List TE) (it du dn:Nat) (xs:List Value) (r:Result) (L':Ae) (ts:List Nat):Prop
 |mk (hr:r= .ok .next) (sl':Array (Option Value)) (x:List DictEntry) (n:Nat) (oi:Obj) (hL:L'=[(it,oi),(du,li (AL D) dn)]++([(f,Cg w.2 sl' l x n),(cg,ce (some (.ref gt))),(gt,li xs gn)]++M))
theorem Acr(t:B.handled=none)(K:B.depth≤440)(uB:B.units≤2000)(y:B.frames=some [Bv f cs cg]){D:List TE}{d m A:Nat}{u:List Value}{a:List Int}(C:AV u a)(N: ∀e∈D,Pq M a e):
  ∀(k i:Nat),i+k=D.length→ ∀(n:Array BN) (Z:Nat→Nat) (g h j v3:Value) (b:Bool),
  RunsW w B (XG f cs cg d) ([(d,liO m i),(m,li (AL D) A)]++([(f,CB w.2 n l Z g h j v3 (cond b 2 0)),(cg,As gt),(gt,li u gn)]++M))
   (lwP w f cg gt gn l M D d m A u):=by
 have F:B.under (XG f cs cg d)=B:=Lh rfl;have u2:B.units<cLine:=CQ uB (by decide);intro k
 induction k with
 |zero=>
  intro i O n Z g h j v3 b s S;refine Hp ?_;rw[F];refine Fo (?_ :wpAny _ B (forTurn ((sT (lw 10))) (.ref d) (AO (lw 10)) (Dv (lw 10)) (Bv f cs cg)) _ _ s);unfold forTurn;refine Af (Du (Af (Fo (O1 t (by (first|lia|omega)) (by (first|lia|omega)) (by simp[AL];(first|lia|omega)) (.refl _) S λs1 c=> ?_))));refine Ap ⟨rfl,?_⟩;rw[Ack];exact codeAny_block (Ap ⟨_,[],⟨rfl,n,_,_,_,rfl⟩,c,c.toks⟩)
 |succ k P=>
  intro i O n Z g h j v3 b s S;have G:i<D.length:=by (first|lia|omega)
  refine Hp ?_;rw[F];refine Fo (?_ :wpAny _ B (forTurn ((sT (lw 10))) (.ref d) (AO (lw 10)) (Dv (lw 10)) (Bv f cs cg)) _ _ s);unfold forTurn;refine Af (Du (Af (Fo (MH t (by (first|lia|omega)) (by (first|lia|omega)) (v:=.ref D[i].T) (by simp[AL,G]) (.refl _) S λs1 c=> ?_))));refine Af (Acn Acm (c.sat.mem (d,liO m (i+1)) (.head _)) ?_);have H: ∀{a b:Addr×Obj} {L:Ae},([a,b]++L).Perm (L++[a,b]):=EF;replace c:=c.permR H;have key2: ∀{Q:AE→Ab→Prop} {E:Value→Ab→Prop} (k:Flow→Sem AE),wpAny (model pw w) B ((assign ((sT (lw 10))) (Bv f cs cg) (.ref D[i].T)>>=λ_=>execs (AO (lw 10)) (Bv f cs cg))>>=k) Q E s1→wpAny (model pw w) B (assign ((sT (lw 10))) (Bv f cs cg) (.ref D[i].T)>>=λ_=>execs (AO (lw 10)) (Bv f cs cg)>>=k) Q E s1:=λ {Q E} k z=>by rwa[bind_assoc]at z
  refine key2 _ (Af (Acq t K uB y C (N _ (Db G)) c.sat.left λs2 I Z g h j v3 J=> ?_));replace c:=(c.trans (Ag.part _ c.sat (AX _) J)).permR H.symm;refine Ap ⟨rfl,B5 (P (i+1) (by (first|lia|omega)) I Z g h j v3 true s2 c.sat) λr s3 hz=> ?_⟩;obtain⟨R,ts,⟨U,V,W,X,Y,a6⟩,o,ri⟩:=hz;exact⟨R,[],⟨U,V,W,X,Y,a6⟩,c.trans o,(c.trans o).toks⟩
theorem Acs(j:B.handled=none)(k:B.depth≤440)(uB:B.units≤2000)(m:B.frames=some [Bv f cs cg]){c:Array BN}{D:List TE}{d:Nat}{g:List Value}{a:List Int}(o:AV g a)(v: ∀e∈D,Pq M a e)
  (S:An (kt w) s ([(f,Cg w.2 c l [] 8),(l.du,li (AL D) d),(cg,As gt),(gt,li g gn)]++M)) {Q:Flow→Ab→Prop} {E:Value→Ab→Prop}
  (y: ∀t h x n,Ag (kt w) s t ([(f,Cg w.2 c l [] 8),(l.du,li (AL D) d),(cg,As gt),(gt,li g gn)]++M) ([(f,Cg w.2 h l x n),(l.du,li (AL D) d),(cg,As gt),(gt,li g gn)]++M)→Q .next t):
  wpAny (model pw w) B (exec (lw 10) (Bv f cs cg)) Q E s:=by
 rw[Acl];refine Af (Du (Af (Hk (Aaq w f cs cg l c (AL D) d) (Ai (Ai (Ai te1007703403832356925 f) cs) cg) j k uB AR Ar _ (.refl _) S λz I J s1 b=> ?_)));generalize z 0=u at b⊢;replace b:=b.permR (L'':=[(u,liO l.du 0),(l.du,li (AL D) d)]++([(f,Cg w.2 c l [] 8),(cg,As gt),(gt,li g gn)]++M)) (AM [M] [_,_,_,_,_] [5,3,1,7,9,2] [1,3,5,7,9,2]);refine wpAny_runOwn (B5 (Acr (B:=B.mark none) j k uB m o v D.length 0 (Hq _) c (λ_=>0) .none .none .none .none false s1 b.sat) λr s2 hz=> ?_);obtain⟨K,L,⟨A,h,C,F,G,H⟩,i,N⟩:=hz;rw[H]at i;rw[A];exact y s2 h C F (((b.trans i).permR (AM [M] [_,_,_,_,_] [9,3,1,5,7,2] [0,5,1,3,5,7,2,9])).subs (EY _ [(u,G)]))
end
end
section
theorem Act{w:Aa}{k:Nat}: ∀(cs:List (Nat×List Nat)) (a:List (List Nat→List Nat→List Obj→Ak)),(∀e∈a,∀d b g i,AY k i b→Av w (e d b g))→ ∀q∈AB cs a,∀d b g i,AY k i b→Av w (q.2 d b g):=by
 intro cs
 induction cs with
 |nil=>intro a _ q j;cases a <;> cases j
 |cons c cs m=>
  intro a h q j d b g i l;cases a with
  |nil=>cases j
  |cons e a=>
   rcases List.mem_cons.mp j with rfl|j
   ·exact h e Bj d b g i l
   ·exact m a (λf n=>h f (BB _ n)) q j d b g i l
theorem Ik{w:Aa}{g:Nat}{e:List Nat→List Nat→List Obj→Ak}{j:List (List Nat→List Nat→List Obj→Ak)}(h: ∀b a c d,AY g d a→Av w (e b a c))(t: ∀e∈j,∀b a c d,AY g d a→Av w (e b a c)): ∀f∈e::j,∀b a c d,AY g d a→Av w (f b a c):=λf i=>by
 rcases List.mem_cons.mp i with rfl|i
 ·exact h
 ·exact t f i
theorem Acu{w:Aa}{b:Nat}: ∀f∈([]:List (List Nat→List Nat→List Obj→Ak)),∀c a d e,AY b e a→Av w (f c a d):=λ_ h=>(nomatch h)
theorem Acv{w:Aa}{A:Al}{L:Ae}{H:List Nat}{E:List (Nat×(List Nat→List Nat→List Obj→Ak))}{W:List Wd}{d u n N:Nat}{D:List Nat}{en:Aw→Aw→AU→Dw}{G:Aw→Aw→AU→Ae}{o:Sem AE}{T:Type}{t:Sem T}
  (k:AG w n o L H E W d u D en G N) (g:T→Flow) (K:(t>>=λx=>pure (.done (g x)))=o) (M:A.handled=none) (O:A.depth≤d) (P:A.units≤u) {s:Ab} (X: ∀q∈E,∀j a l r,AY s.toks r a→Av w (q.2 j a l)) (Y: ∀q∈W,∀j a l,(q.2 j a l).1=(q.2 j a l).2)
  {v:Ae} (F:Ae) (I:(L++F).Perm v) (S:An (kt w) s v) {Q:T→Ab→Prop} {y:Value→Ab→Prop}
  (fi: ∀b c i m,Ag (kt w) s m v (G b c i++F)→Jb g Q y (en b c i) m) (C:BS D=true:=by rfl):wpAny (model pw w) A t Q y s:=by
 have z:=NW (R:=RQ g Q y) GL (GM pw w w) (FK pw w) (hS w) (H:=H) (E:=E) (W:=W) g K n M O P (λq U j a l r J=>(X q U j a l r J).frm) Y (S.part F I) λb c i=> ?_
 ·exact CE z (λx m h=>h x rfl) λe m h=>h
 ·have h:=Gf k b c i
  have V:=Am Prod.fst h;have Z:=Am (λx=>x.2.1) h;have h3:=Am (λx=>x.2.2.1) h;refine⟨V,λm st J _=> ?_⟩;have e1:(Hx w n b c i o L H E W d u).e=en b c i:=Z;rw[e1];exact Sf (fi b c i m (Ag.part F S I (st.pick h3 C)))
theorem XH(ns:List Int):Lt (chOf ns):=λi _=>by
 unfold chOf ch;cases decide ((i:Int)∈ns)
 ·exact .inr rfl
 ·exact .inl rfl
theorem Acw: ∀c,c<16→ ∀d,d<16→c≠d→BY (ED.getD c [])≠BY (ED.getD d []):=by decide+kernel
theorem Ss{a:List Nat}{x:Nat}(b:x<16):((a.drop 12).take 16).getD x 0=a.getD (12+x) 0:=by
 simp only[List.getD,List.getElem?_take_of_lt b,List.getElem?_drop]
theorem XI{i j a:Nat}(b:a<16)(c:i<16)(d:j<16)(g:i≠j):(i+a)%16≠(j+a)%16:=λe=>g (Sr a b i c▸Sr a b j d▸Am (λz=>(z+16-a)%16) e)
theorem Acx(x:Int): ∃a:Nat,x.fmod 16=(a:Int)∧a<16:=by
 have c:=Int.fmod_nonneg_of_pos x (b:=16) (by decide);have d:=Int.fmod_lt_of_pos x (b:=16) (by decide);exact⟨(x.fmod 16).toNat,by (first|lia|omega),by (first|lia|omega)⟩
theorem Acy{b l a:Nat}{d:List Nat}(e:AY l a d)(c:31≤d.length)(r:810≤l)(m:b<16):IW (Cz b) (Dh b ((d.drop 12).take 16)) 16:=by
 have n: ∀x,12+x%16<30:=λx=>Eh (Nat.add_lt_add_left (GJ x (by decide)) 12) (by decide);have o:=λx=>DC (n x) c;refine⟨by decide,λi _=>XH _,λi j a g k=>Acw _ (GJ _ (by decide)) _ (GJ _ (by decide)) (XI m a g k),λi a=> ?_,λi j a g k=> ?_⟩
 ·unfold Dh
  rw[Ss (GJ _ (by decide))];exact AC r (I3 e (n (i+b)) c).1
 ·unfold Dh
  rw[Ss (GJ _ (by decide)),Ss (GJ _ (by decide))];rcases Nat.lt_or_gt_of_ne (XI m a g k)with h|h
  ·exact CS (I3 e (Nat.add_lt_add_left h 12) (o _)).2
  ·exact EZ (I3 e (Nat.add_lt_add_left h 12) (o _)).2
theorem Su{T:List Nat}:(Co T).length=16:=rfl
theorem XJ{a:Nat}(b:a<16)(T:List Nat):(Co T).drop a++(Co T).take a=Ca (Cz a) (Dh a T) 16:=by
 revert a;exact@(GO 16 (by kernel_rfl))
theorem Acz{w:Aa}{d:Bool}{c n e t a:Nat}{A:Nat→Nat→Nat}{g b i:Nat→Nat}{h:Nat}(H:d=true→Av w (RM c n e t a A g b i h)):Av w (RY d c n e t a A g b i h):=by
 cases d with
 |false=>
  intro l m o k s S _;have j:=S.nd;have:((RY false c n e t a A g b i h).pre.map (·.1))=0::0::c::[248]:=rfl;rw[this]at j;exact absurd Bj (List.nodup_cons.mp j).1
 |true=>exact H rfl
section
variable {w:Aa}{B:Al}{f cs cg sc sn:Nat}{s:Ab}{xs:List Value}{ns:List Int}{p:Nat→Bool}
noncomputable def DU(a:List Int)(b c:Nat)(d:Nat→Nat):List Value:=((List.range (AN a).length).map λk=>.str (sf (Cz b (F8 a b k))) (d k)).take c
theorem Ac0(I:B.handled=none)(J:B.depth≤440)(uB:B.units≤2000)(j:AV xs ns)(X:ns.length≤63)(l:810≤s.toks){Y:Nat→List Value}{Z:Nat→Int}(H:RR xs Y Z p)
  (S:An (kt w) s [(f,fr [] 0),(cs,As sc),(cg,ce none),(sc,li xs sn),(248,AP [])]) {Q:Flow→Ab→Prop} {E:Value→Ab→Prop}
  (L: ∀m y b M a N n o r t u T O P v,a<16→1≤b→AV u (Bz p 8)→Ag (kt w) s m [(f,fr [] 0),(cs,As sc),(cg,ce none),(sc,li xs sn),(248,AP [])] [(f,EE w.2 y b M a N n o r [] 5),(cs,As sc),(cg,As t),(sc,li xs sn),(248,AP O),(t,li u (Bz p 8).length),(n,li (Co T) 16),(o,li (Ca (Cz a) (Dh a T) 16) 0),(r,li (DU (Bz p 8) a b P) v)]→Q .next m):
  wpAny (model pw w) B (execs [lw 0,lw 1,lw 2,lw 3,lw 4,lw 5] (Bv f cs cg)) Q E s:=by
 have K:=XC p;have xl:xs.length=ns.length:=G1 j;obtain⟨a,z,d⟩:=Acx ns.sum;obtain⟨W,ip,R⟩:=K.ranked d;have U:xs.length%9<9:=GJ _ (by decide);obtain⟨b,A⟩: ∃b,b=9-xs.length%9:=⟨_,rfl⟩
 have C:1≤b:=A▸Nat.sub_pos_of_lt U;have g: ∀T,(Co T).length≤1000:=λT=>by rw[Su];decide
 refine Acv (rU w f cs cg sc sn xs.length b a ns.sum xs p (F8 (Bz p 8) a) (AN (Bz p 8)).length) id (Ai (Ai (Ai te14873425280484609581 f) cs) cg) I J uB
  (Act _ _ (Ik (λ_ _ _ _ _=>pF H) (Ik (λ_ _ _ _ _=>DI rfl (by (first|lia|omega))) (Ik (λ_ _ _ _ _=>WL j rfl) (Ik (λ_ _ _ _ _=>oY) (Ik (λ_ _ _ _ _=>H4 (.int _ _) .none .none (by (first|((repeat(first|exact .head _|apply List.mem_cons_of_mem));done)|simp)) (g _) (by rw[slicePick_from'])) (Ik (λ_ _ _ _ _=>H4 .none (.int _ _) .none (by (first|((repeat(first|exact .head _|apply List.mem_cons_of_mem));done)|simp)) (g _) (by rw[slicePick_upto'])) (Ik (λ_ _ _ _ _=>WV (by simp[Su];(first|lia|omega)) (XJ d _)) (Ik (λ_ _ _ _ _=>OH (JJ _ _)) (Ik (λas ts gh hi D=>Acz λF=>oQ K.h3 (Acy D (Eg F) l d) (XH _) ?_ R (K.best d) C) Acu))))))))))
  (Bi _ _ (AA (λ_ _ _=> ?_) (AA (λ_ _ _=> ?_) (AA (λ_ _ _=> ?_) Bp)))) [] (by rw[BR] <;> exact .refl _) S λe c ω s1 h V G=> ?_
 ·exact AC l (RF D (k:=30) (Eg F))
 ·rw[Nw _ (by decide)];rfl
 ·rw[show((9:Int)-(xs.length%9:Nat))=(b:Int) by (first|lia|omega)]
 ·rw[z]
 ·obtain rfl:V= .next:=G
  rw[BR]at h;exact L s1 (λi=>[c 8,c 11,c 28,c 29,c 31].getD i 0) b (c 7) a (c 10) (e 4) (e 9) (e 10) (e 2) _ (KZ c) _ (λk=>Dh a (KZ c) (F8 (Bz p 8) a k)) _ d C (JJ _ _) h
end
end
section
theorem Ac1(b:Bool)(v:Nat): ∀F∈I5 b v,F.length≤8:=by
 intro F c;unfold I5 at c
 split at c
 ·rcases List.mem_cons.mp c with rfl|c
  ·exact(by decide:1≤8)
  ·obtain⟨i,_,c⟩:=List.mem_flatMap.mp c
   obtain⟨j,_,rfl⟩:=List.mem_map.mp c;exact(by decide:3≤8)
 ·split at c
  ·rcases List.mem_cons.mp c with rfl|c
   ·exact B8 _
   ·cases c
  ·obtain⟨k,_,rfl⟩:=List.mem_map.mp c
   exact(by decide:2≤8)
theorem Sv(a:List Int)(j:Nat):((AN a).getD j []).length≤8:=by
 by_cases h:j<(AN a).length
 ·rw[show(AN a).getD j []=(AN a)[j] by simp[List.getD,h]]
  exact Ac1 _ _ _ (Db h)
 ·rw[show(AN a).getD j []=[] by simp[List.getD,FG h]]
  exact B8 _
theorem Pr{h:Nat}{T b:Nat→Nat}{F:Nat→List Int}{a:List Int}{o:List Obj}:(CA h T b F a o).length=h:=by simp[CA]
theorem Ac2{h:Nat}{T b:Nat→Nat}{F:Nat→List Int}{a:List Int}{o:List Obj}{j:Nat}(c:j<h):(CA h T b F a o).getD j tz=⟨T j,8-(F j).length,Ao o (2+2*j),BY (DP a (F j) 8),Ao o (3+2*j),b j⟩:=by simp[CA,List.getD,c]
theorem Sw{X:List TE}{b:List Nat}{n:Nat}:(b.map λj=>Value.ref (X.getD j tz).T).take n=AL ((b.map λj=>X.getD j tz).take n):=by
 unfold AL;rw[List.map_take,B0];rfl
structure Nt(a:List Int)(X:List TE)(fa:Nat→Nat):Prop where
 len:X.length=(AN a).length
 at': ∀j,j<(AN a).length→(X.getD j tz).c=8-((AN a).getD j []).length∧(X.getD j tz).s=BY (Dj a ((AN a).getD j []))∧(X.getD j tz).fj=fa j
section
variable {w:Aa}{B:Al}{f cs cg sc gt gn:Nat}{s:Ab}{a:List Int}{gv:List Value}{R:Ae}{nw t0 tn t1 pl cd td:Nat}{y:Nat→Nat}
theorem Ac3(e:B.handled=none)(g:B.depth≤440)(uB:B.units≤2000)(K:Ef a)(h:AV gv a)
  (S:An (kt w) s ([(f,EE w.2 y nw t0 tn t1 pl cd td [] 5),(cs,As sc),(cg,As gt),(gt,li gv gn),(329,AP [])]++R)) {Q:Flow→Ab→Prop} {E:Value→Ab→Prop}
  (i: ∀c j l m,Ag (kt w) s c ([(f,EE w.2 y nw t0 tn t1 pl cd td [] 5),(cs,As sc),(cg,As gt),(gt,li gv gn),(329,AP [])]++R) ([(f,EE w.2 y nw t0 tn t1 pl cd td [Ad w Fr j (.int (Ds a) l)] 6),(cs,As sc),(cg,As gt),(gt,li gv gn),(329,AP m)]++R)→Q .next c):
  wpAny (model pw w) B (exec (lw 6) (Bv f cs cg)) Q E s:=by
 have ek:(a.map Int.toNat).map Int.ofNat=a:=by
  rw[B0];conv=>rhs;rw[←List.map_id a]
  exact DW λk b=>Int.toNat_of_nonneg (K.a8 k b).1
 have n: ∀k∈a.map Int.toNat,k<8:=λk b=>by
  obtain⟨z,hz,rfl⟩:=List.mem_map.mp b;have:=K.a8 z hz;(first|lia|omega)
 refine Cp (sF w f cs cg sc gt gn nw t0 tn t1 pl cd td (Ds a) y gv) id (Ai (Ai (Ai te9550894505775361806 f) cs) cg) e g uB (Az _ _ (Ah (λ_ _ _=>sE (ks:=a.map Int.toNat) (by rw[ek];exact h) n) Ay)) Ar R (.refl _) S λo r t s1 d=>Fi ?_;exact i s1 _ _ _ d
theorem Ac4(I:B.handled=none)(J:B.depth≤440)(uB:B.units≤2000)(K:Ef a)(F:AV gv a)(L:a.length≤8){u m:Nat}
  (S:An (kt w) s ([(f,EE w.2 y nw t0 tn t1 pl cd td [Ad w Fr u (.int (Ds a) m)] 6),(cs,As sc),(cg,As gt),(gt,li gv gn)]++R)) {Q:Flow→Ab→Prop} {E:Value→Ab→Prop}
  (M: ∀U Z y7 tr V X l (g:Nat→Nat→Nat),Nt a X l→Ag (kt w) s U ([(f,EE w.2 y nw t0 tn t1 pl cd td [Ad w Fr u (.int (Ds a) m)] 6),(cs,As sc),(cg,As gt),(gt,li gv gn)]++R) (([(f,EE w.2 y nw t0 tn t1 pl cd td [Ad w Fr u (.int (Ds a) m),Ad w LY Z (.ref tr),Ad w LW y7 (.ref V)] 8),(cs,As sc),(cg,As gt),(gt,li gv gn),(V,li (AL (((CK a).map λj=>X.getD j tz).take nw)) 0)]++((List.range (AN a).length).map λj=>(l j,li (BD ((AN a).getD j []) (g j)) 0))++TL X)++R)→Q .next U):
  wpAny (model pw w) B (execs [lw 7,lw 8] (Bv f cs cg)) Q E s:=by
 have N:gv.length=a.length:=G1 F;have v: ∀{h:Nat} {T l:Nat→Nat} {o:List Obj},(AN a).length=h→(∀W n,Av w (Nc W n (CA h T l (λj=>(AN a).getD j []) a o) (CK a)))∧Nt a (CA h T l (λj=>(AN a).getD j []) a o) l:=λ {h T l o} d=>by
  have z: ∀j,j<(AN a).length→((CA h T l (λj=>(AN a).getD j []) a o).getD j tz).c=8-((AN a).getD j []).length∧((CA h T l (λj=>(AN a).getD j []) a o).getD j tz).s=BY (Dj a ((AN a).getD j []))∧((CA h T l (λj=>(AN a).getD j []) a o).getD j tz).fj=l j:=λj O=>by
   rw[Ac2 (by (first|lia|omega))];exact⟨rfl,rfl,rfl⟩
  obtain⟨φ,D⟩:=K.dnt (X:=CA h T l (λj=>(AN a).getD j []) a o) λj O=>⟨(z j O).1,(z j O).2.1⟩
  have h3:=K.h3;exact⟨λW n=>rV (by rw[Pr,←d];exact K.perm) D (by rw[Pr];(first|lia|omega)) (by rw[Pr];(first|lia|omega)),by rw[Pr,d],z⟩
 have t:=K.hF
 by_cases A:Ld a=true
 ·rw[AS A]at t
  have G:AN a=I5 true (Ds a):=by unfold AN;rw[A]
  have d:=t;have C:Av w (Ib gt gn (Ds a) m gv 8 (AN a)):=by rw[G];exact rF N L (of_decide_eq_true A) K.v8
  refine Cp (sK w f cs cg sc gt gn nw t0 tn t1 pl cd td (Ds a) m u y gv a (AN a) (CK a)) id (Ai (Ai (Ai te5837675800663238876 f) cs) cg) I J uB (Az _ _ (Ah (λ_ _ _=>C) (Ah (λ_ _ _=>RW F (by decide) (by decide) λj _=>Sv a j) (Ah (λ_ _ _=>(v d).1 _ _) (Ah (λ_ _ _=>H4 .none (.int _ _) .none (by (first|((repeat(first|exact .head _|apply List.mem_cons_of_mem));done)|simp)) (by rw[BZ,K.ol,d];decide) (by rw[slicePick_upto'])) Ay))))) Ar R (.refl _) S λe r b s1 k=>Fi ?_;rw[Sw]at k;refine M s1 (r 0) (r 1) (e 10) (e 22) (CA 8 (λj=>e (12+j)) (λj=>e (1+j)) (λj=>(AN a).getD j []) a (R5 b)) (λj=>e (1+j)) (λj i=>Ao (W1 b) (1+3*j+i)) (v d).2 ?_;rw[d];exact k
 ·have H:Ld a=false:=by simpa using A
  have Y:a.length%2=0:=by
   have:=of_decide_eq_false H;(first|lia|omega)
  have G:AN a=I5 false (Ds a):=by unfold AN;rw[H]
  rw[AI A]at t
  by_cases P:Ds a=0
  ·rw[AS P]at t
   have d:=t;have C:Av w (Ib gt gn (Ds a) m gv 1 (AN a)):=by rw[G,P];exact rG N L Y
   refine Cp (sH w f cs cg sc gt gn nw t0 tn t1 pl cd td (Ds a) m u y gv a (AN a) (CK a)) id (Ai (Ai (Ai te5837675800663238876 f) cs) cg) I J uB (Az _ _ (Ah (λ_ _ _=>C) (Ah (λ_ _ _=>RW F (by decide) (by decide) λj _=>Sv a j) (Ah (λ_ _ _=>(v d).1 _ _) (Ah (λ_ _ _=>H4 .none (.int _ _) .none (by (first|((repeat(first|exact .head _|apply List.mem_cons_of_mem));done)|simp)) (by rw[BZ,K.ol,d];decide) (by rw[slicePick_upto'])) Ay))))) Ar R (.refl _) S λe r b s1 k=>Fi ?_;rw[Sw]at k;refine M s1 (r 0) (r 1) (e 3) (e 8) (CA 1 (λj=>e (5+j)) (λj=>e (1+j)) (λj=>(AN a).getD j []) a [b 4,b 5,b 6,b 7]) (λj=>e (1+j)) (λj i=>Ao [b 0,b 1,b 2,b 3] (1+3*j+i)) (v d).2 ?_;rw[d];exact k
  ·rw[AI P]at t
   have d:=t;have C:Av w (Ib gt gn (Ds a) m gv 4 (AN a)):=by rw[G];exact rH N L Y (by (first|lia|omega)) K.v8
   refine Cp (sJ w f cs cg sc gt gn nw t0 tn t1 pl cd td (Ds a) m u y gv a (AN a) (CK a)) id (Ai (Ai (Ai te5837675800663238876 f) cs) cg) I J uB (Az _ _ (Ah (λ_ _ _=>C) (Ah (λ_ _ _=>RW F (by decide) (by decide) λj _=>Sv a j) (Ah (λ_ _ _=>(v d).1 _ _) (Ah (λ_ _ _=>H4 .none (.int _ _) .none (by (first|((repeat(first|exact .head _|apply List.mem_cons_of_mem));done)|simp)) (by rw[BZ,K.ol,d];decide) (by rw[slicePick_upto'])) Ay))))) Ar R (.refl _) S λe r b s1 k=>Fi ?_;rw[Sw]at k;refine M s1 (r 0) (r 1) (e 6) (e 14) (CA 4 (λj=>e (8+j)) (λj=>e (1+j)) (λj=>(AN a).getD j []) a (R4 b)) (λj=>e (1+j)) (λj i=>Ao [b 0,b 1,b 2,b 3,b 4,b 5,b 6,b 7,b 8,b 9,b 10,b 11,b 12] (1+3*j+i)) (v d).2 ?_;rw[d];exact k
end
end
section
theorem Ac5:Pb=[lw 0,lw 1,lw 2,lw 3,lw 4,lw 5]++(lw 6::([lw 7,lw 8]++(lw 9::lw 10::[lw 11]))):=by kernel_rfl
section
variable {a:List Int}{X:List TE}{fa:Nat→Nat}{nw:Nat}
noncomputable abbrev Il(a:List Int)(X:List TE)(nw:Nat):List TE:=((CK a).map λj=>X.getD j tz).take nw
theorem Ac6(K:Ef a)(T:Nt a X fa):(TL X).Perm (TL (Il a X nw)++TL (((CK a).map λj=>X.getD j tz).drop nw)):=by
 have b:X.Perm ((CK a).map λj=>X.getD j tz):=by
  have:=(K.perm.map λj=>X.getD j tz).symm;rw[←T.len,OV]at this;exact this
 have e:TL (Il a X nw)++TL (((CK a).map λj=>X.getD j tz).drop nw)=TL ((CK a).map λj=>X.getD j tz):=by
  unfold TL;rw[←BC,NC]
 rw[e];exact b.map _
theorem XK(K:Ef a):(Il a X nw).length=min nw (AN a).length:=by
 show(((CK a).map λj=>X.getD j tz).take nw).length=_;rw[NJ,BZ,K.ol]
theorem Ac7(K:Ef a)(T:Nt a X fa){c:Nat}(e:c<16){b:Nat→Nat}(A:Al)(s:Ab):Lc A s (DU a c nw b) (DS (Il a X nw)):=by
 have l1:(DU a c nw b).length=min nw (AN a).length:=by unfold DU;rw[NJ,BZ,Gc]
 have g:(DS (Il a X nw)).length=min nw (AN a).length:=by unfold DS;rw[BZ,XK K]
 refine⟨l1.trans g.symm,λj h n=> ?_⟩;have d:j<(AN a).length:=Eh (l1▸h) (Nat.min_le_right _ _);have i:(DU a c nw b)[j]= .str (BY (Dj a (CY a j))) (b j):=by
  simp only[DU,Ll,J6,List.getElem_range,K.text e d]
 obtain⟨o,k,l⟩:=K.oat d;have m:(DS (Il a X nw))[j]= .str (BY (Dj a (CY a j))) (X.getD (CK a)[j] tz).st:=by
  simp only[DS,J6,Ll,(T.at' _ k).2.1,l]
 rw[i,m];have:=EqAt.str_str (A:=A) (s:=s) (BY (Dj a (CY a j))) (b j) (BY (Dj a (CY a j))) (X.getD (CK a)[j] tz).st;rwa[show(BY (Dj a (CY a j))==BY (Dj a (CY a j)))=true from beq_self_eq_true _]at this
theorem Ac8(K:Ef a)(T:Nt a X fa)(h: ∀F∈AN a,Pp a (Ec (chOf (Dj a F)) 8) F){g:Nat→Nat→Nat}{M:Ae}(i: ∀q∈TL (Il a X nw),q∈M)(k: ∀q∈(List.range (AN a).length).map λj=>(fa j,li (BD ((AN a).getD j []) (g j)) 0),q∈M): ∀e∈Il a X nw,Pq M a e:=by
 intro e d;refine⟨i _ (B7 d),?_⟩;obtain⟨j,b,rfl⟩:=List.mem_map.mp (Hm d);have b:j<(AN a).length:=List.mem_range.mp (K.perm.mem_iff.mp b);have c:=T.at' j b;refine⟨chOf (Dj a ((AN a).getD j [])),(AN a).getD j [],BD ((AN a).getD j []) (g j),0,c.2.1,?_,JJ _ _,h _ ?_⟩
 ·rw[c.2.2]
  exact k _ (B7 (List.mem_range.mpr b))
 ·rw[show(AN a).getD j []=(AN a)[j] by simp[List.getD,b]]
  exact Db b
end
theorem Ac9{w:Aa}{A:Al}{c:Code}{L Lt:Ae}{H:List Nat}{E:List (Nat×(List Nat→List Nat→List Obj→Ak))}{W:List Wd}{o d u n N:Nat}{v:List Nat}{f:Aw→Aw→AU→Code}{y:Aw→Aw→AU→Ae}
  (k:AD w n c L H E W o d u v (λb g i=>.again (f b g i)) y N) (F:Ae) (z:(L++F).Perm Lt) (C:A.handled=none) (D:A.depth≤d) (G:A.units≤u) (X: ∀q∈E,∀j l m,Av w (q.2 j l m)) (Y: ∀q∈W,∀j l m,(q.2 j l m).1=(q.2 j l m).2)
  {s:Ab} (S:An (kt w) s Lt) {R:Result→Ab→Prop} (fi: ∀b g i r,Ag (kt w) s r Lt (y b g i++F)→codeAny (model pw w) A (f b g i) R r) (t:BS v=true:=by rfl):codeAny (model pw w) A c R s:=by
 have B:=S.perm z.symm;refine NV GL (GM pw w w) (FK pw w) (hS w) (H:=H) (E:=E) (W:=W) (ag:=o) n C D G (λq I j l m _ _=>(X q I j l m).frm) Y B.left λb g i=> ?_;have h:=Gf k b g i;have J:=Am Prod.fst h;have K:=Am (λx=>x.2.1) h;have M:=Am (λx=>x.2.2.1) h;refine⟨J,λr O Q _=> ?_⟩;have P:(Ek den rooms GN ⟨pw,w.2⟩ ⟨pw,(wR true w).params⟩ ⟨pw,(wR false w).params⟩ (kt w) n b g i ⟨den c,c,[],L,[],[],[],H,E,W,o,d,u,.free⟩).e= .again (f b g i):=K;rw[P];exact fi b g i r (((O.pick M t).frame B).permL z)
theorem Ada{w:Aa}{B:Al}{f m r c:Nat}(N:B.handled=none)(O:B.depth≤440)(uB:B.units≤2000)(ae:B.frames=some [Bv f m r]){k:List Value}{ns:List Int}(hI:AV k ns)(hl:ns.length≤63){s:Ab}(ht:810≤s.toks)
  (S:An (kt w) s [(f,fr [] 0),(m,As c),(r,ce none),(c,li k 0),(248,AP []),(329,AP [])]) {Q:Flow→Ab→Prop} {E:Value→Ab→Prop}
  (hQ: ∀s' v1 v2,Ag (kt w) s s' [(f,fr [] 0),(m,As c),(r,ce none),(c,li k 0),(248,AP []),(329,AP [])] [(c,li k 0),(248,AP v1),(329,AP v2)]→Q (.ret IJ) s'):wpAny (model pw w) B (execs Pb (Bv f m r)) Q E s:=by
 obtain⟨Y,Z,p,H⟩:=pJ hI hl;have K:=XC p;have Sd:=Ace p;have ai:(Bz p 8).length≤8:=QB p 8;rw[Ac5];have S:An (kt w) s ([(f,fr [] 0),(m,As c),(r,ce none),(c,li k 0),(248,AP [])]++[(329,AP [])]):=S;refine Hd (Ac0 N O uB hI hl ht H S.left λs1 y nw t0 b t1 P R U d z T t u h ac al V G=> ?_);generalize ea:Bz p 8=a at*;have G:=(Ag.frame S G).permR (L'':=[(f,EE w.2 y nw t0 b t1 P R U [] 5),(m,As c),(r,As d),(d,li z a.length),(329,AP [])]++[(c,li k 0),(248,AP t),(P,li (Co T) 16),(R,li (Ca (Cz b) (Dh b T) 16) 0),(U,li (DU a b nw u) h)]) (AM [] [_,_,_,_,_,_,_,_,_,_] [1,3,5,11,13,7,15,17,19,9] [1,3,5,7,9,11,13,15,17,19]);refine CX (Ac3 N O uB K V G.sat λs2 y5 t5 e I=> ?_);have I:=(G.trans I).permR (L'':=[(f,EE w.2 y nw t0 b t1 P R U [Ad w Fr y5 (.int (Ds a) t5)] 6),(m,As c),(r,As d),(d,li z a.length)]++[(329,AP e),(c,li k 0),(248,AP t),(P,li (Co T) 16),(R,li (Ca (Cz b) (Dh b T) 16) 0),(U,li (DU a b nw u) h)]) (.refl _);refine Hd (Ac4 N O uB K V ai I.sat λs3 y6 y7 tr du X fa g TX v=> ?_);have h3:=K.h3;have pd:=Ac6 (nw:=nw) K TX;have dl:=XK (X:=X) (nw:=nw) K;generalize eD:Il a X nw=D at pd dl;generalize ((CK a).map λj=>X.getD j tz).drop nw=F at pd;generalize aj:((List.range (AN a).length).map λj=>(fa j,li (BD ((AN a).getD j []) (g j)) 0))=C at v;have ak:(((CK a).map λj=>X.getD j tz).take nw)=D:=eD;rw[ak]at v;let l:LV:=⟨nw,t0,b,t1,P,R,U,Ds a,t5,tr,du,λi=>[y 0,y 1,y 2,y 3,y 4,y5,y6,y7].getD i 0⟩
 have v:Ag (kt w) s s3 _ (([(f,Cg w.2 ⟨[]⟩ l [] 8),(m,As c),(r,As d),(d,li z a.length),(l.du,li (AL D) 0)]++C++TL X)++[(329,AP e),(c,li k 0),(248,AP t),(l.pl,li (Co T) 16),(l.cd,li (Ca (Cz b) (Dh b T) 16) 0),(l.td,li (DU a b nw u) h)]):=I.trans v;have q1:(([(f,Cg w.2 ⟨[]⟩ l [] 8),(m,As c),(r,As d),(d,li z a.length),(l.du,li (AL D) 0)]++C++TL X)++[(329,AP e),(c,li k 0),(248,AP t),(l.pl,li (Co T) 16),(l.cd,li (Ca (Cz b) (Dh b T) 16) 0),(l.td,li (DU a b nw u) h)]).Perm ([(f,Cg w.2 ⟨[]⟩ l [] 8),(l.du,li (AL D) 0),(l.td,li (DU a b nw u) h)]++TL D++([(m,As c),(r,As d),(d,li z a.length),(329,AP e),(c,li k 0),(248,AP t),(l.pl,li (Co T) 16),(l.cd,li (Ca (Cz b) (Dh b T) 16) 0)]++C++TL F)):=
  (((pd.append_left _).append_right _).trans (AM [C,TL D,TL F] [(f,Cg w.2 ⟨[]⟩ l [] 8),(m,As c),(r,As d),(d,li z a.length),(l.du,li (AL D) 0),(329,AP e),(c,li k 0),(248,AP t),(l.pl,li (Co T) 16),(l.cd,li (Ca (Cz b) (Dh b T) 16) 0),(l.td,li (DU a b nw u) h)] [0,12,0,6,1,3,5,7,9,2,0,1,4,6,11,13,15,17,19,21] [0,4,1,9,21,4,0,9,3,5,7,11,13,15,17,19,2,6]))
 have v:=v.permR q1;refine CX (Abx N O uB (by (first|lia|omega)) (by (first|lia|omega)) v.sat (λA s=>by rw[←eD];exact Ac7 K TX ac A s) λs4 J=> ?_);have q2:([(f,Cg w.2 ⟨[]⟩ l [] 8),(l.du,li (AL D) 0),(l.td,li (DU a b nw u) h)]++TL D++([(m,As c),(r,As d),(d,li z a.length),(329,AP e),(c,li k 0),(248,AP t),(l.pl,li (Co T) 16),(l.cd,li (Ca (Cz b) (Dh b T) 16) 0)]++C++TL F)).Perm ([(f,Cg w.2 ⟨[]⟩ l [] 8),(l.du,li (AL D) 0),(r,As d),(d,li z a.length)]++([(l.pl,li (Co T) 16),(l.cd,li (Ca (Cz b) (Dh b T) 16) 0),(c,li k 0),(248,AP t),(329,AP e)]++(TL D++C++[(m,As c),(l.td,li (DU a b nw u) h)]++TL F))):=
  AM [C,TL D,TL F] [(f,Cg w.2 ⟨[]⟩ l [] 8),(m,As c),(r,As d),(d,li z a.length),(l.du,li (AL D) 0),(329,AP e),(c,li k 0),(248,AP t),(l.pl,li (Co T) 16),(l.cd,li (Ca (Cz b) (Dh b T) 16) 0),(l.td,li (DU a b nw u) h)] [0,4,1,9,21,4,0,9,3,5,7,11,13,15,17,19,2,6] [0,4,1,9,5,7,0,5,17,19,13,15,11,0,8,0,4,0,1,4,2,3,21,6]
 have J:=(v.trans J).permR q2;have ad:=Ac8 (nw:=nw) K TX Sd (g:=g) (M:=[(l.pl,li (Co T) 16),(l.cd,li (Ca (Cz b) (Dh b T) 16) 0),(c,li k 0),(248,AP t),(329,AP e)]++(TL D++C++[(m,As c),(l.td,li (DU a b nw u) h)]++TL F)) (λq W=>by rw[eD]at W;exact BG _ (Dk _ (Dk _ (Dk _ W)))) (λq W=>by rw[aj]at W;exact BG _ (Dk _ (Dk _ (BG _ W))));rw[eD]at ad;refine CX (Acs N O uB ae V ad J.sat λs5 am x n L=> ?_);have q3: ∀o:Obj,([(f,o),(l.du,li (AL D) 0),(r,As d),(d,li z a.length)]++([(l.pl,li (Co T) 16),(l.cd,li (Ca (Cz b) (Dh b T) 16) 0),(c,li k 0),(248,AP t),(329,AP e)]++(TL D++C++[(m,As c),(l.td,li (DU a b nw u) h)]++TL F))).Perm ([(f,o),(l.pl,li (Co T) 16),(l.cd,li (Ca (Cz b) (Dh b T) 16) 0)]++([(c,li k 0),(248,AP t),(329,AP e)]++([(l.du,li (AL D) 0),(r,As d),(d,li z a.length)]++(TL D++C++[(m,As c),(l.td,li (DU a b nw u) h)]++TL F)))):=λo=>
  AM [TL D++C++[(m,As c),(l.td,li (DU a b nw u) h)]++TL F] [(f,o),(l.du,li (AL D) 0),(r,As d),(d,li z a.length),(l.pl,li (Co T) 16),(l.cd,li (Ca (Cz b) (Dh b T) 16) 0),(c,li k 0),(248,AP t),(329,AP e)] [1,3,5,7,9,11,13,15,17,2] [1,9,11,13,15,17,3,5,7,2]
 have L:=(J.trans L).permR (q3 _);refine CX (Aby N O uB (by rw[Su];decide) (XJ ac T) L.sat λs6 aa=> ?_);have aa:=L.trans aa;refine hQ s6 t e (aa.subs ?_);exact(EY [(c,li k 0),(248,AP t),(329,AP e)] _).trans (Nx _ _)
theorem Adb{w:Aa}{A:Al}(i:A.handled=none)(m:A.depth≤420)(n:A.units≤1900)(j:A.frames=some []){b:Nat}{c:List Value}{k:List Int}(o:AV c k)(t:k.length≤63){s:Ab}(u:810≤s.toks)(S:An (kt w) s [(b,li c 0),(248,AP []),(329,AP [])]):
  codeAny (model pw w) A (.call (.ref 332) ⟨[.ref b],[]⟩) (λr v=>r= .ok (.ret IJ)∧B6 λe g=>Ag (kt w) s v [(b,li c 0),(248,AP []),(329,AP [])] [(b,li c 0),(248,AP e),(329,AP g)]) s:=by
 refine Ac9 (sL w b) [(b,li c 0),(248,AP []),(329,AP [])] (.refl _) i m n AR Ar S λh y z s1 d=> ?_;refine codeAny_func ?_;exact Ada (B:=A.deeper (Bv (h 0) (h 1) (h 2))) i (by refine (?_:A.depth+1≤440);(first|lia|omega)) (by refine (?_:A.units+3≤2000);(first|lia|omega)) (Around.frames_deeper j) o t (AC u d.toks) d.sat λs2 e g l=>⟨rfl,e,g,d.trans l⟩
end
set_option maxHeartbeats 4000000
section
open PySem.W.ZRun
theorem Adc(P:Aj):Jp=(frag P).map (·.1):=by kernel_rfl
theorem Ade(P:Aj):B6 λa b=>(o3 P).data= .dict a b∧nsFind a (Str.ofString "law")=some (.ref 332):=by
 rw[show o3=tw11556547117343562602 from te11556547117343562602];have h:(match(tw11556547117343562602 P).data with| .dict a _=>nsFind a (Str.ofString "law")|_=>none)=some (.ref 332):=by kernel_rfl
 revert h;cases(tw11556547117343562602 P).data <;> intro h <;> first|cases h|exact⟨_,_,rfl,h⟩
theorem Adf{h:Heap}{P:Aj}{a:Str→Option Value}{b:Addr}(g:h.Ns 3 a)(e:h.get? 3=some (o3 P))(c:a (Str.ofString "law")=some (.ref b)):b=332:=by
 obtain⟨o,r,s,d,i,_,j⟩:=g;obtain⟨m,n,k,l⟩:=Ade P;rw[e]at d;cases d;rw[k]at i;cases i;rw[←j,l]at c;cases c;rfl
noncomputable def Sy(a:List Value):Obj:={cls:=.type "list",data:=.seq a.toArray}
theorem Adg{g a:Array GenState}(h:Dx g a)(e:g= #[]):AllBare a:=by
 obtain⟨x,b,c⟩:=h;subst e;intro y d;have:y∈a.toList:=Array.mem_toList_iff.mpr d;rw[b]at this;simp only[List.nil_append]at this;exact c y this
theorem Adh{w:Aa}{s:Ab}{d:List Value}(e:InK frag w s.heap)(h:s.heap.get? 333=some (Sy d))(g: ∀a o,(kt w).get a=some o→s.heap.get? a=some o∧a≠333∧a≠248∧a≠329):An (kt w) s [(333,Sy d),(248,tableObj #[]),(329,tableObj #[])]:=by
 have i:s.heap.get? 248=some (tableObj #[]):=e 248 (PF w.2) (by kernel_rfl);have j:s.heap.get? 329=some (tableObj #[]):=e 329 (PG w.2) (by kernel_rfl);refine⟨λp b=> ?_,by (first|((repeat(first|exact .head _|apply List.mem_cons_of_mem));done)|simp),λa o c=>(g a o c).1,λp b a o c=> ?_⟩
 ·simp only[Jm,Jk,or_false]at b
  rcases b with rfl|rfl|rfl
  ·exact h
  ·exact i
  ·exact j
 ·have z:=(g a o c).2
  simp only[Jm,Jk,or_false]at b;rcases b with rfl|rfl|rfl
  ·exact z.1
  ·exact z.2.1
  ·exact z.2.2
theorem Adi(w:Aa):(kt w).get 248=none:=by kernel_rfl
theorem Adj(w:Aa):(kt w).get 329=none:=by kernel_rfl
theorem Adk(w:Aa):(kt w).get 333=none:=by kernel_rfl
theorem XM{h:Heap}(f:Nat×Obj→Bool): ∀{K:Frag},AllIn h K→AllIn h (List.filter f K)
 |[],_=>trivial
 |p::K,a=>by
  have z:=XM f a.2
  by_cases e:f p=true
  ·rw[Pu e];exact⟨a.1,z⟩
  ·rw[Pv e];exact z
theorem Adl{T:KT}{h d:Heap}(H:KT.Holds h 1 0 T)(i:T.get 333=none)(j:T.get 248=none)(k:T.get 329=none)(c: ∀b o,h.get? b=some o→d.get? b=some o): ∀a o,T.get a=some o→d.get? a=some o∧a≠333∧a≠248∧a≠329:=by
 intro a o e;have g:=KT.Holds.get H e;rw[Nat.one_mul,Lx]at g;refine⟨c a o g,?_,?_,?_⟩ <;> rintro rfl
 ·rw[i]at e;cases e
 ·rw[j]at e;cases e
 ·rw[k]at e;cases e
theorem Adm{F G:Aj→Frag}(e:F=G){P:Aj}{h d:Heap}(g:AllIn h (F P))(i:(LN (G P)).get 333=none)(j:(LN (G P)).get 248=none)(k:(LN (G P)).get 329=none)(c: ∀b o,h.get? b=some o→d.get? b=some o): ∀a o,(LN (G P)).get a=some o→d.get? a=some o∧a≠333∧a≠248∧a≠329:=by
 subst e;exact Adl (holds_of (XM Tr g)) i j k c
theorem Adn{w:Aa}{h d:Heap}(e:AllIn h (frag w.2))(c: ∀b o,h.get? b=some o→d.get? b=some o): ∀a o,(kt w).get a=some o→d.get? a=some o∧a≠333∧a≠248∧a≠329:=
 Adm te11500880152897323899 e (Adk w) (Adi w) (Adj w) c
theorem XN{w:Aa}{h:Heap}(d:InK frag w h)(c:Addr)(o:Obj){b:Addr}(e:List.lookup c (frag w.2)=some o)(g:o.cls= .type "code")(i: ∃a:Array Value,o.data= .fields a∧a[11]? =some (.ref b)):isCodeTable h b:=by
 obtain⟨a,j,k⟩:=i;exact⟨c,o,a,d c o e,g,j,k⟩
theorem Ado(d:DefRec)(i:List (Str×PySem.Expr))(u:defOf q (Str.ofString "law")=some (d,i)):WalkX q It (XL q []) (obsZ Jp) (valZ frag 333 810) PySem.Challenge.rw_oh0120_01.row.toRowW d i λf e=>PySem.call f e:=by
 intro w m a mg mb G y fa o pm cd aa dV kV ho M ac hD j N O P as L n s v z C;obtain⟨Q,U,V,W⟩:=z_facts Adc y;have b:=Laid.keeps L;refine Ground.open G ?_;intro T B D TE TW
 wrow_args n s v z C
 have g:=InK.keeps w m.heap a.heap U b;obtain⟨k,E⟩:=script_at L;rw[V]at k E;subst k;have X:d.name=Str.ofString "law":=defOf_name u;rw[X]at j;have Y:a.heap.get? 3=some (o3 w.2):=g 3 (o3 w.2) (by kernel_rfl);have F:=Adf T.g Y j;subst F;rename_i ns hs ad K ae ai aj ak e al ra Z am an ao hL w1 r0;have l:=script_obj L hL;have S:=Adh g l (Adn Q b);have H:Sy e=li e 0:=(BX e 0).symm;have S:An (kt w) a [(333,li e 0),(248,AP []),(329,AP [])]:=H▸S;have tk:810≤a.toks:=script_toks L W;have R:=Adb (w:=w) (A:=callerA) rfl (by decide) (by decide) rfl Z (by (first|lia|omega)) tk S;rw[←PE]at R;have I:isCodeTable a.heap 248:=XN g 252 (SM w.2) (by kernel_rfl) rfl ⟨_,rfl,rfl⟩;have J:isCodeTable a.heap 329:=XN g 331 (SN w.2) (by kernel_rfl) rfl ⟨_,rfl,rfl⟩;have e1:a.heap.get? 248=some (tableObj #[]):=g 248 (PF w.2) (by kernel_rfl);have e2:a.heap.get? 329=some (tableObj #[]):=g 329 (PG w.2) (by kernel_rfl);refine x_call (c:=.call (.ref 332) ⟨[.ref 333],[]⟩) (hd:=none) (B5 R λr s' hr=> ?_) (by intro h;cases h);obtain⟨rfl,v1,v2,t⟩:=hr;refine Ap ?_;exact⟨.inl ⟨_,_,[],rfl,λ_=>rfl,ReadsW.bool true,by wrow_post,λ_=>⟨List.nodup_nil,λ_ hm=>(nomatch hm)⟩⟩,xK l I J e1 e2 t,t.os,Adg t.gens N⟩
theorem holdsAll:PySem.Challenge.rw_oh0120_01.Holds:=main Ado
end
end
end Mine
set_option maxHeartbeats 4000000 in
theorem PySem.Challenge.cw_oh0120_01_holds : PySem.Challenge.rw_oh0120_01.Holds :=
  Mine.holdsAll
